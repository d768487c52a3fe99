/- The walks of io.ReadAtLeast and io.ReadFull over GetUint's own reader. -/
import Derived.Test.YtfagifnebjkaeaaDoorRead
namespace Go.Proofs
open Go.RowKit Go.Gob

set_option maxRecDepth 20000 in
set_option maxHeartbeats 1000000 in
/-- Read, at the end -/
theorem Read_end (w : World) (s pb db bb off n cap : Nat) (ev : Value) (hS : Srce w s pb db []) (hev : w.cell? ⟨0, 0, none⟩ = some ev) (hs0 : s ≠ 0) :
   Calls Tryd.prog 59 #[.pointer (some ⟨s, 0, none⟩), .slice (some ⟨bb, off, none⟩) n cap] w fun e w' => e = .returned (.tuple #[.int .i64 0, ev]) ∧ Srce w' s pb db [] ∧ Kept (SrcReg s pb) w w' := by
  have HS := Lib.hid hS
  obtain ⟨⟨d, c, hp⟩, hl, hf0, hf1, hfp, hlt, hne⟩ := hS
  rcases hp with ⟨h1, h2, _, _, _⟩ | ⟨bs, h1, _⟩
  · have K := Lib.hid (Kept.setCell (F := SrcReg s pb) w s 0 (.slice (some ⟨pb, 0, none⟩) 0 0) (.inl ⟨rfl, by omega⟩))
    have h3 := World.cell?_setCell_same w ⟨s, 0, none⟩ (.slice (some ⟨pb, 0, none⟩) 0 0) h1
    have h4 : (w.setCell ⟨s, 0, none⟩ (.slice (some ⟨pb, 0, none⟩) 0 0)).cell? ⟨0, 0, none⟩ = some ev := by rw [World.cell?_setCell_other _ _ _ _ (by simp <;> omega)]; exact hev
    have hS2 : Srce (w.setCell ⟨s, 0, none⟩ (.slice (some ⟨pb, 0, none⟩) 0 0)).drew s pb db [] := by
      refine ⟨⟨0, 0, .inr ⟨_, h3, rfl⟩⟩, ?_, ?_, ?_, ?_, by simpa using hlt, hne⟩
      · rw [World.cell?_drew, World.cell?_setCell_other _ _ _ _ (by simp)]; exact hl
      · rw [World.frozen?_drew, World.frozen?_setCell]; exact hf0
      · rw [World.frozen?_drew, World.frozen?_setCell]; exact hf1
      · rw [World.frozen?_drew, World.frozen?_setCell]; exact hfp
    have HS2 := Lib.hid hS2
    clear hS2 hl hf1 hfp
    simp only [List.length_nil] at h2
    go_enter Tryd.func59, Tryd.ntmps59
    go_wp2_with fail
    refine wp_loop_rounds 2 ?_
    rw [rounds_succ]
    go_wp2_with fail
    rw [rounds_succ]
    go_wp2_with fail
    go_region
    go_wp2_with fail
    go_ret2
    exact ⟨rfl, HS2.out, K.out.trans (Kept.drew _) (fun _ _ _ h => h)⟩
  · clear hl hf1 hfp hf0
    have HS2 : Hid (Srce w.drew s pb db []) := by
      have h := HS.out
      exact ⟨h.parts, h.left, h.free0, h.free1, h.freep, h.lt, h.ne⟩
    go_enter Tryd.func59, Tryd.ntmps59
    go_wp2_with fail
    refine wp_loop_rounds 1 ?_
    rw [rounds_succ]
    go_wp2_with fail
    go_region
    go_wp2_with fail
    go_ret2
    exact ⟨rfl, HS2.out, Kept.drew _⟩

theorem Srce.drew {w : World} {s pb db : Nat} {rest : List UInt8} (h : Srce w s pb db rest) : Srce w.drew s pb db rest := ⟨h.parts, h.left, h.free0, h.free1, h.freep, h.lt, h.ne⟩

theorem Tryd.nilRead (a : Addr) (w : World) : (nilAhead 314 38 (.pointer (some a)) "Read").run Tryd.prog w = .ok (some false) w := by kernel_rfl
theorem Tryd.methodRead (v : Value) (w : World) : (Go.method 314 38 v "Read").run Tryd.prog w = .ok (59, v) w := by kernel_rfl

set_option maxRecDepth 20000 in
set_option maxHeartbeats 1000000 in
/-- ReadAtLeast, at the end -/
theorem ReadAtLeast_end (w : World) (s pb db bb off n cap : Nat) (ev : Value) (ea : Addr) (hea : ev = .iface 97 (.pointer (some ea))) (hS : Srce w s pb db []) (hev : w.cell? ⟨0, 0, none⟩ = some ev) (hs0 : s ≠ 0) (hn : 1 ≤ n) (hcap : n ≤ cap) (hcm : cap ≤ 1000000) :
   Calls Tryd.prog 42 #[.iface 38 (.pointer (some ⟨s, 0, none⟩)), .slice (some ⟨bb, off, none⟩) n cap, .int .i64 n] w fun e w' => e = .returned (.tuple #[.int .i64 0, ev]) ∧ Srce w' s pb db [] ∧ Kept (SrcReg s pb) w w' := by
  subst hea
  have mR := Tryd.methodRead
  have nR := Tryd.nilRead
  have HS := Lib.hid hS.drew
  clear hS
  have hn0 : decide ((n : Int) ≤ 0) = false := by simp; omega
  go_enter Tryd.func42, Tryd.ntmps42
  go_wp2_with fail
  refine wp_loop_rounds 2 ?_
  rw [rounds_succ]
  go_wp2_with fail
  go_region_with (go_at_call 59; refine (Read_end _ s pb db bb off n cap (.iface 97 (.pointer (some ea))) ?_ ?_ hs0).mono ?_; exact HS.out; exact hev; rintro e w' ⟨rfl, hS', hk⟩)
  have HS' := Lib.hid hS'
  have HK := Lib.hid hk
  clear hS' hk
  go_wp2_with fail
  rw [rounds_succ]
  go_wp2_with fail
  go_ret2
  exact ⟨rfl, HS'.out, (Kept.drew w).trans HK.out (fun _ _ _ h => h)⟩

set_option maxRecDepth 20000 in
set_option maxHeartbeats 1000000 in
/-- ReadAtLeast, where enough is left -/
theorem ReadAtLeast_full (w : World) (s pb db bb off n cap : Nat) (ys zs : List UInt8) (hS : Srce w s pb db (ys ++ zs)) (hroom : Room w bb off n) (hb : bb ≠ s ∧ bb ≠ pb ∧ bb ≠ db) (hn : 1 ≤ n) (hcap : n ≤ cap) (hcm : cap ≤ 1000000) (hy : ys.length = n) :
   Calls Tryd.prog 42 #[.iface 38 (.pointer (some ⟨s, 0, none⟩)), .slice (some ⟨bb, off, none⟩) n cap, .int .i64 n] w fun e w' => e = .returned (.tuple #[.int .i64 n, .nilIface]) ∧ ReadPost w s pb db bb off n ys zs w' := by
  have mR := Tryd.methodRead
  have nR := Tryd.nilRead
  obtain ⟨⟨d, c, hp⟩, hl, hf0, hf1, hfp, hlt, hne⟩ := hS
  rcases hp with ⟨h1, h2, hc, hcm2, hrd⟩ | ⟨bs, h1, h2⟩
  · have HR := Lib.hid (Read_some w.drew s pb db bb off n cap d c ys zs h1 h2 hl hf0 hf1 hfp hne hlt hrd hc hcm2 hroom hb (fun e => by subst e; simp at hy; omega) (by omega) (.inl hy))
    clear h1 h2 hl hf0 hf1 hfp hne hlt hrd hc hcm2 hroom hb
    have hn0 : decide ((n : Int) ≤ 0) = false := by simp; omega
    rw [hy] at HR
    have HY := Lib.hid hy
    clear hy
    go_enter Tryd.func42, Tryd.ntmps42
    go_wp2_with fail
    refine wp_loop_rounds 2 ?_
    rw [rounds_succ]
    go_wp2_with fail
    go_region_with (go_at_call 59; refine HR.out.mono ?_; rintro e w' ⟨rfl, hP⟩)
    have HP := Lib.hid hP
    clear hP HR
    go_wp2_with fail
    rw [rounds_succ]
    go_wp2_with fail
    go_ret2
    exact ⟨rfl, HP.out.1, HP.out.2.1, HP.out.2.2.1, (Kept.drew w).trans HP.out.2.2.2 (fun _ _ _ h => h)⟩
  · have : ys.length = 0 := by
      have := congrArg List.length h2
      rw [List.length_append] at this
      simp at this
      simp [this]
    omega

set_option maxRecDepth 20000 in
set_option maxHeartbeats 1000000 in
/-- ReadAtLeast, where too little is left -/
theorem ReadAtLeast_cut (w : World) (s pb db bb off n cap : Nat) (ys : List UInt8) (ea : Addr) (uv : Value) (hS : Srce w s pb db ys) (hroom : Room w bb off n) (hb : bb ≠ s ∧ bb ≠ pb ∧ bb ≠ db) (hcap : n ≤ cap) (hcm : cap ≤ 1000000) (hy0 : 1 ≤ ys.length) (hy : ys.length < n)
    (hev : w.cell? ⟨0, 0, none⟩ = some (.iface 97 (.pointer (some ea)))) (huv : w.cell? ⟨1, 0, none⟩ = some uv) (hs0 : 2 ≤ s ∧ 2 ≤ pb ∧ 2 ≤ bb) :
   Calls Tryd.prog 42 #[.iface 38 (.pointer (some ⟨s, 0, none⟩)), .slice (some ⟨bb, off, none⟩) n cap, .int .i64 n] w fun e w' => e = .returned (.tuple #[.int .i64 ys.length, uv]) ∧ ReadPost w s pb db bb off n ys [] w' := by
  have mR := Tryd.methodRead
  have nR := Tryd.nilRead
  have hS0 := hS
  obtain ⟨⟨d, c, hp⟩, hl, hf0, hf1, hfp, hlt, hne⟩ := hS
  rcases hp with ⟨h1, h2, hc, hcm2, hrd⟩ | ⟨bs, h1, h2⟩
  · have HR := Lib.hid (Read_some w.drew s pb db bb off n cap d c ys [] h1 (by rw [List.append_nil]; exact h2) (by rw [List.append_nil]; exact hl) hf0 hf1 hfp hne hlt (by rw [List.append_nil]; exact hrd) (by rw [List.append_nil]; exact hc) hcm2 hroom hb
      (fun e => by subst e; simp at hy0) (by omega) (.inr rfl))
    clear h1 h2 hl hf0 hf1 hfp hlt hrd hc hcm2 hroom hS0
    have hn0 : decide ((n : Int) ≤ 0) = false := by simp; omega
    obtain ⟨i, hi, hcmp⟩ := Option.map_eq_some_iff.1 Tryd.isComp
    obtain ⟨j, hj, hjs⟩ := Option.map_eq_some_iff.1 Tryd.isSize
    have heq := fun w => run_eql_iface_ptr_same (P := Tryd.prog) w ea Tryd.underlying43 Tryd.underlying97 hi hcmp hj
    go_enter Tryd.func42, Tryd.ntmps42
    go_wp2_with fail
    refine wp_loop_rounds 3 ?_
    rw [rounds_succ]
    go_wp2_with fail
    go_region_with (go_at_call 59; refine HR.out.mono ?_; rintro e w' ⟨rfl, hP⟩)
    have HP := Lib.hid hP
    have hev1 := hP.2.2.2.at hev (by rintro ((⟨h, _⟩ | ⟨h, _⟩) | ⟨h, _⟩) <;> omega)
    have huv1 := hP.2.2.2.at huv (by rintro ((⟨h, _⟩ | ⟨h, _⟩) | ⟨h, _⟩) <;> omega)
    clear hP HR hev huv
    go_wp2_with fail
    rw [rounds_succ]
    go_wp2_with fail
    have HSd := Lib.hid HP.out.1.drew
    go_region_with (go_at_call 59; refine (Read_end _ s pb db bb (off + ys.length) (n - ys.length) (cap - ys.length) (.iface 97 (.pointer (some ea))) ?_ ?_ (by omega)).mono ?_; exact HSd.out; exact hev1; rintro e w2 ⟨rfl, hS2, hk2⟩)
    all_goals (
      have hev2 := hk2.at (b := 0) (o := 0) hev1 (by rintro (⟨h, _⟩ | ⟨h, _⟩) <;> omega)
      have huv2 := hk2.at (b := 1) (o := 0) huv1 (by rintro (⟨h, _⟩ | ⟨h, _⟩) <;> omega)
      have HS2 := Lib.hid hS2
      have HK2 := Lib.hid hk2
      clear hS2 hk2 hev1 huv1
      go_wp2_with fail
      rw [rounds_succ]
      go_wp2_with fail
      go_ret2
      refine ⟨rfl, HS2.out, ?_, ?_, ?_⟩
      · exact HP.out.2.1.kept ((Kept.drew _).trans HK2.out (fun _ _ _ h => h)) (fun i _ h => by rcases h with ⟨h, _⟩ | ⟨h, _⟩ <;> omega)
      · exact HP.out.2.2.1.kept ((Kept.drew _).trans HK2.out (fun _ _ _ h => h)) (fun i _ h => by rcases h with ⟨h, _⟩ | ⟨h, _⟩ <;> omega)
      · exact ((Kept.drew w).trans HP.out.2.2.2 (fun _ _ _ h => h)).trans ((Kept.drew _).trans HK2.out (fun _ _ _ h => h)) (fun _ _ _ h => .inl h))
  · subst h2; simp at hy0

set_option maxRecDepth 20000 in
set_option maxHeartbeats 1000000 in
theorem ReadFull_of (w : World) (r : Value) (bs : Option Addr) (n cap : Nat) (R : Ending → World → Prop)
   (h : Calls Tryd.prog 42 #[r, .slice bs n cap, .int .i64 n] w R) (hR : ∀ e w', R e w' → ∃ v1 v2, e = .returned (.tuple #[v1, v2])) : Calls Tryd.prog 37 #[r, .slice bs n cap] w R := by
  have H := Lib.hid h
  have HR := Lib.hid hR
  clear h hR
  go_enter Tryd.func37, Tryd.ntmps37
  go_wp2_with fail
  refine H.out.mono ?_
  intro e w' hr
  obtain ⟨v1, v2, rfl⟩ := HR.out e w' hr
  have HR2 := Lib.hid hr
  clear hr
  go_wp2_with fail
  exact HR2.out
end Go.Proofs
