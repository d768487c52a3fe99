/- The walk of decodeUintReader over GetUint's own reader, case by case. -/
import Derived.Test.YtfagifnebjkaeaaDoorFull
import Derived.Test.YtfagifnebjkaeaaDoorNums
import Derived.Laws.Bits
namespace Go.Proofs
open Go.RowKit Go.Gob

theorem reg19 {s pb bb : Nat} (n : Nat) (hn : n ≤ 9) : ∀ b o, ReadReg s pb bb 0 n b o → ReadReg s pb bb 0 9 b o := by
  rintro b o (h | ⟨h1, h2, h3⟩)
  · exact .inl h
  · exact .inr ⟨h1, h2, by omega⟩

theorem Srce.kept {F : Reg} {w w' : World} {s pb db : Nat} {rest : List UInt8} (h : Srce w s pb db rest) (hk : Kept F w w') (hF : ∀ b o, SrcReg s pb b o → ¬ F b o) (hd : ∀ o, ¬ F db o) : Srce w' s pb db rest := by
  obtain ⟨⟨d, c, hp⟩, hl, hf0, hf1, hfp, hlt, hne⟩ := h
  refine ⟨⟨d, c, ?_⟩, hk.at hl (hF _ _ (.inl ⟨rfl, by omega⟩)), hk.free (World.block_lt_of_cell? w _ hl) hf0, hk.free (World.block_lt_of_cell? w _ hl) hf1, hk.free hlt.1 hfp, ⟨Nat.lt_of_lt_of_le hlt.1 hk.size, Nat.lt_of_lt_of_le hlt.2 hk.size⟩, hne⟩
  rcases hp with ⟨h1, h2, hc, hcm, hr⟩ | ⟨bs, h1, h2⟩
  · exact .inl ⟨hk.at h1 (hF _ _ (.inl ⟨rfl, by omega⟩)), hk.at h2 (hF _ _ (.inr ⟨rfl, rfl⟩)), hc, hcm, hr.kept hk (fun i _ => hd _)⟩
  · exact .inr ⟨bs, hk.at h1 (hF _ _ (.inl ⟨rfl, by omega⟩)), h2⟩

theorem neg_i8 (c : UInt8) (h : 128 ≤ c.toNat) : wrap64 (-wrap64 (IntKind.i8.wrap (c.toNat : Int))) = ((256 - c.toNat : Nat) : Int) := by
  have h2 := c.toNat_lt
  have e : IntKind.i8.wrap (c.toNat : Int) = (c.toNat : Int) - 256 := by
    simp only [IntKind.wrap, IntKind.bits, IntKind.signed]
    simp
    split <;> omega
  rw [e]
  unfold wrap64
  omega

/-- the number that some bytes are, high byte first -/
def decV (l : List UInt8) : Nat := l.foldl (fun a c => a * 256 + c.toNat) 0

theorem decV_snoc (l : List UInt8) (c : UInt8) : decV (l ++ [c]) = decV l * 256 + c.toNat := by simp [decV]

theorem decV_lt : ∀ (n : Nat) (l : List UInt8), l.length = n → decV l < 256 ^ n
  | 0, l, h => by
    have : l = [] := List.eq_nil_of_length_eq_zero h
    subst this; simp [decV]
  | n + 1, l, h => by
    have hne : l ≠ [] := fun e => by subst e; simp at h
    have e := List.dropLast_concat_getLast hne
    have ih := decV_lt n l.dropLast (by rw [List.length_dropLast]; omega)
    rw [← e, decV_snoc, Nat.pow_succ]
    have := (l.getLast hne).toNat_lt
    omega

theorem dec_step (V : Nat) (c : UInt8) (k : Nat) (hk : k < 8) (hV : V < 256 ^ k) :
    bits BinOp.or IntKind.u64 (IntKind.u64.wrap ((V : Int) * 256)) (IntKind.u64.wrap (c.toNat : Int)) = ((V * 256 + c.toNat : Nat) : Int) := by
  have hl7 : V < 72057594037927936 := Nat.lt_of_lt_of_le hV (by
    have : (256 : Nat) ^ k ≤ 256 ^ 7 := Nat.pow_le_pow_right (by omega) (by omega)
    omega)
  have h2 := c.toNat_lt
  have e : IntKind.u64.wrap ((V : Int) * 256) = ((2 ^ 8 * V : Nat) : Int) := by rw [u64w]; omega
  have e2 : IntKind.u64.wrap (c.toNat : Int) = (c.toNat : Int) := by rw [u64w]; omega
  rw [e, e2, u64_or_nat _ _ (by omega) (by omega), Nat.or_comm, or_hl 8 _ _ (by omega)]
  congr 1
  omega

def badText : List UInt8 := [103, 111, 98, 58, 32, 101, 110, 99, 111, 100, 101, 100, 32, 117, 110, 115, 105, 103, 110, 101, 100, 32, 105, 110, 116, 101, 103, 101, 114, 32, 111, 117, 116, 32, 111, 102, 32, 114, 97, 110, 103, 101]

set_option maxRecDepth 20000 in
theorem errBadUint_any (w : World) :
   Calls Tryd.prog 38 #[] w fun e w' => e = .returned (.iface 97 (.pointer (some ⟨w.heap.size, 0, none⟩))) ∧ w' = w.alloc (.cells #[.string ⟨badText.toArray⟩] 99) := by
  go_enter Tryd.func38, Tryd.ntmps38
  go_wp2
  go_ret
  exact ⟨rfl, rfl⟩

theorem ReadPost.room {w w' : World} {s pb db bb n : Nat} {ys zs : List UInt8} (h : ReadPost w s pb db bb 0 n ys zs w') (hr : Room w bb 0 9) (hb : bb ≠ s ∧ bb ≠ pb ∧ bb ≠ db) : Room w' bb 0 9 := by
  intro i hi
  by_cases hn : i < n
  · exact h.2.2.1 i hn
  · obtain ⟨⟨c, hc⟩, hf⟩ := hr i hi
    refine ⟨⟨c, h.2.2.2.at hc ?_⟩, h.2.2.2.free (World.block_lt_of_cell? w _ hc) hf⟩
    rintro ((⟨h, _⟩ | ⟨h, _⟩) | ⟨_, _, h⟩) <;> omega


set_option maxRecDepth 20000 in
set_option maxHeartbeats 1000000 in
theorem dec_end (w : World) (s pb db bb : Nat) (hs0 : 2 ≤ s ∧ 2 ≤ pb ∧ 2 ≤ bb) (ea : Addr) (hev : w.cell? ⟨0, 0, none⟩ = some (.iface 97 (.pointer (some ea))))
   (hS : Srce w s pb db []) :
   Calls Tryd.prog 27 #[.iface 38 (.pointer (some ⟨s, 0, none⟩)), .slice (some ⟨bb, 0, none⟩) 9 9] w fun e w' => e = .returned (.tuple #[.int .u64 0, .int .i64 1, .iface 97 (.pointer (some ea))]) ∧ Srce w' s pb db [] ∧ Kept (ReadReg s pb bb 0 9) w w' := by
  have HC := Lib.hid (ReadFull_of w _ _ _ _ _ (ReadAtLeast_end w s pb db bb 0 1 9 _ ea rfl hS hev (by omega) (by omega) (by omega) (by omega)) (fun _ _ h => ⟨_, _, h.1⟩))
  clear hS hev
  go_enter Tryd.func27, Tryd.ntmps27
  go_wp2_with fail
  refine HC.out.mono ?_
  rintro e w' ⟨rfl, hS, hk⟩
  have HS := Lib.hid hS
  have HK := Lib.hid hk
  clear hS hk HC
  go_wp2_with fail
  go_ret3
  exact ⟨rfl, HS.out, HK.out.wide (fun _ _ _ h => .inl h)⟩

set_option maxRecDepth 20000 in
set_option maxHeartbeats 1000000 in
theorem dec_small (w : World) (s pb db bb : Nat) (hroom : Room w bb 0 9) (hb : bb ≠ s ∧ bb ≠ pb ∧ bb ≠ db)
   (c : UInt8) (zs : List UInt8) (hS : Srce w s pb db (c :: zs)) (hc : c.toNat < 128) :
   Calls Tryd.prog 27 #[.iface 38 (.pointer (some ⟨s, 0, none⟩)), .slice (some ⟨bb, 0, none⟩) 9 9] w fun e w' => e = .returned (.tuple #[.int .u64 c.toNat, .int .i64 1, .nilIface]) ∧ Srce w' s pb db zs ∧ Kept (ReadReg s pb bb 0 9) w w' := by
  have HC := Lib.hid (ReadFull_of w _ _ _ _ _ (ReadAtLeast_full w s pb db bb 0 1 9 [c] zs hS (fun i hi => hroom i (by omega)) hb (by omega) (by omega) (by omega) rfl) (fun _ _ h => ⟨_, _, h.1⟩))
  have hcd : decide ((c.toNat : Int) ≤ 127) = true := by simp; omega
  clear hS hroom
  go_enter Tryd.func27, Tryd.ntmps27
  go_wp2_with fail
  refine HC.out.mono ?_
  rintro e w' ⟨rfl, hP⟩
  have hc0 := hP.2.1 0 c rfl
  have HP := Lib.hid hP
  unfold u8v at hc0
  clear hP HC
  go_wp2_with fail
  go_ret3
  exact ⟨rfl, HP.out.1, HP.out.2.2.2.wide (fun b o _ h => reg19 1 (by omega) b o h)⟩

set_option maxRecDepth 20000 in
set_option maxHeartbeats 1000000 in
theorem dec_bad (w : World) (s pb db bb : Nat) (hroom : Room w bb 0 9) (hb : bb ≠ s ∧ bb ≠ pb ∧ bb ≠ db)
   (c : UInt8) (zs : List UInt8) (hS : Srce w s pb db (c :: zs)) (hc : 128 ≤ c.toNat) (hc2 : 8 < 256 - c.toNat) :
   Calls Tryd.prog 27 #[.iface 38 (.pointer (some ⟨s, 0, none⟩)), .slice (some ⟨bb, 0, none⟩) 9 9] w fun e w' => ∃ g, e = .returned (.tuple #[.int .u64 0, .int .i64 1, .iface 97 (.pointer (some ⟨g, 0, none⟩))]) ∧
     w'.heap[g]? = some (.cells #[.string ⟨badText.toArray⟩] 99 (0, 0)) ∧ w.heap.size ≤ g ∧ Srce w' s pb db zs ∧ Kept (ReadReg s pb bb 0 9) w w' := by
  have HC := Lib.hid (ReadFull_of w _ _ _ _ _ (ReadAtLeast_full w s pb db bb 0 1 9 [c] zs hS (fun i hi => hroom i (by omega)) hb (by omega) (by omega) (by omega) rfl) (fun _ _ h => ⟨_, _, h.1⟩))
  have hcd : decide ((c.toNat : Int) ≤ 127) = false := by simp; omega
  have EN := neg_i8 c hc
  generalize 256 - c.toNat = N at *
  have hN : decide (8 < (N : Int)) = true := by simp; omega
  clear hS hroom
  go_enter Tryd.func27, Tryd.ntmps27
  go_wp2_with fail
  refine HC.out.mono ?_
  rintro e w' ⟨rfl, hP⟩
  have hc0 := hP.2.1 0 c rfl
  have HP := Lib.hid hP
  unfold u8v at hc0
  clear hP HC
  go_wp2_with fail
  refine (errBadUint_any _).mono ?_
  rintro e w2 ⟨rfl, rfl⟩
  go_wp2_with fail
  go_ret3
  have hk := HP.out.2.2.2.wide (G := ReadReg s pb bb 0 9) (fun b o _ h => reg19 1 (by omega) b o h)
  refine ⟨w'.heap.size, rfl, heap_alloc_new w' _, hk.size, ?_, hk.trans (Kept.alloc w' _) (fun _ _ _ h => h)⟩
  have ha : Kept (fun _ _ => False) w' (w'.alloc (.cells #[.string ⟨badText.toArray⟩] 99)) := Kept.alloc w' _
  exact HP.out.1.kept ha (fun _ _ _ h => h) (fun _ h => h)

set_option maxRecDepth 20000 in
set_option maxHeartbeats 1000000 in
theorem dec_cut0 (w : World) (s pb db bb : Nat) (hroom : Room w bb 0 9) (hb : bb ≠ s ∧ bb ≠ pb ∧ bb ≠ db) (hs0 : 2 ≤ s ∧ 2 ≤ pb ∧ 2 ≤ bb) (ea ua : Addr) (hev : w.cell? ⟨0, 0, none⟩ = some (.iface 97 (.pointer (some ea)))) (huv : w.cell? ⟨1, 0, none⟩ = some (.iface 97 (.pointer (some ua))))
   (c : UInt8) (hS : Srce w s pb db [c]) (hc : 128 ≤ c.toNat) (hc2 : 256 - c.toNat ≤ 8) :
   Calls Tryd.prog 27 #[.iface 38 (.pointer (some ⟨s, 0, none⟩)), .slice (some ⟨bb, 0, none⟩) 9 9] w fun e w' => e = .returned (.tuple #[.int .u64 0, .int .i64 0, .iface 97 (.pointer (some ua))]) ∧ Srce w' s pb db [] ∧ Kept (ReadReg s pb bb 0 9) w w' := by
  have HC := Lib.hid (ReadFull_of w _ _ _ _ _ (ReadAtLeast_full w s pb db bb 0 1 9 [c] [] hS (fun i hi => hroom i (by omega)) hb (by omega) (by omega) (by omega) rfl) (fun _ _ h => ⟨_, _, h.1⟩))
  have hcd : decide ((c.toNat : Int) ≤ 127) = false := by simp; omega
  have EN := neg_i8 c hc
  have hN1 : 1 ≤ 256 - c.toNat := by have := c.toNat_lt; omega
  generalize 256 - c.toNat = N at *
  have hN : decide (8 < (N : Int)) = false := by simp; omega
  have hN0 : (0 : Int) ≤ N := by omega
  have hN9 : (N : Int) ≤ 9 := by omega
  obtain ⟨i, hi, hcmp⟩ := Option.map_eq_some_iff.1 Tryd.isComp
  obtain ⟨j, hj, hjs⟩ := Option.map_eq_some_iff.1 Tryd.isSize
  have heq := fun w => run_eql_iface_ptr_same (P := Tryd.prog) w ea Tryd.underlying43 Tryd.underlying97 hi hcmp hj
  clear hS hroom
  go_enter Tryd.func27, Tryd.ntmps27
  go_wp2_with fail
  refine HC.out.mono ?_
  rintro e w' ⟨rfl, hP⟩
  have hc0 := hP.2.1 0 c rfl
  have hev1 := hP.2.2.2.at hev (by rintro ((⟨h, _⟩ | ⟨h, _⟩) | ⟨h, _⟩) <;> omega)
  have huv1 := hP.2.2.2.at huv (by rintro ((⟨h, _⟩ | ⟨h, _⟩) | ⟨h, _⟩) <;> omega)
  have HP := Lib.hid hP
  unfold u8v at hc0
  have HC2 := Lib.hid (ReadFull_of w' _ _ _ _ _ (ReadAtLeast_end w' s pb db bb 0 N 9 _ ea rfl hP.1 hev1 (by omega) (by omega) (by omega) (by omega)) (fun _ _ h => ⟨_, _, h.1⟩))
  clear hP HC hev huv
  go_wp2_with fail
  refine HC2.out.mono ?_
  rintro e w2 ⟨rfl, hS2, hk2⟩
  have hev2 := hk2.at hev1 (by rintro (⟨h, _⟩ | ⟨h, _⟩) <;> omega)
  have huv2 := hk2.at huv1 (by rintro (⟨h, _⟩ | ⟨h, _⟩) <;> omega)
  have HS2 := Lib.hid hS2
  have HK2 := Lib.hid hk2
  clear HC2 hS2 hk2 hev1 huv1
  go_wp2_with fail
  go_ret3
  have hk := HP.out.2.2.2.wide (G := ReadReg s pb bb 0 9) (fun b o _ h => reg19 1 (by omega) b o h)
  exact ⟨rfl, HS2.out, hk.trans HK2.out (fun _ _ _ h => .inl h)⟩

set_option maxRecDepth 20000 in
set_option maxHeartbeats 1000000 in
theorem dec_cut (w : World) (s pb db bb : Nat) (hroom : Room w bb 0 9) (hb : bb ≠ s ∧ bb ≠ pb ∧ bb ≠ db) (hs0 : 2 ≤ s ∧ 2 ≤ pb ∧ 2 ≤ bb) (ea ua : Addr) (hev : w.cell? ⟨0, 0, none⟩ = some (.iface 97 (.pointer (some ea)))) (huv : w.cell? ⟨1, 0, none⟩ = some (.iface 97 (.pointer (some ua))))
   (B : Nat) (hB : 2 ≤ B ∧ B ≤ s ∧ B ≤ pb ∧ B ≤ bb) (heb : ea.block < B) (hub : ua.block < B) (hne : ua ≠ ea) (ca cb : Array Value) (ta tb : TypeId) (ha : w.heap[ua.block]? = some (.cells ca ta (0, 0))) (he : w.heap[ea.block]? = some (.cells cb tb (0, 0)))
   (c : UInt8) (zs : List UInt8) (hS : Srce w s pb db (c :: zs)) (hc : 128 ≤ c.toNat) (hc2 : 256 - c.toNat ≤ 8) (hz0 : 1 ≤ zs.length) (hz : zs.length < 256 - c.toNat) :
   Calls Tryd.prog 27 #[.iface 38 (.pointer (some ⟨s, 0, none⟩)), .slice (some ⟨bb, 0, none⟩) 9 9] w fun e w' => ∃ k, e = .returned (.tuple #[.int .u64 0, .int .i64 k, .iface 97 (.pointer (some ua))]) ∧ Srce w' s pb db [] ∧ Kept (ReadReg s pb bb 0 9) w w' := by
  have HC := Lib.hid (ReadFull_of w _ _ _ _ _ (ReadAtLeast_full w s pb db bb 0 1 9 [c] zs hS (fun i hi => hroom i (by omega)) hb (by omega) (by omega) (by omega) rfl) (fun _ _ h => ⟨_, _, h.1⟩))
  have hcd : decide ((c.toNat : Int) ≤ 127) = false := by simp; omega
  have EN := neg_i8 c hc
  have hN1 : 1 ≤ 256 - c.toNat := by have := c.toNat_lt; omega
  generalize 256 - c.toNat = N at *
  have hN : decide (8 < (N : Int)) = false := by simp; omega
  have hN0 : (0 : Int) ≤ N := by omega
  have hN9 : (N : Int) ≤ 9 := by omega
  obtain ⟨i, hi, hcmp⟩ := Option.map_eq_some_iff.1 Tryd.isComp
  obtain ⟨j, hj, hjs⟩ := Option.map_eq_some_iff.1 Tryd.isSize
  have heq := fun (w : World) ha he => run_eql_iface_ptr_other (P := Tryd.prog) w (ca := ca) (cb := cb) (ta := ta) (tb := tb) Tryd.underlying43 Tryd.underlying97 hi hcmp hj (by rw [hjs]; decide) hne ha he
  have HEQ := Lib.hid heq
  have HROOM := Lib.hid hroom
  have hout : ∀ b, b < B → ∀ o, ¬ ReadReg s pb bb 0 9 b o := by
    clear EN
    rintro b hb' o ((⟨h, _⟩ | ⟨h, _⟩) | ⟨h, _⟩) <;> omega
  have HOUT := Lib.hid hout
  clear hS hroom heq hout
  go_enter Tryd.func27, Tryd.ntmps27
  go_wp2_with fail
  refine HC.out.mono ?_
  rintro e w' ⟨rfl, hP⟩
  have hk := hP.2.2.2.wide (G := ReadReg s pb bb 0 9) (fun b o _ h => reg19 1 (by omega) b o h)
  have hc0 := hP.2.1 0 c rfl
  have hev1 := hk.at hev (HOUT.out 0 (by omega) 0)
  have huv1 := hk.at huv (HOUT.out 1 (by omega) 0)
  have ha1 := hk.obj ha (HOUT.out _ hub)
  have he1 := hk.obj he (HOUT.out _ heb)
  have HK := Lib.hid hk
  unfold u8v at hc0
  have HC2 := Lib.hid (ReadFull_of w' _ _ _ _ _ (ReadAtLeast_cut w' s pb db bb 0 N 9 zs ea _ hP.1 (fun i hi => hP.room HROOM.out hb i (by omega)) hb (by omega) (by omega) hz0 hz hev1 huv1 hs0) (fun _ _ h => ⟨_, _, h.1⟩))
  clear hP HC hev huv ha he hk
  go_wp2_with fail
  refine HC2.out.mono ?_
  rintro e w2 ⟨rfl, hP2⟩
  have hk2 := hP2.2.2.2.wide (G := ReadReg s pb bb 0 9) (fun b o _ h => reg19 N (by omega) b o h)
  have hev2 := hk2.at hev1 (HOUT.out 0 (by omega) 0)
  have ha2 := hk2.obj ha1 (HOUT.out _ hub)
  have he2 := hk2.obj he1 (HOUT.out _ heb)
  have HQ := HEQ.out w2 ha2 he2
  have HS2 := Lib.hid hP2.1
  have HK2 := Lib.hid hk2
  clear HC2 hP2 hk2 hev1 huv1 ha1 he1 ha2 he2
  go_wp2_with fail
  go_ret3
  exact ⟨zs.length, rfl, HS2.out, HK.out.trans HK2.out (fun _ _ _ h => h)⟩

set_option maxRecDepth 20000 in
set_option maxHeartbeats 1000000 in
theorem dec_full (w : World) (s pb db bb : Nat) (hroom : Room w bb 0 9) (hb : bb ≠ s ∧ bb ≠ pb ∧ bb ≠ db)
   (c : UInt8) (ys zs : List UInt8) (hS : Srce w s pb db (c :: (ys ++ zs))) (hc : 128 ≤ c.toNat) (hc2 : 256 - c.toNat ≤ 8) (hy : ys.length = 256 - c.toNat) :
   Calls Tryd.prog 27 #[.iface 38 (.pointer (some ⟨s, 0, none⟩)), .slice (some ⟨bb, 0, none⟩) 9 9] w fun e w' => e = .returned (.tuple #[.int .u64 (decV ys : Nat), .int .i64 (ys.length + 1 : Nat), .nilIface]) ∧ Srce w' s pb db zs ∧ Kept (ReadReg s pb bb 0 9) w w' := by
  have HC := Lib.hid (ReadFull_of w _ _ _ _ _ (ReadAtLeast_full w s pb db bb 0 1 9 [c] (ys ++ zs) hS (fun i hi => hroom i (by omega)) hb (by omega) (by omega) (by omega) rfl) (fun _ _ h => ⟨_, _, h.1⟩))
  have hcd : decide ((c.toNat : Int) ≤ 127) = false := by simp; omega
  have EN := neg_i8 c hc
  have hN1 : 1 ≤ 256 - c.toNat := by have := c.toNat_lt; omega
  rw [← hy] at EN hc2 hN1
  have hN : decide (8 < (ys.length : Int)) = false := by simp; omega
  have hN0 : (0 : Int) ≤ ys.length := by omega
  have hN9 : (ys.length : Int) ≤ 9 := by omega
  have HROOM := Lib.hid hroom
  clear hS hroom hy
  go_enter Tryd.func27, Tryd.ntmps27
  go_wp2_with fail
  refine HC.out.mono ?_
  rintro e w' ⟨rfl, hP⟩
  have hk := hP.2.2.2.wide (G := ReadReg s pb bb 0 9) (fun b o _ h => reg19 1 (by omega) b o h)
  have hc0 := hP.2.1 0 c rfl
  have HK := Lib.hid hk
  unfold u8v at hc0
  have HC2 := Lib.hid (ReadFull_of w' _ _ _ _ _ (ReadAtLeast_full w' s pb db bb 0 ys.length 9 ys zs hP.1 (fun i hi => hP.room HROOM.out hb i (by omega)) hb (by omega) (by omega) (by omega) rfl) (fun _ _ h => ⟨_, _, h.1⟩))
  clear hP HC hk
  go_wp2_with fail
  refine HC2.out.mono ?_
  rintro e w2 ⟨rfl, hP2⟩
  have hk2 := hP2.2.2.2.wide (G := ReadReg s pb bb 0 9) (fun b o _ h => reg19 ys.length (by omega) b o h)
  have HS2 := Lib.hid hP2.1
  have HR2 := Lib.hid hP2.2.1
  have HK2 := Lib.hid hk2
  clear HC2 hP2 hk2
  go_wp2_with fail
  go_loop [4, 10, 54] (fun x _ i => ∃ k V : Nat, k ≤ ys.length ∧ i = .int .i64 k ∧ x = .int .u64 V ∧ Hid (V = decV (ys.take k))) (fun _ _ i => ys.length - (intOf i).toNat)
  case atStart => exact ⟨0, 0, by omega, rfl, rfl, rfl⟩
  case round =>
    obtain ⟨k, V, hk, rfl, rfl, HV⟩ := hrel
    by_cases hlt : k < ys.length
    · have hcell := HR2.out k ys[k] (List.getElem?_eq_getElem hlt)
      rw [Nat.zero_add] at hcell
      unfold u8v at hcell
      have HV2 := Lib.hid (dec_step V ys[k] k (by omega) (by rw [HV.out]; exact decV_lt k _ (by simp; omega)))
      go_wp2_with fail
      go_round
      case rel =>
        refine ⟨k + 1, V * 256 + ys[k].toNat, by omega, by go_num, by rw [HV2.out], ?_⟩
        show _ = _
        rw [List.take_succ_eq_append_getElem hlt, decV_snoc, HV.out]
      case measure => simp [intOf]; omega
    · obtain rfl : k = ys.length := by omega
      go_wp2_with fail
      go_ret3
      refine ⟨?_, HS2.out, HK.out.trans HK2.out (fun _ _ _ h => h)⟩
      have e := HV.out
      rw [List.take_length] at e
      rw [e]
      rfl
end Go.Proofs
