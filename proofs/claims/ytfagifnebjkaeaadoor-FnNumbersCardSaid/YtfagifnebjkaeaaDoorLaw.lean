/- The walk of the law FnNumbers: it returns true. (The steps of its drawn statement were printed by a program of this claim's author.) -/
import Derived.Test.YtfagifnebjkaeaaDoorTold
import Derived.Test.YtfagifnebjkaeaaDoorSpecI
import Derived.Laws.IdiomStrings
namespace Go.Proofs
open Go.RowKit Go.Gob

/-- a stronger condition may be taken up on the way -/
theorem wpAnyH_strong {P : Program} {ops : Array Oper} {Q : Exit → Act → World → Prop} {md : Region.Mode} {S S' : World → Prop} (h : ∀ w, S' w → S w) : ∀ (fuel : Nat) (listed : Array Bool) (a : Act) (w : World), wpAnyH P md ops Q S' fuel listed a w → wpAnyH P md ops Q S fuel listed a w
  | 0, _, _, _, H => H
  | fuel + 1, _, _, _, H => ⟨H.1, fun i hi => wpOp_mono (fun a' w' h' => ⟨h _ h'.1, wpAnyH_strong h fuel _ a' w' h'.2⟩) (H.2 i hi)⟩

theorem Src8.grown {w u : World} {v : Value} {xs : List UInt8} (h : Src8 w v xs) (hb : Below w.heap.size w u) : Src8 u v xs := by
  rcases h with h | ⟨b, o, c, rfl, hr⟩
  · exact .inl h
  · exact .inr ⟨b, o, c, rfl, fun i x hx => by
      have := hr i x hx
      exact (World.cell?_of_block (hb.block _ (World.block_lt_of_cell? w _ this))).trans this⟩

theorem conv8 {w : World} {v : Value} {xs : List UInt8} (h : Src8 w v xs) : (convert 23 9 v).run Tryd.prog w = .ok (.string ⟨xs.toArray⟩) w := by
  rcases h with ⟨c, rfl, rfl⟩ | ⟨b, o, c, rfl, hr⟩
  · rw [run_convert_bytes_string w 23 9 5 none 0 c Tryd.underlying23 (by kernel_rfl) (by kernel_rfl)]
    simp [Conv.bytesToString]
    rfl
  · exact run_convert_bytes_back w 23 9 5 _ c xs Tryd.underlying23 (by kernel_rfl) (by kernel_rfl) (fun j hj => by
      have := hr j xs[j] (List.getElem?_eq_getElem hj)
      rw [addr_add]
      exact this)

theorem Errs.wide {B B' : Nat} {w : World} {ea ua : Addr} (h : Errs B w ea ua) (hB : B ≤ B') : Errs B' w ea ua :=
  ⟨h.e0, h.e1, h.ne, h.he, h.hu, by have := h.two; omega, by have := h.lte; omega, by have := h.ltu; omega⟩

theorem AppU0 (w : World) (x : Nat) (h1 : U64 x) : Calls Tryd.prog 5 #[.slice none 0 0, .int .u64 x] w fun e w' => ∃ v, e = .returned v ∧ Src8 w' v (encU x) ∧ Below w.heap.size w w' :=
  (AppendUint_any w.heap.size w x h1 _ [] (by simp) (Nat.le_refl _) (OwnB.nil _ _)).mono fun _ _ ⟨v, h, ho, hb⟩ => ⟨v, h, ho.src8, hb⟩

theorem AppI0 (w : World) (i : Int) (h1 : I64 i) : Calls Tryd.prog 7 #[.slice none 0 0, .int .i64 i] w fun e w' => ∃ v, e = .returned v ∧ Src8 w' v (encU (zig i)) ∧ Below w.heap.size w w' :=
  (AppendInt_any w.heap.size w i h1 _ [] (by simp) (Nat.le_refl _) (OwnB.nil _ _)).mono fun _ _ ⟨v, h, ho, hb⟩ => ⟨v, h, ho.src8, hb⟩

theorem AppF0 (w : World) (x : Nat) (h1 : U64 x) : Calls Tryd.prog 9 #[.slice none 0 0, .int .u64 x] w fun e w' => ∃ v, e = .returned v ∧ Src8 w' v (encU (revLow x 8)) ∧ Below w.heap.size w w' :=
  (AppendFloat_any w.heap.size w x h1 _ [] (by simp) (Nat.le_refl _) (OwnB.nil _ _)).mono fun _ _ ⟨v, h, ho, hb⟩ => ⟨v, h, ho.src8, hb⟩

set_option maxRecDepth 20000 in
set_option maxHeartbeats 2000000 in
theorem law_any (w : World) (x : Nat) (v : Value) (bs : List UInt8) (hx : U64 x) (hv : Src8 w v bs) (ea ua : Addr) (hE : Errs w.heap.size w ea ua) :
   Calls Tryd.prog 3 #[.int .u64 x, v] w fun e w' => e = .returned (.bool true) ∧ Below w.heap.size w w' := by
  have HV := Lib.hid hv
  have HX := Lib.hid hx
  have hE0 := Lib.hid hE
  obtain ⟨sb, sc, rfl⟩ := hv.slice
  clear hv hx hE
  go_enter Tryd.func3, Tryd.ntmps3
  by_cases hlen : 2147483647 < bs.length
  · have hd : decide ((2147483647 : Int) < bs.length) = true := by simp; omega
    go_wp2_with fail
    go_ret
    exact ⟨rfl, Below.refl _ _⟩
  · have hd : decide ((2147483647 : Int) < bs.length) = false := by simp; omega
    go_wp2_with fail
    have hwl : 1 < w.heap.size := hE0.out.size
    obtain ⟨i, hi, hI⟩ : ∃ i, IntKind.i64.wrap (x : Int) = i ∧ I64 i := ⟨_, rfl, by unfold I64; simp only [IntKind.wrap, IntKind.bits, IntKind.signed]; simp; split <;> omega⟩
    have HI := Lib.hid hI
    clear hI
    refine wp_region_held_drew (S := fun u => Below w.heap.size w u) (by kernel_rfl) ((Below.refl _ _).drew) (fun hS0 => ?_)
    have HS0 := Lib.hid hS0
    clear hS0
    obtain ⟨yu, hyu⟩ : ∃ y, encU x = y := ⟨_, rfl⟩
    obtain ⟨yi, hyi⟩ : ∃ y, encU (zig i) = y := ⟨_, rfl⟩
    obtain ⟨yf, hyf⟩ : ∃ y, encU (revLow x 8) = y := ⟨_, rfl⟩
    have HT0 : Hid (Below w.heap.size w w.drew) := HS0.out
    have H1 : Hid (∀ u, Calls Tryd.prog 4 #[.int .u64 x] u fun e w' => ∃ v, e = .returned v ∧ Src8 w' v yu ∧ Below u.heap.size u w') := fun u => hyu ▸ PutUint_any u x HX.out
    have H2 : Hid (∀ u, Calls Tryd.prog 5 #[.slice none 0 0, .int .u64 x] u fun e w' => ∃ v, e = .returned v ∧ Src8 w' v yu ∧ Below u.heap.size u w') := fun u => hyu ▸ AppU0 u x HX.out
    have H3 : Hid (∀ u, Calls Tryd.prog 6 #[.int .i64 i] u fun e w' => ∃ v, e = .returned v ∧ Src8 w' v yi ∧ Below u.heap.size u w') := fun u => hyi ▸ PutInt_any u i HI.out
    have H4 : Hid (∀ u, Calls Tryd.prog 7 #[.slice none 0 0, .int .i64 i] u fun e w' => ∃ v, e = .returned v ∧ Src8 w' v yi ∧ Below u.heap.size u w') := fun u => hyi ▸ AppI0 u i HI.out
    have H5 : Hid (∀ u, Calls Tryd.prog 8 #[.int .u64 x] u fun e w' => ∃ v, e = .returned v ∧ Src8 w' v yf ∧ Below u.heap.size u w') := fun u => hyf ▸ PutFloat_any u x HX.out
    have H6 : Hid (∀ u, Calls Tryd.prog 9 #[.slice none 0 0, .int .u64 x] u fun e w' => ∃ v, e = .returned v ∧ Src8 w' v yf ∧ Below u.heap.size u w') := fun u => hyf ▸ AppF0 u x HX.out
    clear hyi hyf
    have HY := Lib.hid hyu
    clear hyu
    refine wpAnyH_take (i := 0) (v := ?_) rfl (by kernel_rfl) (by kernel_rfl) (by kernel_rfl) (fun _ _ _ h => h) (Or.inl ⟨by rfl, (by intro w hSw; go_simp; with_reducible rfl)⟩) HS0.out ?_
    try simp only [Act.put, List.setIfInBounds_toArray, List.set_cons_zero, List.set_cons_succ]
    refine wpAnyH_take (i := 3) (v := ?_) rfl (by kernel_rfl) (by kernel_rfl) (by kernel_rfl) (fun _ _ _ h => h) (Or.inl ⟨by rfl, (by intro w hSw; go_simp; with_reducible rfl)⟩) HS0.out ?_
    try simp only [Act.put, List.setIfInBounds_toArray, List.set_cons_zero, List.set_cons_succ]
    refine wpAnyH_ready (rs := [1]) (by kernel_rfl) (by simp) (AllReadyH.cons rfl (fun K hK => ?_) AllReadyH.nil)
    go_simp
    refine (H1.out _).mono ?_
    rintro e w1 ⟨v1, rfl, hv1, hb1⟩
    have HV1 := Lib.hid hv1
    have HT1 : Hid (Below w.heap.size w w1) := HT0.out.trans (hb1.mono (Nat.le_refl _))
    have hS1 : Below w.heap.size w w1 := HT1.out
    have HU1 : ∀ u, Below w1.heap.size w1 u → Below w.heap.size w u := fun u hu => HT1.out.trans (hu.mono HT1.out.size)
    have HW1 := Lib.hid HU1
    have HS1 : Hid (Below w1.heap.size w1 w1) := Below.refl _ _
    clear hv1 hb1 HU1
    go_wp2_with fail
    refine hK.out _ _ hS1 (fun _ => ?_)
    clear hK K hS1
    try simp only [Act.put, List.setIfInBounds_toArray, List.set_cons_zero, List.set_cons_succ]
    refine wpAnyH_strong HW1.out _ _ _ _ ?_
    refine wpAnyH_take (i := 2) (v := ?_) rfl (by kernel_rfl) (by kernel_rfl) (by kernel_rfl) (fun _ _ _ h => h) (Or.inl ⟨by rfl, (by intro w hSw; have hcv := conv8 (HV1.out.grown hSw); go_simp; with_reducible rfl)⟩) HS1.out ?_
    try simp only [Act.put, List.setIfInBounds_toArray, List.set_cons_zero, List.set_cons_succ]
    refine wpAnyH_ready (rs := [4]) (by kernel_rfl) (by simp) (AllReadyH.cons rfl (fun K hK => ?_) AllReadyH.nil)
    go_simp
    refine (H2.out _).mono ?_
    rintro e w2 ⟨v2, rfl, hv2, hb2⟩
    have HV2 := Lib.hid hv2
    have HT2 : Hid (Below w.heap.size w w2) := HT1.out.trans (hb2.mono HT1.out.size)
    have hS2 : Below w1.heap.size w1 w2 := hb2
    have HU2 : ∀ u, Below w2.heap.size w2 u → Below w1.heap.size w1 u := fun u hu => hb2.trans (hu.mono hb2.size)
    have HW2 := Lib.hid HU2
    have HS2 : Hid (Below w2.heap.size w2 w2) := Below.refl _ _
    clear hv2 hb2 HU2
    go_wp2_with fail
    refine hK.out _ _ hS2 (fun _ => ?_)
    clear hK K hS2
    try simp only [Act.put, List.setIfInBounds_toArray, List.set_cons_zero, List.set_cons_succ]
    refine wpAnyH_strong HW2.out _ _ _ _ ?_
    refine wpAnyH_take (i := 5) (v := ?_) rfl (by kernel_rfl) (by kernel_rfl) (by kernel_rfl) (fun _ _ _ h => h) (Or.inl ⟨by rfl, (by intro w hSw; have hcv := conv8 (HV2.out.grown hSw); go_simp; with_reducible rfl)⟩) HS2.out ?_
    try simp only [Act.put, List.setIfInBounds_toArray, List.set_cons_zero, List.set_cons_succ]
    refine wpAnyH_take (i := 6) (v := ?_) rfl (by kernel_rfl) (by kernel_rfl) (by kernel_rfl) (fun _ _ _ h => h) (Or.inl ⟨by rfl, (by intro w hSw; go_simp; with_reducible rfl)⟩) HS2.out ?_
    try simp only [Act.put, List.setIfInBounds_toArray, List.set_cons_zero, List.set_cons_succ]
    refine wpAnyH_take (i := 7) (v := ?_) rfl (by kernel_rfl) (by kernel_rfl) (by kernel_rfl) (fun _ _ _ h => h) (Or.inl ⟨by rfl, (by intro w hSw; go_simp; with_reducible rfl)⟩) HS2.out ?_
    try simp only [Act.put, List.setIfInBounds_toArray, List.set_cons_zero, List.set_cons_succ]
    refine wpAnyH_take (i := 8) (v := ?_) rfl (by kernel_rfl) (by kernel_rfl) (by kernel_rfl) (fun _ _ _ h => h) (Or.inl ⟨by rfl, (by intro w hSw; go_simp; with_reducible rfl)⟩) HS2.out ?_
    try simp only [Act.put, List.setIfInBounds_toArray, List.set_cons_zero, List.set_cons_succ]
    refine wpAnyH_take (i := 9) (v := ?_) rfl (by kernel_rfl) (by kernel_rfl) (by kernel_rfl) (fun _ _ _ h => h) (Or.inl ⟨by rfl, (by intro w hSw; go_simp; with_reducible rfl)⟩) HS2.out ?_
    try simp only [Act.put, List.setIfInBounds_toArray, List.set_cons_zero, List.set_cons_succ]
    refine wpAnyH_take (i := 12) (v := ?_) rfl (by kernel_rfl) (by kernel_rfl) (by kernel_rfl) (fun _ _ _ h => h) (Or.inl ⟨by rfl, (by intro w hSw; go_simp; with_reducible rfl)⟩) HS2.out ?_
    try simp only [Act.put, List.setIfInBounds_toArray, List.set_cons_zero, List.set_cons_succ]
    refine wpAnyH_take (i := 13) (v := ?_) rfl (by kernel_rfl) (by kernel_rfl) (by kernel_rfl) (fun _ _ _ h => h) (Or.inl ⟨by rfl, (by intro w hSw; go_simp; with_reducible rfl)⟩) HS2.out ?_
    try simp only [Act.put, List.setIfInBounds_toArray, List.set_cons_zero, List.set_cons_succ]
    refine wpAnyH_ready (rs := [10]) (by kernel_rfl) (by simp) (AllReadyH.cons rfl (fun K hK => ?_) AllReadyH.nil)
    go_simp
    refine (H3.out _).mono ?_
    rintro e w3 ⟨v3, rfl, hv3, hb3⟩
    have HV3 := Lib.hid hv3
    have HT3 : Hid (Below w.heap.size w w3) := HT2.out.trans (hb3.mono HT2.out.size)
    have hS3 : Below w2.heap.size w2 w3 := hb3
    have HU3 : ∀ u, Below w3.heap.size w3 u → Below w2.heap.size w2 u := fun u hu => hb3.trans (hu.mono hb3.size)
    have HW3 := Lib.hid HU3
    have HS3 : Hid (Below w3.heap.size w3 w3) := Below.refl _ _
    clear hv3 hb3 HU3
    go_wp2_with fail
    refine hK.out _ _ hS3 (fun _ => ?_)
    clear hK K hS3
    try simp only [Act.put, List.setIfInBounds_toArray, List.set_cons_zero, List.set_cons_succ]
    refine wpAnyH_strong HW3.out _ _ _ _ ?_
    refine wpAnyH_take (i := 11) (v := ?_) rfl (by kernel_rfl) (by kernel_rfl) (by kernel_rfl) (fun _ _ _ h => h) (Or.inl ⟨by rfl, (by intro w hSw; have hcv := conv8 (HV3.out.grown hSw); go_simp; with_reducible rfl)⟩) HS3.out ?_
    try simp only [Act.put, List.setIfInBounds_toArray, List.set_cons_zero, List.set_cons_succ]
    refine wpAnyH_ready (rs := [14]) (by kernel_rfl) (by simp) (AllReadyH.cons rfl (fun K hK => ?_) AllReadyH.nil)
    go_simp
    refine (H4.out _).mono ?_
    rintro e w4 ⟨v4, rfl, hv4, hb4⟩
    have HV4 := Lib.hid hv4
    have HT4 : Hid (Below w.heap.size w w4) := HT3.out.trans (hb4.mono HT3.out.size)
    have hS4 : Below w3.heap.size w3 w4 := hb4
    have HU4 : ∀ u, Below w4.heap.size w4 u → Below w3.heap.size w3 u := fun u hu => hb4.trans (hu.mono hb4.size)
    have HW4 := Lib.hid HU4
    have HS4 : Hid (Below w4.heap.size w4 w4) := Below.refl _ _
    clear hv4 hb4 HU4
    go_wp2_with fail
    refine hK.out _ _ hS4 (fun _ => ?_)
    clear hK K hS4
    try simp only [Act.put, List.setIfInBounds_toArray, List.set_cons_zero, List.set_cons_succ]
    refine wpAnyH_strong HW4.out _ _ _ _ ?_
    refine wpAnyH_take (i := 15) (v := ?_) rfl (by kernel_rfl) (by kernel_rfl) (by kernel_rfl) (fun _ _ _ h => h) (Or.inl ⟨by rfl, (by intro w hSw; have hcv := conv8 (HV4.out.grown hSw); go_simp; with_reducible rfl)⟩) HS4.out ?_
    try simp only [Act.put, List.setIfInBounds_toArray, List.set_cons_zero, List.set_cons_succ]
    refine wpAnyH_take (i := 16) (v := ?_) rfl (by kernel_rfl) (by kernel_rfl) (by kernel_rfl) (fun _ _ _ h => h) (Or.inl ⟨by rfl, (by intro w hSw; go_simp; with_reducible rfl)⟩) HS4.out ?_
    try simp only [Act.put, List.setIfInBounds_toArray, List.set_cons_zero, List.set_cons_succ]
    refine wpAnyH_take (i := 17) (v := ?_) rfl (by kernel_rfl) (by kernel_rfl) (by kernel_rfl) (fun _ _ _ h => h) (Or.inl ⟨by rfl, (by intro w hSw; go_simp; with_reducible rfl)⟩) HS4.out ?_
    try simp only [Act.put, List.setIfInBounds_toArray, List.set_cons_zero, List.set_cons_succ]
    refine wpAnyH_take (i := 18) (v := ?_) rfl (by kernel_rfl) (by kernel_rfl) (by kernel_rfl) (fun _ _ _ h => h) (Or.inl ⟨by rfl, (by intro w hSw; go_simp; with_reducible rfl)⟩) HS4.out ?_
    try simp only [Act.put, List.setIfInBounds_toArray, List.set_cons_zero, List.set_cons_succ]
    refine wpAnyH_take (i := 19) (v := ?_) rfl (by kernel_rfl) (by kernel_rfl) (by kernel_rfl) (fun _ _ _ h => h) (Or.inl ⟨by rfl, (by intro w hSw; go_simp; with_reducible rfl)⟩) HS4.out ?_
    try simp only [Act.put, List.setIfInBounds_toArray, List.set_cons_zero, List.set_cons_succ]
    refine wpAnyH_take (i := 22) (v := ?_) rfl (by kernel_rfl) (by kernel_rfl) (by kernel_rfl) (fun _ _ _ h => h) (Or.inl ⟨by rfl, (by intro w hSw; go_simp; with_reducible rfl)⟩) HS4.out ?_
    try simp only [Act.put, List.setIfInBounds_toArray, List.set_cons_zero, List.set_cons_succ]
    refine wpAnyH_ready (rs := [20]) (by kernel_rfl) (by simp) (AllReadyH.cons rfl (fun K hK => ?_) AllReadyH.nil)
    go_simp
    refine (H5.out _).mono ?_
    rintro e w5 ⟨v5, rfl, hv5, hb5⟩
    have HV5 := Lib.hid hv5
    have HT5 : Hid (Below w.heap.size w w5) := HT4.out.trans (hb5.mono HT4.out.size)
    have hS5 : Below w4.heap.size w4 w5 := hb5
    have HU5 : ∀ u, Below w5.heap.size w5 u → Below w4.heap.size w4 u := fun u hu => hb5.trans (hu.mono hb5.size)
    have HW5 := Lib.hid HU5
    have HS5 : Hid (Below w5.heap.size w5 w5) := Below.refl _ _
    clear hv5 hb5 HU5
    go_wp2_with fail
    refine hK.out _ _ hS5 (fun _ => ?_)
    clear hK K hS5
    try simp only [Act.put, List.setIfInBounds_toArray, List.set_cons_zero, List.set_cons_succ]
    refine wpAnyH_strong HW5.out _ _ _ _ ?_
    refine wpAnyH_take (i := 21) (v := ?_) rfl (by kernel_rfl) (by kernel_rfl) (by kernel_rfl) (fun _ _ _ h => h) (Or.inl ⟨by rfl, (by intro w hSw; have hcv := conv8 (HV5.out.grown hSw); go_simp; with_reducible rfl)⟩) HS5.out ?_
    try simp only [Act.put, List.setIfInBounds_toArray, List.set_cons_zero, List.set_cons_succ]
    refine wpAnyH_ready (rs := [23]) (by kernel_rfl) (by simp) (AllReadyH.cons rfl (fun K hK => ?_) AllReadyH.nil)
    go_simp
    refine (H6.out _).mono ?_
    rintro e w6 ⟨v6, rfl, hv6, hb6⟩
    have HV6 := Lib.hid hv6
    have HT6 : Hid (Below w.heap.size w w6) := HT5.out.trans (hb6.mono HT5.out.size)
    have hS6 : Below w5.heap.size w5 w6 := hb6
    have HU6 : ∀ u, Below w6.heap.size w6 u → Below w5.heap.size w5 u := fun u hu => hb6.trans (hu.mono hb6.size)
    have HW6 := Lib.hid HU6
    have HS6 : Hid (Below w6.heap.size w6 w6) := Below.refl _ _
    clear hv6 hb6 HU6
    go_wp2_with fail
    refine hK.out _ _ hS6 (fun _ => ?_)
    clear hK K hS6
    try simp only [Act.put, List.setIfInBounds_toArray, List.set_cons_zero, List.set_cons_succ]
    refine wpAnyH_strong HW6.out _ _ _ _ ?_
    refine wpAnyH_take (i := 24) (v := ?_) rfl (by kernel_rfl) (by kernel_rfl) (by kernel_rfl) (fun _ _ _ h => h) (Or.inl ⟨by rfl, (by intro w hSw; have hcv := conv8 (HV6.out.grown hSw); go_simp; with_reducible rfl)⟩) HS6.out ?_
    try simp only [Act.put, List.setIfInBounds_toArray, List.set_cons_zero, List.set_cons_succ]
    refine wpAnyH_take (i := 25) (v := ?_) rfl (by kernel_rfl) (by kernel_rfl) (by kernel_rfl) (fun _ _ _ h => h) (Or.inl ⟨by rfl, (by intro w hSw; go_simp; with_reducible rfl)⟩) HS6.out ?_
    try simp only [Act.put, List.setIfInBounds_toArray, List.set_cons_zero, List.set_cons_succ]
    refine wpAnyH_take (i := 26) (v := ?_) rfl (by kernel_rfl) (by kernel_rfl) (by kernel_rfl) (fun _ _ _ h => h) (Or.inl ⟨by rfl, (by intro w hSw; go_simp; with_reducible rfl)⟩) HS6.out ?_
    try simp only [Act.put, List.setIfInBounds_toArray, List.set_cons_zero, List.set_cons_succ]
    refine wpAnyH_done (by kernel_rfl) ?_ _
    have HVE := Lib.hid (HV.out.grown HT6.out)
    clear HS0 HT0 HS1 HS2 HS3 HS4 HS5 HS6 HW1 HW2 HW3 HW4 HW5 HW6 HT1 HT2 HT3 HT4 HT5 H2 H3 H4 H5 H6 HV1 HV2 HV3 HV4 HV5 HV6 HV hi
    obtain ⟨x1, n1, c1, ht⟩ := told_all bs
    have HTL := Lib.hid ht
    clear ht
    go_wp2_with fail
    refine (specGetUint_any w6 _ bs x1 n1 c1 HTL.out HVE.out (by omega)).mono ?_
    rintro e w7 ⟨rfl, hb7⟩
    have HT7 : Hid (Below w.heap.size w w7) := HT6.out.trans (hb7.mono HT6.out.size)
    have hu : Src8 (w7.alloc (.cells #[] 5)) (.slice sb bs.length sc) bs := (HVE.out.grown hb7).grown ((Below.refl _ _).alloc (Nat.le_refl _) _)
    have hown := OwnB.fresh w7
    clear hb7
    go_wp2_with (at_builtin; refine wpl_append_own8 rfl _ _ rfl w7.heap.size (.slice (some ⟨w7.heap.size, 0, none⟩) 0 0) (.slice sb bs.length sc) rfl rfl hown hu (by simp; omega) (by simp) ?_; intro v' w8 ho hbl hn; rw [List.nil_append] at *)
    have HT8 : Hid (Below w.heap.size w w8) := HT7.out.trans (((Below.refl _ _).alloc HT7.out.size (.cells #[] 5)).trans (hbl.mono HT7.out.size))
    have HE8 := Lib.hid (hE0.out.below HT8.out)
    refine (GetUint_any w8 v' bs x1 n1 c1 HTL.out ho.src8 (by omega) ea ua (HE8.out.wide HT8.out.size)).mono ?_
    rintro e w9 ⟨x', m, rfl, hb9, h0⟩
    have HT9 : Hid (Below w.heap.size w w9) := HT8.out.trans (hb9.mono HT8.out.size)
    have HE9 := Lib.hid (hE0.out.below HT9.out)
    clear hb9 ho hbl hu hown HT7 HT8 HE8 HTL
    have hreg : ∀ (b1 b2 : Bool), (c1 = 0 → b1 = false ∧ b2 = false) → True := fun _ _ _ => trivial
    clear hreg
    have HTY : Hid (Told yu x yu.length 0) := HY.out ▸ told_enc x HX.out
    have hyl : yu.length ≤ 4294967295 := by have := encU_length x; rw [HY.out] at this; omega
    cases c1 with
    | zero =>
      obtain ⟨rfl, rfl⟩ := h0 rfl
      go_wp2_with fail
      refine (H1.out _).mono ?_
      rintro e w10 ⟨v10, rfl, hv10, hb10⟩
      have HT10 : Hid (Below w.heap.size w w10) := HT9.out.trans (hb10.mono HT9.out.size)
      have HV10 := Lib.hid hv10
      have HE10 := Lib.hid (hE0.out.below HT10.out)
      clear hv10 hb10 HT9 HE9
      go_wp2_with fail
      refine (GetUint_any w10 v10 yu x yu.length 0 HTY.out HV10.out hyl ea ua (HE10.out.wide HT10.out.size)).mono ?_
      rintro e w11 ⟨x2, m2, rfl, hb11, h02⟩
      obtain ⟨e2, rfl⟩ := h02 rfl
      have HT11 : Hid (Below w.heap.size w w11) := HT10.out.trans (hb11.mono HT10.out.size)
      rw [e2]
      clear h02 hb11 HT10 HV10 HE10 e2 hyl
      go_wp2_with fail
      refine (H1.out _).mono ?_
      rintro e w12 ⟨v12, rfl, hv12, hb12⟩
      have HT12 : Hid (Below w.heap.size w w12) := HT11.out.trans (hb12.mono HT11.out.size)
      obtain ⟨sb12, sc12, rfl⟩ := hv12.slice
      clear hv12 hb12 HT11
      go_wp2_with fail
      go_ret
      exact ⟨rfl, HT12.out⟩
    | succ c =>
      clear h0
      have hcz : decide ((c : Int) + 1 = 0) = false := by simp; omega
      go_wp2_with fail
      refine (H1.out _).mono ?_
      rintro e w10 ⟨v10, rfl, hv10, hb10⟩
      have HT10 : Hid (Below w.heap.size w w10) := HT9.out.trans (hb10.mono HT9.out.size)
      have HV10 := Lib.hid hv10
      have HE10 := Lib.hid (hE0.out.below HT10.out)
      clear hv10 hb10 HT9 HE9
      go_wp2_with fail
      refine (GetUint_any w10 v10 yu x yu.length 0 HTY.out HV10.out hyl ea ua (HE10.out.wide HT10.out.size)).mono ?_
      rintro e w11 ⟨x2, m2, rfl, hb11, h02⟩
      obtain ⟨e2, rfl⟩ := h02 rfl
      have HT11 : Hid (Below w.heap.size w w11) := HT10.out.trans (hb11.mono HT10.out.size)
      rw [e2]
      clear h02 hb11 HT10 HV10 HE10 e2 hyl
      go_wp2_with fail
      refine (H1.out _).mono ?_
      rintro e w12 ⟨v12, rfl, hv12, hb12⟩
      have HT12 : Hid (Below w.heap.size w w12) := HT11.out.trans (hb12.mono HT11.out.size)
      obtain ⟨sb12, sc12, rfl⟩ := hv12.slice
      clear hv12 hb12 HT11
      go_wp2_with fail
      go_ret
      exact ⟨rfl, HT12.out⟩
end Go.Proofs
