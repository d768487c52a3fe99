/- The walks of encodeInt and of the exported functions that write numbers: what they give back is the number's bytes. -/
import Derived.Test.YtfagifnebjkaeaaDoorEncU
import Derived.Test.YtfagifnebjkaeaaDoorSpecI
namespace Go.Proofs
open Go.RowKit Go.Gob
set_option maxRecDepth 20000 in
set_option maxHeartbeats 1000000 in
theorem encodeInt_any (w : World) (sb so b o : Nat) (G : Option Nat) (xs : List UInt8) (i : Int) (hx : I64 i) (hbuf : Buf w b o G xs) (hl : xs.length ≤ 10000000000)
   (hp : w.cell? ⟨sb, so + 1, none⟩ = some (.pointer (some ⟨b, o, none⟩))) (hr : Room w sb (so + 4) 9) (hne : sb ≠ b) (hG : G ≠ some sb) :
   Calls Tryd.prog 22 #[.pointer (some ⟨sb, so, none⟩), .int .i64 i] w fun e w' => e = .returned (.tuple #[]) ∧ StGrown w sb so b o G (xs ++ encU (zig i)) w' := by
  have hz := zig_lt hx
  by_cases h0 : i < 0
  · have hd : decide (i < 0) = true := by simp; omega
    have E := Lib.hid (zigI_neg hx h0)
    go_enter Tryd.func22, Tryd.ntmps22
    go_wp2_with fail
    rw [E.out]
    refine (encodeUint_any w sb so b o G xs _ hz hbuf hl hp hr hne hG).mono ?_
    rintro e w' ⟨rfl, hB⟩
    go_wp2_with fail
    go_end0
    exact ⟨rfl, hB⟩
  · have hd : decide (i < 0) = false := by simp; omega
    have E := Lib.hid (zigI_pos hx h0)
    go_enter Tryd.func22, Tryd.ntmps22
    go_wp2_with fail
    rw [E.out]
    refine (encodeUint_any w sb so b o G xs _ hz hbuf hl hp hr hne hG).mono ?_
    rintro e w' ⟨rfl, hB⟩
    go_wp2_with fail
    go_end0
    exact ⟨rfl, hB⟩
theorem zero50 : Tryd.zeroCells50 = (Value.slice none 0 0 :: List.replicate 64 (u8v 0)).toArray := by kernel_rfl

/-- the new buffer and the new state of ZZUint and ZZInt -/
noncomputable def twoNew (w : World) : World :=
  (w.alloc (.cells Tryd.zeroCells50 50)).alloc (.cells #[Value.pointer none, Value.pointer (some { block := w.heap.size, off := 0 }), Value.bool false,
        Value.int IntKind.i64 0, Value.int IntKind.u8 0, Value.int IntKind.u8 0, Value.int IntKind.u8 0,
        Value.int IntKind.u8 0, Value.int IntKind.u8 0, Value.int IntKind.u8 0, Value.int IntKind.u8 0,
        Value.int IntKind.u8 0, Value.int IntKind.u8 0, Value.pointer none] 55)

theorem twoNew_cell0 (w : World) (i : Nat) : (twoNew w).cell? ⟨w.heap.size, i, none⟩ = Tryd.zeroCells50[i]? := by
  unfold twoNew
  rw [World.cell?_alloc_lt _ _ _ (by simp), World.cell?_alloc_new]

theorem twoNew_frozen0 (w : World) (i : Nat) : (twoNew w).frozen? ⟨w.heap.size, i, none⟩ = false := by
  unfold twoNew
  rw [World.frozen?_alloc_old _ _ _ (by simp), World.frozen?_alloc_new]

theorem twoNew_buf (w : World) : Buf (twoNew w) w.heap.size 0 none [] := by
  refine ⟨fun i hi => ⟨⟨0, ?_⟩, twoNew_frozen0 w _⟩, twoNew_frozen0 w 0, .slice none 0 0, ?_, .inl ⟨rfl, rfl, rfl⟩⟩
  · rw [twoNew_cell0, zero50, List.getElem?_toArray, show 0 + 1 + i = i + 1 by omega, List.getElem?_cons_succ, List.getElem?_replicate, if_pos hi]
  · rw [twoNew_cell0, zero50]; rfl

theorem twoNew_cell1 (w : World) (i : Nat) : (twoNew w).cell? ⟨w.heap.size + 1, i, none⟩ = (#[Value.pointer none, Value.pointer (some { block := w.heap.size, off := 0 }), Value.bool false,
        Value.int IntKind.i64 0, Value.int IntKind.u8 0, Value.int IntKind.u8 0, Value.int IntKind.u8 0,
        Value.int IntKind.u8 0, Value.int IntKind.u8 0, Value.int IntKind.u8 0, Value.int IntKind.u8 0,
        Value.int IntKind.u8 0, Value.int IntKind.u8 0, Value.pointer none] : Array Value)[i]? := by
  have h := World.cell?_alloc_new (w.alloc (.cells Tryd.zeroCells50 50)) #[Value.pointer none, Value.pointer (some { block := w.heap.size, off := 0 }), Value.bool false,
        Value.int IntKind.i64 0, Value.int IntKind.u8 0, Value.int IntKind.u8 0, Value.int IntKind.u8 0,
        Value.int IntKind.u8 0, Value.int IntKind.u8 0, Value.int IntKind.u8 0, Value.int IntKind.u8 0,
        Value.int IntKind.u8 0, Value.int IntKind.u8 0, Value.pointer none] 55 i
  rw [World.size_alloc] at h
  exact h

theorem twoNew_room (w : World) : Room (twoNew w) (w.heap.size + 1) (0 + 4) 9 := by
  intro i hi
  have hf := World.frozen?_alloc_new (w.alloc (.cells Tryd.zeroCells50 50)) #[Value.pointer none, Value.pointer (some { block := w.heap.size, off := 0 }), Value.bool false,
        Value.int IntKind.i64 0, Value.int IntKind.u8 0, Value.int IntKind.u8 0, Value.int IntKind.u8 0,
        Value.int IntKind.u8 0, Value.int IntKind.u8 0, Value.int IntKind.u8 0, Value.int IntKind.u8 0,
        Value.int IntKind.u8 0, Value.int IntKind.u8 0, Value.pointer none] 55 (0 + 4 + i)
  rw [World.size_alloc] at hf
  refine ⟨⟨0, ?_⟩, hf⟩
  rw [twoNew_cell1]
  have : i = 0 ∨ i = 1 ∨ i = 2 ∨ i = 3 ∨ i = 4 ∨ i = 5 ∨ i = 6 ∨ i = 7 ∨ i = 8 := by omega
  rcases this with rfl | rfl | rfl | rfl | rfl | rfl | rfl | rfl | rfl <;> rfl

/-- what stands in a buffer, as a slice -/
theorem Buf.src {w : World} {b o : Nat} {G : Option Nat} {xs : List UInt8} (h : Buf w b o G xs) : ∃ v, w.cell? ⟨b, o, none⟩ = some v ∧ Src8 w v xs := by
  obtain ⟨v, hv, hd⟩ := h.data
  refine ⟨v, hv, ?_⟩
  rcases hd with ⟨rfl, rfl, _⟩ | ⟨rfl, _, hr, _⟩ | ⟨g, cap, rfl, _, _, _, _, hr, _⟩
  · exact .inl ⟨0, rfl, rfl⟩
  · exact .inr ⟨b, o + 1, 64, rfl, hr⟩
  · exact .inr ⟨g, 0, cap, rfl, hr⟩

theorem Bytes_any (w : World) (b o : Nat) (v : Value) (hc : w.cell? ⟨b, o, none⟩ = some v) :
   Calls Tryd.prog 21 #[.pointer (some ⟨b, o, none⟩)] w fun e w' => e = .returned v ∧ w' = w := by
  go_enter Tryd.func21, Tryd.ntmps21
  go_wp2
  go_ret
  exact ⟨rfl, rfl⟩

theorem twoNew_below {w w' : World} {xs : List UInt8} (h : StGrown (twoNew w) (w.heap.size + 1) 0 w.heap.size 0 none xs w') : Below w.heap.size w w' := by
  obtain ⟨G', _, _, hk, _⟩ := h
  have hs : (twoNew w).heap.size = w.heap.size + 2 := by simp [twoNew]
  have h1 : Below w.heap.size w (twoNew w) := ((Below.refl _ _).alloc (Nat.le_refl _) _).alloc (by simp) _
  refine h1.trans (hk.below (by omega) ?_)
  rintro b o hb (((⟨rfl, _⟩ | h) | ⟨rfl, _⟩))
  · omega
  · cases h
  · omega

set_option maxRecDepth 20000 in
set_option maxHeartbeats 1000000 in
theorem ZZUint_any (w : World) (x : Nat) (hx : U64 x) :
   Calls Tryd.prog 12 #[.int .u64 x] w fun e w' => ∃ v, e = .returned v ∧ Src8 w' v (encU x) ∧ Below w.heap.size w w' := by
  have hb := Lib.hid (twoNew_buf w)
  have hr := Lib.hid (twoNew_room w)
  have hp := Lib.hid (twoNew_cell1 w 1)
  go_enter Tryd.func12, Tryd.ntmps12
  go_wp2_with fail
  refine (encodeUint_any (twoNew w) (w.heap.size + 1) 0 w.heap.size 0 none [] x hx hb.out (by simp) hp.out hr.out (by omega) (by simp)).mono ?_
  rintro e w' ⟨rfl, hB⟩
  have hbl := Lib.hid (twoNew_below hB)
  obtain ⟨G', hb', _⟩ := hB
  obtain ⟨v, hv, hs⟩ := hb'.src
  clear hb hr hp hb'
  go_wp2_with fail
  refine (Bytes_any _ _ _ v hv).mono ?_
  rintro e w' ⟨rfl, rfl⟩
  go_wp2_with fail
  go_ret
  exact ⟨v, rfl, hs, hbl.out⟩

set_option maxRecDepth 20000 in
set_option maxHeartbeats 1000000 in
theorem ZZInt_any (w : World) (i : Int) (hx : I64 i) :
   Calls Tryd.prog 13 #[.int .i64 i] w fun e w' => ∃ v, e = .returned v ∧ Src8 w' v (encU (zig i)) ∧ Below w.heap.size w w' := by
  have hb := Lib.hid (twoNew_buf w)
  have hr := Lib.hid (twoNew_room w)
  have hp := Lib.hid (twoNew_cell1 w 1)
  go_enter Tryd.func13, Tryd.ntmps13
  go_wp2_with fail
  refine (encodeInt_any (twoNew w) (w.heap.size + 1) 0 w.heap.size 0 none [] i hx hb.out (by simp) hp.out hr.out (by omega) (by simp)).mono ?_
  rintro e w' ⟨rfl, hB⟩
  have hbl := Lib.hid (twoNew_below hB)
  obtain ⟨G', hb', _⟩ := hB
  obtain ⟨v, hv, hs⟩ := hb'.src
  clear hb hr hp hb'
  go_wp2_with fail
  refine (Bytes_any _ _ _ v hv).mono ?_
  rintro e w' ⟨rfl, rfl⟩
  go_wp2_with fail
  go_ret
  exact ⟨v, rfl, hs, hbl.out⟩

set_option maxRecDepth 20000 in
set_option maxHeartbeats 1000000 in
theorem ZZFloat_any (w : World) (x : Nat) (hx : U64 x) :
   Calls Tryd.prog 14 #[.int .u64 x] w fun e w' => ∃ v, e = .returned v ∧ Src8 w' v (encU (revLow x 8)) ∧ Below w.heap.size w w' := by
  have hb := fun w => run_frombits w x
  go_enter Tryd.func14, Tryd.ntmps14
  go_wp2_with fail
  refine (floatBits_any w x hx).mono ?_
  rintro e w' ⟨rfl, rfl⟩
  go_wp2_with fail
  refine (ZZUint_any _ _ (revLow_u64 x)).mono ?_
  rintro e w' ⟨v, rfl, hs, hbl⟩
  go_wp2_with fail
  go_ret
  exact ⟨v, rfl, hs, hbl⟩

theorem PutUint_any (w : World) (x : Nat) (hx : U64 x) :
   Calls Tryd.prog 4 #[.int .u64 x] w fun e w' => ∃ v, e = .returned v ∧ Src8 w' v (encU x) ∧ Below w.heap.size w w' := by
  go_enter Tryd.func4, Tryd.ntmps4
  go_wp2_with fail
  refine (ZZUint_any _ _ hx).mono ?_
  rintro e w' ⟨v, rfl, hs, hbl⟩
  go_wp2_with fail
  go_ret
  exact ⟨v, rfl, hs, hbl⟩

theorem PutInt_any (w : World) (i : Int) (hx : I64 i) :
   Calls Tryd.prog 6 #[.int .i64 i] w fun e w' => ∃ v, e = .returned v ∧ Src8 w' v (encU (zig i)) ∧ Below w.heap.size w w' := by
  go_enter Tryd.func6, Tryd.ntmps6
  go_wp2_with fail
  refine (ZZInt_any _ _ hx).mono ?_
  rintro e w' ⟨v, rfl, hs, hbl⟩
  go_wp2_with fail
  go_ret
  exact ⟨v, rfl, hs, hbl⟩

theorem PutFloat_any (w : World) (x : Nat) (hx : U64 x) :
   Calls Tryd.prog 8 #[.int .u64 x] w fun e w' => ∃ v, e = .returned v ∧ Src8 w' v (encU (revLow x 8)) ∧ Below w.heap.size w w' := by
  go_enter Tryd.func8, Tryd.ntmps8
  go_wp2_with fail
  refine (ZZFloat_any _ _ hx).mono ?_
  rintro e w' ⟨v, rfl, hs, hbl⟩
  go_wp2_with fail
  go_ret
  exact ⟨v, rfl, hs, hbl⟩

end Go.Proofs
