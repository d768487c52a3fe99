/- The walk of the reference's GetUint. -/
import Derived.Test.YtfagifnebjkaeaaDoorTake
import Derived.Test.YtfagifnebjkaeaaDoorPut
namespace Go.Proofs
open Go.RowKit Go.Gob

/-- the reader of GetUint, new -/
noncomputable def newRd (w : World) (v : Value) : World := w.alloc (.cells #[v, .int .i64 0, .bool false] 34)

theorem newRd_rd (w : World) (v : Value) (bs : List UInt8) (hv : Src8 w v bs) : Rd (newRd w v) w.heap.size v bs 0 := by
  have hk : Kept (fun _ _ => False) w (newRd w v) := Kept.alloc w _
  refine ⟨World.cell?_alloc_new w _ 34 0, World.cell?_alloc_new w _ 34 1, World.cell?_alloc_new w _ 34 2, World.frozen?_alloc_new w _ 34 1, ?_⟩
  rcases hv with ⟨c, rfl, rfl⟩ | ⟨b, o, c, rfl, hr⟩
  · exact ⟨none, 0, 0, c, rfl, .inl rfl⟩
  · refine ⟨_, b, o, c, rfl, ?_⟩
    cases bs with
    | nil => exact .inl rfl
    | cons x xs =>
      have := World.block_lt_of_cell? w _ (hr 0 x rfl)
      simp at this
      exact .inr ⟨rfl, by omega, hr.kept hk (fun _ _ h => h)⟩

theorem newRd_below {w w' : World} {v : Value} (h : Kept (fun b _ => b = w.heap.size) (newRd w v) w') : Below w.heap.size w w' :=
  ((Below.refl w.heap.size w).alloc (Nat.le_refl _) _).trans (h.below (by simp [newRd]) (fun b _ hb e => by omega))

theorem Below.of_drewN {B : Nat} (w : World) (n : Nat) : Below B w (w.drewN n) := ⟨rfl, rfl, rfl, Nat.le_refl _, fun _ _ => rfl⟩

set_option maxRecDepth 20000 in
set_option maxHeartbeats 1000000 in
theorem specGetUint_any (w : World) (v : Value) (bs : List UInt8) (x n code : Nat) (ht : Told bs x n code) (hv : Src8 w v bs) (hb : bs.length ≤ 4294967295) :
   Calls Tryd.prog 10 #[v] w fun e w' => e = .returned (.tuple #[.int .u64 x, .int .i64 n, .int .i64 code]) ∧ Below w.heap.size w w' := by
  have HR := Lib.hid (newRd_rd w v bs hv)
  have HC := Lib.hid (cut_any _ _ v bs HR.out hb)
  obtain ⟨sb, sc, rfl⟩ := hv.slice
  clear hv
  go_enter Tryd.func10, Tryd.ntmps10
  go_wp2_with fail
  refine HC.out.mono ?_
  rintro e w' ⟨rfl, m, rfl⟩
  have HR1 := Lib.hid (HR.out.drewN m)
  have HK1 : Hid (Kept (fun b _ => b = w.heap.size) (newRd w (.slice sb bs.length sc)) ((newRd w (.slice sb bs.length sc)).drewN m)) := Kept.drewN _ _
  clear HR HC
  generalize (newRd w (.slice sb bs.length sc)).drewN m = w1 at *
  cases ht with
  | cut h =>
    rw [h]
    go_wp2_with fail
    go_ret3
    exact ⟨rfl, newRd_below HK1.out⟩
  | fine x k h ht =>
    rw [h]
    go_wp2_with fail
    refine (take_any w1 _ _ bs _ _ _ ht HR1.out hb).mono ?_
    rintro e w2 ⟨rfl, hR2, hK2⟩
    obtain ⟨_, hat, _⟩ := hR2
    have HK2 := Lib.hid (newRd_below (HK1.out.trans hK2 (fun _ _ _ h => h)))
    clear hK2 HK1
    go_wp2_with fail
    go_quiet (fail)
    go_wp2_with fail
    go_ret3
    exact ⟨rfl, HK2.out.trans (Below.of_drewN _ _)⟩
  | fault x2 _ k2 h h0 ht =>
    rw [h]
    have hne : (((code : Nat) : Int) != 0) = true := by simp; omega
    go_wp2_with fail
    refine (take_any w1 _ _ bs _ _ _ ht HR1.out hb).mono ?_
    rintro e w2 ⟨rfl, hR2, hK2⟩
    have HK2 := Lib.hid (newRd_below (HK1.out.trans hK2 (fun _ _ _ h => h)))
    clear hR2 hK2 HK1
    go_wp2_with fail
    go_ret3
    exact ⟨rfl, HK2.out⟩
end Go.Proofs
