/- The walk of impl.GetUint: what it answers, told by the reference. -/
import Derived.Test.YtfagifnebjkaeaaDoorGet
import Derived.Test.YtfagifnebjkaeaaDoorOwn8
import Derived.Deep.RegionHeld3
import Derived.IntWalk
namespace Go.Proofs
open Go.RowKit Go.Gob

theorem Srce.new (w : World) (g c : Nat) (bs : List UInt8) (hg : g < w.heap.size) (hc : bs.length ≤ c) (hcm : c ≤ maxLen) (hr : Reads w g 0 bs) :
    Srce ((w.alloc (.cells #[.slice (some ⟨g, 0, none⟩) bs.length c] 23)).alloc (.cells #[.slice (some ⟨w.heap.size, 0, none⟩) 1 1, .int .i64 bs.length] 41)) (w.heap.size + 1) w.heap.size g bs := by
  have hs : (w.alloc (.cells #[.slice (some ⟨g, 0, none⟩) bs.length c] 23)).heap.size = w.heap.size + 1 := by simp
  refine ⟨⟨0, c, .inl ⟨?_, ?_, hc, hcm, ?_⟩⟩, ?_, ?_, ?_, ?_, ?_, ?_⟩
  · rw [← hs, World.cell?_alloc_new]; rfl
  · rw [World.cell?_alloc_lt _ _ _ (by simp), World.cell?_alloc_new]; rfl
  · exact (hr.kept (F := fun _ _ => False) (Kept.alloc w _) (fun _ _ h => h)).kept (F := fun _ _ => False) (Kept.alloc _ _) (fun _ _ h => h)
  · rw [← hs, World.cell?_alloc_new]; rfl
  · rw [← hs, World.frozen?_alloc_new]
  · rw [← hs, World.frozen?_alloc_new]
  · have : Kept (fun _ _ => False) (w.alloc (.cells #[.slice (some ⟨g, 0, none⟩) bs.length c] 23)) ((w.alloc (.cells #[.slice (some ⟨g, 0, none⟩) bs.length c] 23)).alloc (.cells #[.slice (some ⟨w.heap.size, 0, none⟩) 1 1, .int .i64 bs.length] 41)) := Kept.alloc _ _
    exact this.free (by simp) (World.frozen?_alloc_new _ _ _ _)
  · simp; omega
  · omega

set_option maxRecDepth 20000 in
set_option maxHeartbeats 1000000 in
theorem GetUint_any (w : World) (v : Value) (bs : List UInt8) (x n code : Nat) (ht : Told bs x n code) (hv : Src8 w v bs) (hb : bs.length ≤ 4294967295) (ea ua : Addr) (hE : Errs w.heap.size w ea ua) :
   Calls Tryd.prog 11 #[v] w fun e w' => ∃ (x' : Nat) (m : Int), e = .returned (.tuple #[.int .u64 x', .int .i64 m, .int .i64 code]) ∧ Below w.heap.size w w' ∧ (code = 0 → x' = x ∧ m = n) := by
  have hu : Src8 (w.alloc (.cells #[] 5)) v bs := by
    rcases hv with h | ⟨b, o, c, rfl, hr⟩
    · exact .inl h
    · exact .inr ⟨b, o, c, rfl, hr.kept (F := fun _ _ => False) (Kept.alloc w _) (fun _ _ h => h)⟩
  have hown := OwnB.fresh w
  obtain ⟨sb, sc, rfl⟩ := hv.slice
  clear hv
  have HT := Lib.hid ht
  have hE0 := Lib.hid hE
  clear ht hE
  go_enter Tryd.func11, Tryd.ntmps11
  go_wp2_with (at_builtin; refine wpl_append_own8 rfl _ _ rfl w.heap.size (.slice (some ⟨w.heap.size, 0, none⟩) 0 0) (.slice sb bs.length sc) rfl rfl hown hu (by simp; omega) (by simp) ?_; intro v' w' ho hbl hn; rcases ho.src with ⟨h, _⟩ | ⟨g, c, h, hg⟩; (exact absurd (hn h) (by simp)); rw [List.nil_append] at *; subst h)
  have HB := Lib.hid (((hE0.out.below ((Below.refl _ _).alloc (Nat.le_refl _) _)).below hbl))
  have hws : w.heap.size ≤ w'.heap.size := by omega
  have HBL := Lib.hid ((((Below.refl w.heap.size w).alloc (Nat.le_refl _) (.cells #[] 5)).trans hbl))
  have HS := Lib.hid (Srce.new w' g c bs hg.2.1 hg.2.2.1 hg.2.2.2.1 hg.2.2.2.2)
  refine (ZZGet_any _ _ _ _ w.heap.size ea ua bs x n code HT.out HS.out ((HB.out.below ((Below.refl _ _).alloc hws _)).below ((Below.refl _ _).alloc (by simp; omega) _)) (by omega)).mono ?_
  rintro e w2 ⟨x', m, ev, rfl, r, hl, hr, hb2, hc, h0⟩
  have HB2 := Lib.hid hb2
  have HC := Lib.hid hc
  have H0 := Lib.hid h0
  have HR := Lib.hid hr
  have HI : IntKind.i64.wrap ((bs.length : Int) - r) = (bs.length : Int) - r := IntWalk.i64_in _ (by omega)
  clear hb2 hc h0 hr hbl ho hu hown hg
  go_wp2_with fail
  generalize hsz : w'.heap.size + 1 = s at *
  clear hsz
  go_region_held3 (fun u => u.cell? ⟨s, 1, none⟩ = some (.int .i64 r)) ((first | (exact hl) | (exact (World.cell?_of_block (hb3.block _ (World.block_lt_of_cell? w2 _ hl))).trans hl))) ((go_at_call 19; (refine (HC.out _ (Below.refl _ _).drew).mono ?_); (rintro e u ⟨rfl, hb3⟩)))
  go_wp2_with fail
  go_ret3
  have hsz2 : w.heap.size ≤ w2.heap.size := by
    have := HB2.out.size
    simp at this
    omega
  refine ⟨x', _, rfl, ?_, fun h => ?_⟩
  · exact ((((HBL.out.alloc hws _).alloc (by simp; omega) _).trans HB2.out).trans ((Below.refl _ _).drew.trans (hb3.mono hsz2)))
  · obtain ⟨h1, h2⟩ := H0.out h
    exact ⟨h1, by omega⟩
end Go.Proofs
