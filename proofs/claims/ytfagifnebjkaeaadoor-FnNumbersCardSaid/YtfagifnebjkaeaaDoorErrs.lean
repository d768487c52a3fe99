/- The walk of ZZGet, and what code says of each error that can come of it. -/
import Derived.Test.YtfagifnebjkaeaaDoorDec
import Derived.Test.YtfagifnebjkaeaaDoorCode
import Derived.Test.YtfagifnebjkaeaaDoorTake
namespace Go.Proofs
open Go.RowKit Go.Gob

theorem Tryd.make9 (w : World) : (Instr.makeSlice 23 (.int .i64 9) (.int .i64 9)).run Tryd.prog w = .ok (.slice (some ⟨w.heap.size, 0, none⟩) 9 9) (w.alloc (.cells (Array.replicate 9 (.int .u8 0)) 5)) := by kernel_rfl

set_option maxRecDepth 20000 in
theorem ZZGet_of (w : World) (v : Value) (R : Ending → World → Prop)
    (h : Calls Tryd.prog 27 #[v, .slice (some ⟨w.heap.size, 0, none⟩) 9 9] (w.alloc (.cells (Array.replicate 9 (.int .u8 0)) 5)) fun e w' => ∃ x m ev, e = .returned (.tuple #[x, m, ev]) ∧ R e w') :
    Calls Tryd.prog 18 #[v] w R := by
  have H := Lib.hid h
  have mk := Tryd.make9
  clear h
  go_enter Tryd.func18, Tryd.ntmps18
  go_wp2_with fail
  refine H.out.mono ?_
  rintro e w' ⟨x, m, ev, rfl, hR⟩
  have HR := Lib.hid hR
  clear hR H
  go_wp2_with fail
  go_ret3
  exact HR.out
/-- the two sentinel errors lie where the globals say, below B -/
structure Errs (B : Nat) (w : World) (ea ua : Addr) : Prop where
  e0 : w.cell? ⟨0, 0, none⟩ = some (.iface 97 (.pointer (some ea)))
  e1 : w.cell? ⟨1, 0, none⟩ = some (.iface 97 (.pointer (some ua)))
  ne : ua ≠ ea
  he : ∃ ca ta, w.heap[ea.block]? = some (.cells ca ta (0, 0))
  hu : ∃ ca ta, w.heap[ua.block]? = some (.cells ca ta (0, 0))
  two : 2 ≤ B
  lte : ea.block < B
  ltu : ua.block < B

theorem Errs.below {B : Nat} {w w' : World} {ea ua : Addr} (h : Errs B w ea ua) (hb : Below B w w') : Errs B w' ea ua := by
  obtain ⟨h0, h1, hne, ⟨ca, ta, he⟩, ⟨cb, tb, hu⟩, h2, h3, h4⟩ := h
  exact ⟨(World.cell?_of_block (hb.block 0 (by omega))).trans h0, (World.cell?_of_block (hb.block 1 (by omega))).trans h1, hne, ⟨ca, ta, (hb.block _ h3).trans he⟩, ⟨cb, tb, (hb.block _ h4).trans hu⟩, h2, h3, h4⟩

theorem Errs.size {B : Nat} {w : World} {ea ua : Addr} (h : Errs B w ea ua) : 1 < w.heap.size := World.block_lt_of_cell? w _ h.e1

/-- what code says of an error, whatever is made meanwhile -/
def CodeOK (w : World) (ev : Value) (code : Nat) : Prop :=
  ∀ u, Below w.heap.size w u → Calls Tryd.prog 19 #[ev, .bool false] u fun e u' => e = .returned (.int .i64 code) ∧ Below u.heap.size u u'

theorem CodeOK.nil (w : World) : CodeOK w .nilIface 0 := fun u _ => (code_nil u false).mono fun _ _ h => ⟨h.1, h.2 ▸ Below.refl _ _⟩

theorem CodeOK.eof {B : Nat} {w : World} {ea ua : Addr} (h : Errs B w ea ua) (hB : B ≤ w.heap.size) : CodeOK w (.iface 97 (.pointer (some ea))) 1 := fun u hu =>
  (code_eof u false ea (h.below (hu.mono hB)).e0).mono fun _ _ h => ⟨h.1, h.2 ▸ Below.refl _ _⟩

theorem CodeOK.ueof {B : Nat} {w : World} {ea ua : Addr} (h : Errs B w ea ua) (hB : B ≤ w.heap.size) : CodeOK w (.iface 97 (.pointer (some ua))) 2 := fun u hu => by
  have h' := h.below (hu.mono hB)
  obtain ⟨ca, ta, he⟩ := h'.he
  obtain ⟨cb, tb, hu'⟩ := h'.hu
  exact (code_ueof u false ea ua cb ca tb ta h'.ne hu' he h'.e0 h'.e1).mono fun _ _ h => ⟨h.1, h.2 ▸ Below.refl _ _⟩

theorem codeBad : codeOf ⟨badText.toArray⟩ false = 8 := by kernel_rfl

theorem CodeOK.bad {B : Nat} {w : World} {ea ua : Addr} {g : Nat} (h : Errs B w ea ua) (hB : B ≤ g) (hg : w.heap[g]? = some (.cells #[.string ⟨badText.toArray⟩] 99 (0, 0))) : CodeOK w (.iface 97 (.pointer (some ⟨g, 0, none⟩))) 8 := fun u hu => by
  have hgl : g < w.heap.size := (Array.getElem?_eq_some_iff.1 hg).1
  have h' := h.below (hu.mono (by omega))
  obtain ⟨ca, ta, he⟩ := h'.he
  obtain ⟨cb, tb, hu'⟩ := h'.hu
  have hg' := (hu.block g hgl).trans hg
  have h3 := h.lte
  have h4 := h.ltu
  have := code_text u false ea ua ⟨g, 0, none⟩ cb ca _ tb ta _ (fun e => by subst e; simp at h3; omega) (fun e => by subst e; simp at h4; omega) hu' he hg' h'.e0 h'.e1 ⟨badText.toArray⟩ (by decide) (by simp [World.cell?, hg'])
  rw [codeBad] at this
  exact this

end Go.Proofs
