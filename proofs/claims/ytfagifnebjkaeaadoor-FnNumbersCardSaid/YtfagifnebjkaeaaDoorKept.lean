/- A frame for walks that write: 'Kept F w w'': of the blocks that were there, only cells in F have turned. -/
import Derived.WalkKit
import Derived.Deep.Upon
import Derived.Deep.QuietTactic
import Derived.BigQuiet
namespace Go.Gob
open Go.RowKit

/-- which cells of old blocks may have turned -/
abbrev Reg := Nat → Nat → Prop

structure Kept (F : Reg) (w w' : World) : Prop where
  os : w'.os = w.os
  tape : w'.tape = w.tape
  output : w'.output = w.output
  size : w.heap.size ≤ w'.heap.size
  block : ∀ b, b < w.heap.size → (∀ o, ¬ F b o) → w'.heap[b]? = w.heap[b]?
  cell : ∀ b o, b < w.heap.size → ¬ F b o → w'.cell? ⟨b, o, none⟩ = w.cell? ⟨b, o, none⟩
  froz : ∀ b o, b < w.heap.size → w'.frozen? ⟨b, o, none⟩ = w.frozen? ⟨b, o, none⟩
  shape : ∀ b, b < w.heap.size → w'.shape? b = w.shape? b

variable {F G : Reg} {w w' w'' : World}

theorem Kept.refl (F : Reg) (w : World) : Kept F w w := ⟨rfl, rfl, rfl, Nat.le_refl _, fun _ _ _ => rfl, fun _ _ _ _ => rfl, fun _ _ _ => rfl, fun _ _ => rfl⟩

theorem Kept.trans (h : Kept F w w') (k : Kept G w' w'') (hFG : ∀ b o, b < w.heap.size → G b o → F b o) : Kept F w w'' :=
  ⟨k.os.trans h.os, k.tape.trans h.tape, k.output.trans h.output, Nat.le_trans h.size k.size,
    fun b hb hn => (k.block b (Nat.lt_of_lt_of_le hb h.size) (fun o hg => hn o (hFG b o hb hg))).trans (h.block b hb hn),
    fun b o hb hn => (k.cell b o (Nat.lt_of_lt_of_le hb h.size) (fun hg => hn (hFG b o hb hg))).trans (h.cell b o hb hn),
    fun b o hb => (k.froz b o (Nat.lt_of_lt_of_le hb h.size)).trans (h.froz b o hb),
    fun b hb => (k.shape b (Nat.lt_of_lt_of_le hb h.size)).trans (h.shape b hb)⟩

theorem Kept.wide (h : Kept F w w') (hFG : ∀ b o, b < w.heap.size → F b o → G b o) : Kept G w w' :=
  ⟨h.os, h.tape, h.output, h.size, fun b hb hn => h.block b hb (fun o hf => hn o (hFG b o hb hf)), fun b o hb hn => h.cell b o hb (fun hf => hn (hFG b o hb hf)), h.froz, h.shape⟩

theorem Kept.below (h : Kept F w w') {B : Nat} (hB : B ≤ w.heap.size) (hF : ∀ b o, b < B → ¬ F b o) : Below B w w' :=
  ⟨h.os, h.tape, h.output, h.size, fun b hb => h.block b (by omega) (fun o => hF b o hb)⟩

theorem shape_of_block {b : Nat} (h : w'.heap[b]? = w.heap[b]?) : w'.shape? b = w.shape? b := by simp [World.shape?, h]

theorem Kept.of_blocks (hos : w'.os = w.os) (htape : w'.tape = w.tape) (hout : w'.output = w.output) (hsize : w.heap.size ≤ w'.heap.size) (h : ∀ b, b < w.heap.size → w'.heap[b]? = w.heap[b]?) : Kept F w w' :=
  ⟨hos, htape, hout, hsize, fun b hb _ => h b hb, fun b _ hb _ => World.cell?_of_block (h b hb), fun b _ hb => World.frozen?_of_block (h b hb), fun b hb => shape_of_block (h b hb)⟩

theorem Kept.alloc (w : World) (o : Obj) : Kept F w (w.alloc o) :=
  Kept.of_blocks rfl rfl rfl (by simp) fun b hb => Below.heap_alloc w o b hb

theorem Kept.drew (w : World) : Kept F w w.drew := Kept.of_blocks rfl rfl rfl (Nat.le_refl _) fun _ _ => rfl

theorem Kept.drewN (w : World) (n : Nat) : Kept F w (w.drewN n) := Kept.of_blocks rfl rfl rfl (Nat.le_refl _) fun _ _ => rfl

theorem Kept.of_below (h : Below w.heap.size w w') : Kept F w w' := Kept.of_blocks h.os h.tape h.output h.size fun b hb => h.block b hb

theorem shape_setCell (w : World) (a : Addr) (v : Value) (b : Nat) : (w.setCell a v).shape? b = w.shape? b := by
  simp only [World.setCell, World.shape?, Array.getElem?_modify]
  by_cases h : a.block = b
  · simp only [h, if_true]
    cases hh : w.heap[b]? with
    | none => simp
    | some x =>
      cases x <;> simp
      cases a.spot <;> simp
  · simp [h]

theorem Kept.setCell (w : World) (b o : Nat) (v : Value) (h : F b o) : Kept F w (w.setCell ⟨b, o, none⟩ v) :=
  ⟨rfl, rfl, rfl, by simp, fun b' _ hn => Below.heap_setCell w _ v b' (fun e => hn o (by subst e; exact h)),
    fun b' o' _ hn => World.cell?_setCell_other _ _ _ _ (fun e => hn (by cases e; exact h)), fun _ _ _ => World.frozen?_setCell _ _ _ _, fun _ _ => shape_setCell _ _ _ _⟩

theorem Kept.setCells (b : Nat) : ∀ (vs : List Value) (o : Nat) (w : World), (∀ j, j < vs.length → F b (o + j)) → Kept F w (w.setCells b o vs)
  | [], _, w, _ => Kept.refl F w
  | v :: r, o, w, h => (Kept.setCell w b o v (by simpa using h 0 (by simp))).trans
      (Kept.setCells b r (o + 1) _ (fun j hj => by have := h (j + 1) (by simp; omega); rwa [show o + (j + 1) = o + 1 + j by omega] at this)) (fun _ _ _ h => h)

/-- a cell that was there and is not in F still reads so -/
theorem Kept.at (h : Kept F w w') {b o : Nat} {v : Value} (hc : w.cell? ⟨b, o, none⟩ = some v) (hn : ¬ F b o) : w'.cell? ⟨b, o, none⟩ = some v :=
  (h.cell b o (World.block_lt_of_cell? w _ hc) hn).trans hc

theorem Kept.free (h : Kept F w w') {b o : Nat} (hb : b < w.heap.size) (hc : w.frozen? ⟨b, o, none⟩ = false) : w'.frozen? ⟨b, o, none⟩ = false :=
  (h.froz b o hb).trans hc

theorem Kept.obj (h : Kept F w w') {b : Nat} {x : Obj} (hb : w.heap[b]? = some x) (hn : ∀ o, ¬ F b o) : w'.heap[b]? = some x :=
  (h.block b (Array.getElem?_eq_some_iff.1 hb).1 hn).trans hb

end Go.Gob
