/- The append of bytes onto bytes of its own, as one step of a walk. -/
import Derived.Test.YtfagifnebjkaeaaDoorPut
import Derived.BigQuiet
import Derived.Deep.QuietTactic
namespace Go.Proofs
open Go.RowKit Go.Gob

theorem run_append_own8 (ty : TypeId) {B : Nat} {w : World} {v u : Value} {xs ys : List UInt8} (hown : OwnB B w v xs) (hu : Src8 w u ys) (hl : xs.length + ys.length ≤ 1000000000000) (hB : B ≤ w.heap.size) :
    ∃ v' w', (Builtin.append_ #[23, 23] ty #[v, u]).run Tryd.prog w = .ok v' w' ∧ OwnB B w' v' (xs ++ ys) ∧ Below B w w' ∧ (v' = .slice none 0 0 → v = .slice none 0 0) := by
  obtain ⟨i0, hi, hz0, hz1, hz2⟩ := info_parts Tryd.info5
  rcases hu with ⟨c, rfl, rfl⟩ | ⟨b, o, c, rfl, hr⟩
  · refine ⟨v, w, ?_, by rw [List.append_nil]; exact hown, Below.refl _ _, id⟩
    rcases hown.2 with ⟨rfl, _⟩ | ⟨g, cap, cur, rfl, _, _, hnc, _⟩
    · simp [Builtin.append_, run_underlying Tryd.underlying23, sizeOf, typeInfo, hi, Builtin.lenOf, Builtin.firstCells]
    · simp [Builtin.append_, run_underlying Tryd.underlying23, sizeOf, typeInfo, hi, Builtin.lenOf, Builtin.firstCells, hnc, storeCells]
  · obtain ⟨v', w', h1, h2, h3, h4⟩ := run_append_own (P := Tryd.prog) w B 23 ty 5 i0 (.int .u8 0) 1 1 Tryd.underlying23 hi hz0 hz1 hz2 rfl (by decide) v xs.length (u8s xs) hown ⟨b, o, none⟩ ys.length c (u8s ys) (by simp [u8s])
      (fun j x hx => by obtain ⟨d, hd, rfl⟩ := u8s_get hx; rw [addr_add]; exact hr j d hd) (u8s_one ys) (by unfold maxLen; omega) (by omega) hB
    refine ⟨v', w', h1, ?_, Below.grown (Below.refl _ _) h3 hB (fun k hk => (hown.lt k hk).1), fun h => (h4.1 h).1⟩
    unfold OwnB
    rw [List.length_append, u8s_append]
    exact h2

theorem OwnB.src {B : Nat} {w : World} {v : Value} {xs : List UInt8} (h : OwnB B w v xs) : (v = .slice none 0 0 ∧ xs = []) ∨ ∃ g c, v = .slice (some ⟨g, 0, none⟩) xs.length c ∧ B ≤ g ∧ g < w.heap.size ∧ xs.length ≤ c ∧ c ≤ maxLen ∧ Reads w g 0 xs := by
  rcases h.2 with ⟨h1, h2⟩ | ⟨g, cap, cur, rfl, hb, hg, hnc, hcm, hcs, htake⟩
  · exact .inl ⟨h1, List.eq_nil_of_length_eq_zero h2⟩
  · refine .inr ⟨g, cap, rfl, hb, (Array.getElem?_eq_some_iff.1 hg).1, hnc, hcm, ?_⟩
    intro i c hc
    have hlt : i < xs.length := by
      rcases Nat.lt_or_ge i xs.length with h' | h'
      · exact h'
      · rw [List.getElem?_eq_none h'] at hc; cases hc
    have := World.ownsRow.cellAt h i (by omega)
    rw [Nat.zero_add, this]
    unfold u8s
    rw [List.getElem?_map, hc]
    rfl

theorem OwnB.src8 {B : Nat} {w : World} {v : Value} {xs : List UInt8} (h : OwnB B w v xs) : Src8 w v xs := by
  rcases h.src with ⟨rfl, rfl⟩ | ⟨g, c, rfl, _, _, _, _, hr⟩
  · exact .inl ⟨0, rfl, rfl⟩
  · exact .inr ⟨g, 0, c, rfl, hr⟩

theorem OwnB.fresh (w : World) : OwnB w.heap.size (w.alloc (.cells #[] 5)) (.slice (some ⟨w.heap.size, 0, none⟩) 0 0) [] :=
  World.ownsRow_made w #[] 0 (Nat.le_refl _) (by decide) rfl

theorem wpl_append_own8 {ops : Array Oper} {rest : List Oper} {op : Oper} {a : Act} {Q : Exit → Act → World → Prop} (hgd : op.guard = none) (s x : Operand)
    (ho : op.op = .call { callee := .builtin .append, args := #[s, x], argTypes := #[23, 23] }) {w : World} (B : Nat) (v u : Value) {xs ys : List UInt8}
    (hs : a.eval s = v) (hx : a.eval x = u) (hown : OwnB B w v xs) (hu : Src8 w u ys) (hl : xs.length + ys.length ≤ 1000000000000) (hB : B ≤ w.heap.size)
    (h : ∀ v' w', OwnB B w' v' (xs ++ ys) → Below B w w' → (v' = .slice none 0 0 → v = .slice none 0 0) → wpList Tryd.prog ops Q rest (a.put op.dst v') w') :
    wpList Tryd.prog ops Q (op :: rest) a w := by
  obtain ⟨v', w', hrun, h1, h2, h3⟩ := run_append_own8 op.type hown hu hl hB
  refine wpList_plain hgd fun K hK => ?_
  unfold Oper.wp execOp
  simp only [ho, resolve, invoke, builtin, Sem.run_bind, Sem.run_pure, Result.andThen_ok, List.map_toArray, List.map_cons, List.map_nil, hs, hx, hrun]
  exact hK _ _ (h v' w' h1 h2 h3)

end Go.Proofs
