/- Words on memory that the walks use: a row of bytes of the call's own. -/
import Derived.WalkKit
import Derived.KernelRfl
import Derived.Lib.Hide
import Derived.WalkSpells
import Derived.Deep.AppendSrc
import Derived.Test.YtfagifnebjkaeaaDoorProg
namespace Go.Proofs
open Go.RowKit

def u8v (c : UInt8) : Value := .int .u8 (c.toNat : Int)
def u8s (xs : List UInt8) : List Value := xs.map u8v

theorem u8s_append (xs ys : List UInt8) : u8s (xs ++ ys) = u8s xs ++ u8s ys := by simp [u8s]
theorem u8s_length (xs : List UInt8) : (u8s xs).length = xs.length := by simp [u8s]
theorem u8s_one (xs : List UInt8) : ∀ u ∈ u8s xs, u.oneCell' = true := by
  intro u hu
  obtain ⟨c, _, rfl⟩ := List.mem_map.1 hu
  rfl

/-- v is a slice whose array is the call's own (from block B on), and reads xs -/
def OwnB (B : Nat) (w : World) (v : Value) (xs : List UInt8) : Prop := w.ownsRow B 5 1 v xs.length (u8s xs)

theorem OwnB.nil (B : Nat) (w : World) : OwnB B w (.slice none 0 0) [] := World.ownsRow_nil w B 5 1

theorem Tryd.info5 : (Tryd.prog.info? 5).map (fun i => (i.zero, i.size, i.bytes)) = some (some (.int .u8 0), 1, 1) := by kernel_rfl

/-- append of one byte, which lies in a block just made -/
theorem wpl_append1 {ops : Array Oper} {rest : List Oper} {o : Oper} {a : Act} {Q : Exit → Act → World → Prop} (w : World) (c : UInt8) (hgd : o.guard = none) (s x : Operand)
    (ho : o.op = .call { callee := .builtin .append, args := #[s, x], argTypes := #[23, 23] })
    (B : Nat) (v : Value) (xs : List UInt8) (hs : a.eval s = v) (hx : a.eval x = .slice (some ⟨w.heap.size, 0, none⟩) 1 1) (hown : OwnB B w v xs)
    (hn : xs.length ≤ 1000000) (hB : B ≤ w.heap.size)
    (h : ∀ v' w', OwnB B w' v' (xs ++ [c]) → Below B w w' → wpList Tryd.prog ops Q rest (a.put o.dst v') w') :
    wpList Tryd.prog ops Q (o :: rest) a (w.alloc (.cells #[.int .u8 (c.toNat : Int)] 5)) := by
  obtain ⟨i0, hi, hz0, hz1, hz2⟩ := info_parts Tryd.info5
  refine wpList_append_own _ hgd s x 23 ho B 5 i0 (.int .u8 0) 1 1 Tryd.underlying23 hi hz0 hz1 hz2 rfl (by decide) v xs.length (u8s xs) hs (hown.alloc _) ⟨w.heap.size, 0, none⟩ 1 1 [u8v c] hx rfl ?_ ?_ ?_ ?_ ?_ ?_
  · intro j u hu
    cases j with
    | zero => simp at hu; subst hu; simp [Addr.add, u8v]
    | succ j => simp at hu
  · intro u hu; simp at hu; subst hu; rfl
  · unfold maxLen; omega
  · omega
  · simp; omega
  · intro v' w' hown' hg _
    have hlt := hown.lt
    refine h v' w' ?_ ?_
    · unfold OwnB
      have : u8s (xs ++ [c]) = u8s xs ++ [u8v c] := by simp [u8s]
      rw [this]
      simpa using hown'
    · refine Below.grown ((Below.refl _ _).alloc hB _) hg (by simp; omega) ?_
      intro k hk
      exact (hlt k hk).1

theorem OwnB.below {B B' : Nat} {w w' : World} {v : Value} {xs : List UInt8} (h : OwnB B w v xs) (hb : Below B' w w') (hB : w.heap.size ≤ B') : OwnB B w' v xs := by
  refine ⟨h.1, ?_⟩
  rcases h.2 with hn | ⟨g, cap, cur, rfl, hg, hh, rest⟩
  · exact .inl hn
  · have hlt : g < w.heap.size := (Array.getElem?_eq_some_iff.1 hh).1
    exact .inr ⟨g, cap, cur, rfl, hg, (hb.block g (by omega)).trans hh, rest⟩

end Go.Proofs
