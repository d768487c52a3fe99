/- The walks of encBuffer.Write and encBuffer.writeByte: they append to a buffer. -/
import Derived.Test.YtfagifnebjkaeaaDoorBuf
import Derived.Test.YtfagifnebjkaeaaDoorNums
namespace Go.Proofs
open Go.RowKit Go.Gob

theorem Src8.slice {w : World} {v : Value} {xs : List UInt8} (h : Src8 w v xs) : ∃ bs c, v = .slice bs xs.length c := by
  rcases h with ⟨c, rfl, rfl⟩ | ⟨b, o, c, rfl, _⟩
  · exact ⟨_, _, rfl⟩
  · exact ⟨_, _, rfl⟩

theorem BufGrown.start {w w1 w' : World} {b o : Nat} {G : Option Nat} {ys : List UInt8} (h : BufGrown w1 b o G ys w') (hk : Kept (BufReg b o G) w w1) : BufGrown w b o G ys w' := by
  obtain ⟨G', h1, h2, h3⟩ := h
  refine ⟨G', h1, hk.trans h2 (fun _ _ _ h => h), ?_⟩
  rcases h3 with h3 | ⟨g, h3, h4, h5⟩
  · exact .inl h3
  · exact .inr ⟨g, h3, Nat.le_trans hk.size h4, h5⟩

set_option maxRecDepth 20000 in
set_option maxHeartbeats 400000 in
theorem Write_any (w : World) (b o : Nat) (G : Option Nat) (xs : List UInt8) (u : Value) (ys : List UInt8) (h : Buf w b o G xs) (hu : Src8 w u ys) (hl : xs.length ≤ 100000000000) (hl2 : ys.length ≤ 100000000000) :
   Calls Tryd.prog 33 #[.pointer (some ⟨b, o, none⟩), u] w fun e w' => e = .returned (.tuple #[.int .i64 ys.length, .nilIface]) ∧ BufGrown w b o G (xs ++ ys) w' := by
  obtain ⟨hs, hf, v, hc, hd⟩ := h
  obtain ⟨ub, uc, rfl⟩ := hu.slice
  go_enter Tryd.func33, Tryd.ntmps33
  go_wp2_with (at_builtin; refine wpl_append_buf rfl _ _ rfl v (.slice ub ys.length uc) rfl rfl hs hc hf hd hu (by omega) ?_; intro bs n cap w' hc' hf' hB)
  go_ret2
  exact ⟨rfl, hB⟩

set_option maxRecDepth 20000 in
set_option maxHeartbeats 400000 in
theorem writeByte_any (w : World) (b o : Nat) (G : Option Nat) (xs : List UInt8) (c : UInt8) (h : Buf w b o G xs) (hl : xs.length ≤ 100000000000) :
   Calls Tryd.prog 31 #[.pointer (some ⟨b, o, none⟩), .int .u8 (c.toNat : Int)] w fun e w' => e = .returned (.tuple #[]) ∧ BufGrown w b o G (xs ++ [c]) w' := by
  have h1 : Buf (w.alloc (.cells #[.int .u8 (c.toNat : Int)] 5)) b o G xs := h.kept (Kept.alloc w _) (F := fun _ _ => False) (fun _ _ _ h => h)
  have hu : Src8 (w.alloc (.cells #[.int .u8 (c.toNat : Int)] 5)) (.slice (some ⟨w.heap.size, 0, none⟩) 1 1) [c] := by
    refine .inr ⟨w.heap.size, 0, 1, rfl, fun i d hd => ?_⟩
    cases i with
    | zero => simp at hd; subst hd; simp [u8v]
    | succ i => simp at hd
  obtain ⟨hs, hf, v, hc, hd⟩ := h1
  have hc0 : w.cell? ⟨b, o, none⟩ = some v := by rw [← hc]; exact (World.cell?_alloc_lt w _ _ h.lt).symm
  clear h
  go_enter Tryd.func31, Tryd.ntmps31
  go_wp2_with (at_builtin; refine wpl_append_buf rfl _ _ rfl v (.slice (some ⟨w.heap.size, 0, none⟩) 1 1) rfl rfl hs hc hf hd hu (by simp; omega) ?_; intro bs n cap w' hc' hf' hB)
  go_end0
  exact ⟨rfl, hB.start (Kept.alloc w _)⟩
end Go.Proofs
