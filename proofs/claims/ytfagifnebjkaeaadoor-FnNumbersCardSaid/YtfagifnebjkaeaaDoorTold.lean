/- The plain law of the numbers: what GetUint tells of the bytes of a number is that number. -/
import Derived.Test.YtfagifnebjkaeaaDoorGetU
import Derived.Test.YtfagifnebjkaeaaDoorSpecG
namespace Go.Proofs
open Go.RowKit Go.Gob

theorem decV_cons (c : UInt8) : ∀ (l : List UInt8), decV (c :: l) = c.toNat * 256 ^ l.length + decV l := by
  have gen : ∀ (l : List UInt8) (a : Nat), l.foldl (fun a c => a * 256 + c.toNat) a = a * 256 ^ l.length + l.foldl (fun a c => a * 256 + c.toNat) 0 := by
    intro l
    induction l with
    | nil => intro a; simp
    | cons d l ih =>
      intro a
      rw [List.foldl_cons, List.foldl_cons, ih, ih (0 * 256 + d.toNat), List.length_cons, Nat.pow_succ]
      have e1 : (a * 256 + d.toNat) * 256 ^ l.length = a * (256 ^ l.length * 256) + d.toNat * 256 ^ l.length := by
        rw [Nat.add_mul, Nat.mul_assoc, Nat.mul_comm 256]
      rw [e1, Nat.zero_mul, Nat.zero_add]
      omega
  intro l
  have := gen l c.toNat
  unfold decV
  rw [List.foldl_cons, Nat.zero_mul, Nat.zero_add, this]

theorem decV_tail (x : Nat) : ∀ n, decV (tailBytes x n) = x % 256 ^ n
  | 0 => by simp [tailBytes, decV, Nat.mod_one]
  | n + 1 => by
    rw [tailBytes, decV_cons, decV_tail x n, tailBytes_length, Nat.pow_succ, Nat.mod_mul]
    have e : (byteN x n).toNat = x / 256 ^ n % 256 := by
      rw [byteN, UInt8.toNat_ofNat', Nat.pow_mul]
    rw [e, Nat.mul_comm (256 ^ n), Nat.add_comm]

theorem nb_fits (x : Nat) (hx : U64 x) : x < 256 ^ nb x := by
  unfold U64 at hx
  unfold nb
  (repeat' split) <;> omega

theorem told_enc (x : Nat) (hx : U64 x) : Told (encU x) x (encU x).length 0 := by
  unfold encU
  split
  · rename_i h
    have e : (UInt8.ofNat x).toNat = x := by rw [UInt8.toNat_ofNat']; omega
    have t := Take.small (UInt8.ofNat x) [] (by rw [e]; exact h)
    rw [e] at t
    refine Told.fine _ _ _ ?_ t
    simp [isCut, hd0, e]
    omega
  · rename_i h
    have h1 := nb_pos x
    have h8 := nb_le x
    have e : (UInt8.ofNat (256 - nb x)).toNat = 256 - nb x := by rw [UInt8.toNat_ofNat']; omega
    have hl := tailBytes_length x (nb x)
    have t := Take.big (UInt8.ofNat (256 - nb x)) (tailBytes x (nb x)) [] (by rw [e]; omega) (by rw [e]; omega) (by rw [e, hl]; omega)
    rw [List.append_nil, decV_tail, Nat.mod_eq_of_lt (nb_fits x hx)] at t
    rw [List.length_cons, Nat.add_comm]
    refine Told.fine _ _ _ ?_ t
    simp [isCut, hd0, e, hl]
    omega

theorem told_all (bs : List UInt8) : ∃ x n code, Told bs x n code := by
  cases h : isCut bs with
  | true => exact ⟨_, _, _, .cut bs h⟩
  | false =>
    obtain ⟨x, code, k, ht⟩ := take_all bs h
    by_cases h0 : code = 0
    · subst h0; exact ⟨_, _, _, .fine bs x k h ht⟩
    · exact ⟨_, _, _, .fault bs x code k h h0 ht⟩
end Go.Proofs
