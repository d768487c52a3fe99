/- The plain mathematics of gob's numbers: the bytes of an unsigned integer, of a signed one, and the turning of eight bytes. -/
namespace Go.Gob

/-- how many bytes hold x (of 64 bits; one at least) -/
def nb (x : Nat) : Nat :=
  if x < 2 ^ 8 then 1 else if x < 2 ^ 16 then 2 else if x < 2 ^ 24 then 3 else if x < 2 ^ 32 then 4
  else if x < 2 ^ 40 then 5 else if x < 2 ^ 48 then 6 else if x < 2 ^ 56 then 7 else 8

theorem nb_pos (x : Nat) : 1 ≤ nb x := by unfold nb; (repeat' split) <;> omega
theorem nb_le (x : Nat) : nb x ≤ 8 := by unfold nb; (repeat' split) <;> omega

/-- byte k of x, from the low end -/
def byteN (x k : Nat) : UInt8 := UInt8.ofNat (x / 2 ^ (8 * k))

/-- the low n bytes of x, high byte first -/
def tailBytes (x : Nat) : Nat → List UInt8
  | 0 => []
  | n + 1 => byteN x n :: tailBytes x n

theorem tailBytes_length (x n : Nat) : (tailBytes x n).length = n := by
  induction n with
  | zero => rfl
  | succ n ih => simp [tailBytes, ih]

/-- the bytes of an unsigned integer -/
def encU (x : Nat) : List UInt8 :=
  if x < 128 then [UInt8.ofNat x] else UInt8.ofNat (256 - nb x) :: tailBytes x (nb x)

theorem encU_length (x : Nat) : (encU x).length ≤ 9 := by
  unfold encU
  split
  · simp
  · simp [tailBytes_length]; exact nb_le x

theorem encU_pos (x : Nat) : 0 < (encU x).length := by
  unfold encU; split <;> simp

/-- x fits 64 bits -/
def U64 (x : Nat) : Prop := x < 2 ^ 64

theorem nb_of (x k : Nat) (hx : U64 x) (hk1 : 1 ≤ k) (hk8 : k ≤ 8) (hlo : ∀ j, 1 ≤ j → j < k → x / 2 ^ (8 * j) ≠ 0) (hhi : k = 8 ∨ x / 2 ^ (8 * k) = 0) : k = nb x := by
  unfold U64 at hx
  have hhi' : k = 8 ∨ x < 2 ^ (8 * k) := hhi.imp id fun h => by
    rcases Nat.lt_or_ge x (2 ^ (8 * k)) with h' | h'
    · exact h'
    · have := Nat.div_pos h' (Nat.two_pow_pos _); omega
  have hlo' : 1 < k → 2 ^ (8 * (k - 1)) ≤ x := fun h => by
    have h1 := hlo (k - 1) (by omega) (by omega)
    rcases Nat.lt_or_ge x (2 ^ (8 * (k - 1))) with h' | h'
    · exact absurd (Nat.div_eq_of_lt h') h1
    · exact h'
  have hk : k = 1 ∨ k = 2 ∨ k = 3 ∨ k = 4 ∨ k = 5 ∨ k = 6 ∨ k = 7 ∨ k = 8 := by omega
  unfold nb
  rcases hk with rfl | rfl | rfl | rfl | rfl | rfl | rfl | rfl <;> simp at hlo' hhi' ⊢ <;> (repeat' split) <;> omega

theorem div_cast (x k : Nat) : ((x : Int) / 2 ^ (8 * k)) = ((x / 2 ^ (8 * k) : Nat) : Int) := by simp

theorem bne_div0 {x k : Nat} (h : ((x : Int) / 2 ^ (8 * k) != 0) = false) : x / 2 ^ (8 * k) = 0 := by
  rw [div_cast] at h
  have h2 := bne_eq_false_iff_eq.1 h
  omega

theorem bne_div1 {x k : Nat} (h : ((x : Int) / 2 ^ (8 * k) != 0) = true) : x / 2 ^ (8 * k) ≠ 0 := by
  rw [div_cast] at h
  have h2 := bne_iff_ne.1 h
  omega

theorem byteN_int (x k : Nat) : ((x : Int) / 2 ^ (8 * k)) % 256 = ((byteN x k).toNat : Int) := by
  rw [div_cast]
  simp [byteN, UInt8.toNat_ofNat']

end Go.Gob
