/- Bits of 64-bit numbers as arithmetic: the words that the walks of gob's numbers meet. -/
import Derived.WalkKit
import Derived.Laws.BitsAllLaws
import Derived.Lib.BitFns
import Derived.Lib.ItoaNum
import Derived.Test.YtfagifnebjkaeaaDoorPlain
namespace Go.Gob

/-- i fits a signed integer of 64 bits -/
def I64 (i : Int) : Prop := -9223372036854775808 ≤ i ∧ i ≤ 9223372036854775807

/-- the unsigned number that stands for a signed one -/
def zig (i : Int) : Nat := if i < 0 then (2 * (-i - 1) + 1).toNat else (2 * i).toNat

theorem zig_lt {i : Int} (h : I64 i) : U64 (zig i) := by
  unfold I64 at h; unfold U64 zig; split <;> omega

theorem u64w (n : Int) : IntKind.u64.wrap n = n % 18446744073709551616 := by simp [IntKind.wrap, IntKind.bits, IntKind.signed]
theorem i64w_in (n : Int) (h : I64 n) : IntKind.i64.wrap n = n := IntWalk.i64_in n h

theorem u64max : IntKind.u64.max = 18446744073709551615 := by simp [IntKind.max, IntKind.bits, IntKind.signed]

theorem xor_max (a : Nat) (h : a < 18446744073709551616) : 18446744073709551615 ^^^ a = 18446744073709551615 - a := by
  have : (18446744073709551615 ^^^ a) = ((BitVec.allOnes 64) ^^^ (BitVec.ofNat 64 a)).toNat := by
    simp [BitVec.toNat_xor, Nat.mod_eq_of_lt h]
  rw [this, BitVec.allOnes_xor, BitVec.toNat_not]
  simp [Nat.mod_eq_of_lt h]

theorem or_one (a : Nat) : (2 * a) ||| 1 = 2 * a + 1 := by
  have := Nat.two_pow_add_eq_or_of_lt (i := 1) (b := 1) (by omega) a
  simpa using this.symm

/-- spec.AppendInt, below 0 -/
theorem zig_neg {i : Int} (h : I64 i) (h0 : i < 0) :
    bits BinOp.or IntKind.u64 (IntKind.u64.wrap (bits BinOp.xor IntKind.u64 IntKind.u64.max (IntKind.u64.wrap i) * 2)) 1 = (zig i : Int) := by
  unfold I64 at h
  have e1 : IntKind.u64.wrap i = ((18446744073709551616 + i).toNat : Int) := by rw [u64w]; omega
  have e2 : IntKind.u64.max = ((18446744073709551615 : Nat) : Int) := u64max
  rw [e1, e2, u64_xor_nat _ _ (by omega) (by omega), xor_max _ (by omega), u64w]
  have e3 : ((18446744073709551615 - (18446744073709551616 + i).toNat : Nat) : Int) * 2 % 18446744073709551616 = ((2 * (-i - 1).toNat : Nat) : Int) := by omega
  rw [e3, show (1 : Int) = ((1 : Nat) : Int) from rfl, u64_or_nat _ _ (by omega) (by omega), or_one]
  unfold zig
  rw [if_pos h0]
  omega

theorem zig_pos {i : Int} (h : I64 i) (h0 : ¬ i < 0) : IntKind.u64.wrap (IntKind.u64.wrap i * 2) = (zig i : Int) := by
  unfold I64 at h
  rw [u64w, u64w]
  unfold zig
  rw [if_neg h0]
  omega

theorem and_cat (k a b c d : Nat) (ha : a < 2 ^ k) (hc : c < 2 ^ k) : (a + 2 ^ k * b) &&& (c + 2 ^ k * d) = (a &&& c) + 2 ^ k * (b &&& d) := by
  have h1 : ((a + 2 ^ k * b) &&& (c + 2 ^ k * d)) % 2 ^ k = a &&& c := by
    rw [Nat.and_mod_two_pow, Nat.add_mul_mod_self_left, Nat.add_mul_mod_self_left, Nat.mod_eq_of_lt ha, Nat.mod_eq_of_lt hc]
  have h2 : ((a + 2 ^ k * b) &&& (c + 2 ^ k * d)) / 2 ^ k = b &&& d := by
    rw [Nat.and_div_two_pow, Nat.add_mul_div_left _ _ (Nat.two_pow_pos k), Nat.add_mul_div_left _ _ (Nat.two_pow_pos k), Nat.div_eq_of_lt ha, Nat.div_eq_of_lt hc, Nat.zero_add, Nat.zero_add]
  rw [← h1, ← h2]
  exact (Nat.mod_add_div _ _).symm

theorem or_cat (k a b c d : Nat) (ha : a < 2 ^ k) (hc : c < 2 ^ k) : (a + 2 ^ k * b) ||| (c + 2 ^ k * d) = (a ||| c) + 2 ^ k * (b ||| d) := by
  have h1 : ((a + 2 ^ k * b) ||| (c + 2 ^ k * d)) % 2 ^ k = a ||| c := by
    rw [Nat.or_mod_two_pow, Nat.add_mul_mod_self_left, Nat.add_mul_mod_self_left, Nat.mod_eq_of_lt ha, Nat.mod_eq_of_lt hc]
  have h2 : ((a + 2 ^ k * b) ||| (c + 2 ^ k * d)) / 2 ^ k = b ||| d := by
    rw [Nat.or_div_two_pow, Nat.add_mul_div_left _ _ (Nat.two_pow_pos k), Nat.add_mul_div_left _ _ (Nat.two_pow_pos k), Nat.div_eq_of_lt ha, Nat.div_eq_of_lt hc, Nat.zero_add, Nat.zero_add]
  rw [← h1, ← h2]
  exact (Nat.mod_add_div _ _).symm

/-- the low k bytes of x, in the other order -/
def revLow (x : Nat) : Nat → Nat
  | 0 => 0
  | k + 1 => revLow x k * 256 + x / 256 ^ k % 256

theorem revLow_lt (x k : Nat) : revLow x k < 256 ^ k := by
  induction k with
  | zero => simp [revLow]
  | succ k ih => simp only [revLow, Nat.pow_succ]; omega

theorem and_m0 (b0 b1 b2 b3 b4 b5 b6 b7 : Nat) (h0 : b0 < 256) (h1 : b1 < 256) (h2 : b2 < 256) (h3 : b3 < 256) (h4 : b4 < 256) (h5 : b5 < 256) (h6 : b6 < 256) (_h7 : b7 < 256) :
    ((b0 + 256 * b1) + 2 ^ 16 * ((b2 + 256 * b3) + 2 ^ 16 * ((b4 + 256 * b5) + 2 ^ 16 * (b6 + 256 * b7)))) &&& 71777214294589695 = b0 + 2 ^ 16 * (b2 + 2 ^ 16 * (b4 + 2 ^ 16 * b6)) := by
  rw [show (71777214294589695 : Nat) = 255 + 2 ^ 16 * (255 + 2 ^ 16 * (255 + 2 ^ 16 * 255)) by simp]
  rw [and_cat 16 _ _ _ _ (by omega) (by omega), and_cat 16 _ _ _ _ (by omega) (by omega), and_cat 16 _ _ _ _ (by omega) (by omega)]
  simp only [nat_mask8]
  omega

theorem and_m1 (c0 c1 c2 c3 : Nat) (h0 : c0 < 65536) (h1 : c1 < 65536) (h2 : c2 < 65536) (_h3 : c3 < 65536) :
    ((c0 + 65536 * c1) + 2 ^ 32 * (c2 + 65536 * c3)) &&& 281470681808895 = c0 + 2 ^ 32 * c2 := by
  rw [show (281470681808895 : Nat) = 65535 + 2 ^ 32 * 65535 by simp]
  rw [and_cat 32 _ _ _ _ (by omega) (by omega)]
  simp only [nat_mask16]
  omega

theorem or_hl (k a b : Nat) (h : a < 2 ^ k) : a ||| (2 ^ k * b) = a + 2 ^ k * b := by
  rw [Nat.or_comm, nat_join k _ _ (by simp) h, Nat.add_comm]

/-- bits.ReverseBytes64's three steps -/
def rb64 (x : Nat) : Nat :=
  let y := (x / 256 &&& 71777214294589695) ||| ((x &&& 71777214294589695) * 256 % 18446744073709551616)
  let z := (y / 65536 &&& 281470681808895) ||| ((y &&& 281470681808895) * 65536 % 18446744073709551616)
  (z / 4294967296) ||| (z * 4294967296 % 18446744073709551616)

theorem shl32 (A C : Nat) (h : A < 4294967296) : (A + 2 ^ 32 * C) * 4294967296 % 18446744073709551616 = 2 ^ 32 * A := by
  rw [show (18446744073709551616 : Nat) = 4294967296 * 4294967296 by simp, Nat.mul_mod_mul_right, Nat.add_mul_mod_self_left, Nat.mod_eq_of_lt h, Nat.mul_comm]

set_option maxRecDepth 20000 in
theorem rb64_bytes (b0 b1 b2 b3 b4 b5 b6 b7 : Nat) (h0 : b0 < 256) (h1 : b1 < 256) (h2 : b2 < 256) (h3 : b3 < 256) (h4 : b4 < 256) (h5 : b5 < 256) (h6 : b6 < 256) (h7 : b7 < 256) :
    rb64 ((b0 + 256 * b1) + 2 ^ 16 * ((b2 + 256 * b3) + 2 ^ 16 * ((b4 + 256 * b5) + 2 ^ 16 * (b6 + 256 * b7)))) =
      (b7 + 256 * b6) + 2 ^ 16 * (b5 + 256 * b4) + 2 ^ 32 * ((b3 + 256 * b2) + 2 ^ 16 * (b1 + 256 * b0)) := by
  have e1 : ((b0 + 256 * b1) + 2 ^ 16 * ((b2 + 256 * b3) + 2 ^ 16 * ((b4 + 256 * b5) + 2 ^ 16 * (b6 + 256 * b7)))) / 256 = (b1 + 256 * b2) + 2 ^ 16 * ((b3 + 256 * b4) + 2 ^ 16 * ((b5 + 256 * b6) + 2 ^ 16 * (b7 + 256 * 0))) := by omega
  have e2 : (b0 + 2 ^ 16 * (b2 + 2 ^ 16 * (b4 + 2 ^ 16 * b6))) * 256 % 18446744073709551616 = 2 ^ 8 * b0 + 2 ^ 16 * (2 ^ 8 * b2 + 2 ^ 16 * (2 ^ 8 * b4 + 2 ^ 16 * (2 ^ 8 * b6))) := by omega
  have e3 : (b1 + 2 ^ 16 * (b3 + 2 ^ 16 * (b5 + 2 ^ 16 * b7))) ||| (2 ^ 8 * b0 + 2 ^ 16 * (2 ^ 8 * b2 + 2 ^ 16 * (2 ^ 8 * b4 + 2 ^ 16 * (2 ^ 8 * b6)))) =
      ((b1 + 256 * b0) + 65536 * (b3 + 256 * b2)) + 2 ^ 32 * ((b5 + 256 * b4) + 65536 * (b7 + 256 * b6)) := by
    rw [or_cat 16 _ _ _ _ (by omega) (by omega), or_cat 16 _ _ _ _ (by omega) (by omega), or_cat 16 _ _ _ _ (by omega) (by omega),
      or_hl 8 _ _ (by omega), or_hl 8 _ _ (by omega), or_hl 8 _ _ (by omega), or_hl 8 _ _ (by omega)]
    omega
  unfold rb64
  rw [e1, and_m0 b1 b2 b3 b4 b5 b6 b7 0 h1 h2 h3 h4 h5 h6 h7 (by omega), and_m0 b0 b1 b2 b3 b4 b5 b6 b7 h0 h1 h2 h3 h4 h5 h6 h7, e2, e3]
  dsimp only
  have e4 : (((b1 + 256 * b0) + 65536 * (b3 + 256 * b2)) + 2 ^ 32 * ((b5 + 256 * b4) + 65536 * (b7 + 256 * b6))) / 65536 =
      ((b3 + 256 * b2) + 65536 * (b5 + 256 * b4)) + 2 ^ 32 * ((b7 + 256 * b6) + 65536 * 0) := by omega
  have e5 : ((b1 + 256 * b0) + 2 ^ 32 * (b5 + 256 * b4)) * 65536 % 18446744073709551616 = 2 ^ 16 * (b1 + 256 * b0) + 2 ^ 32 * (2 ^ 16 * (b5 + 256 * b4)) := by omega
  rw [e4, and_m1 _ _ _ _ (by omega) (by omega) (by omega) (by omega), and_m1 _ _ _ _ (by omega) (by omega) (by omega) (by omega), e5,
    or_cat 32 _ _ _ _ (by omega) (by omega), or_hl 16 _ _ (by omega), or_hl 16 _ _ (by omega)]
  have e6 : ((b3 + 256 * b2) + 2 ^ 16 * (b1 + 256 * b0) + 2 ^ 32 * ((b7 + 256 * b6) + 2 ^ 16 * (b5 + 256 * b4))) / 4294967296 = (b7 + 256 * b6) + 2 ^ 16 * (b5 + 256 * b4) := by omega
  have e7 : ((b3 + 256 * b2) + 2 ^ 16 * (b1 + 256 * b0) + 2 ^ 32 * ((b7 + 256 * b6) + 2 ^ 16 * (b5 + 256 * b4))) * 4294967296 % 18446744073709551616 = 2 ^ 32 * ((b3 + 256 * b2) + 2 ^ 16 * (b1 + 256 * b0)) := shl32 _ _ (by omega)
  rw [e6, e7, or_hl 32 _ _ (by omega)]

theorem rb64_eq (x : Nat) (h : U64 x) : rb64 x = revLow x 8 := by
  unfold U64 at h
  have hq : ∀ k, x / 256 ^ k = x / 256 ^ k % 256 + 256 * (x / 256 ^ (k + 1)) := fun k => by
    rw [Nat.pow_succ, ← Nat.div_div_eq_div_mul, Nat.mod_add_div]
  have hb : ∀ k, x / 256 ^ k % 256 < 256 := fun k => Nat.mod_lt _ (by omega)
  have h8 : x / 256 ^ 8 = 0 := Nat.div_eq_of_lt (by omega)
  simp only [revLow]
  have q0 := hq 0; have q1 := hq 1; have q2 := hq 2; have q3 := hq 3; have q4 := hq 4; have q5 := hq 5; have q6 := hq 6; have q7 := hq 7
  have b0 := hb 0; have b1 := hb 1; have b2 := hb 2; have b3 := hb 3; have b4 := hb 4; have b5 := hb 5; have b6 := hb 6; have b7 := hb 7
  clear hq hb
  generalize x / 256 ^ 0 % 256 = c0 at *
  generalize x / 256 ^ 1 % 256 = c1 at *
  generalize x / 256 ^ 2 % 256 = c2 at *
  generalize x / 256 ^ 3 % 256 = c3 at *
  generalize x / 256 ^ 4 % 256 = c4 at *
  generalize x / 256 ^ 5 % 256 = c5 at *
  generalize x / 256 ^ 6 % 256 = c6 at *
  generalize x / 256 ^ 7 % 256 = c7 at *
  have hx : x = (c0 + 256 * c1) + 2 ^ 16 * ((c2 + 256 * c3) + 2 ^ 16 * ((c4 + 256 * c5) + 2 ^ 16 * (c6 + 256 * c7))) := by
    have e0 : x / 256 ^ 0 = x := by simp
    rw [e0] at q0
    simp only [Nat.zero_add, Nat.reduceAdd] at q0 q1 q2 q3 q4 q5 q6 q7
    generalize x / 256 ^ 1 = d1 at *
    generalize x / 256 ^ 2 = d2 at *
    generalize x / 256 ^ 3 = d3 at *
    generalize x / 256 ^ 4 = d4 at *
    generalize x / 256 ^ 5 = d5 at *
    generalize x / 256 ^ 6 = d6 at *
    generalize x / 256 ^ 7 = d7 at *
    generalize x / 256 ^ 8 = d8 at *
    omega
  rw [hx, rb64_bytes c0 c1 c2 c3 c4 c5 c6 c7 b0 b1 b2 b3 b4 b5 b6 b7]
  clear hx q0 q1 q2 q3 q4 q5 q6 q7 h8 h
  omega

/-- one round of spec.Reversed -/
theorem rev_step (x k : Nat) (hk : k < 8) :
    bits BinOp.or IntKind.u64 (IntKind.u64.wrap (((revLow x k : Nat) : Int) * 256)) (bits BinOp.and IntKind.u64 ((x / 256 ^ k % 18446744073709551616 : Nat) : Int) 255) = ((revLow x (k + 1) : Nat) : Int) := by
  have hl := revLow_lt x k
  have hl7 : revLow x k < 72057594037927936 := Nat.lt_of_lt_of_le hl (by
    have : (256 : Nat) ^ k ≤ 256 ^ 7 := Nat.pow_le_pow_right (by omega) (by omega)
    omega)
  rw [u64w, show (255 : Int) = ((255 : Nat) : Int) from rfl, u64_and_nat _ _ (Nat.mod_lt _ (by omega)) (by omega), nat_mask8]
  have e : ((revLow x k : Nat) : Int) * 256 % 18446744073709551616 = ((2 ^ 8 * revLow x k : Nat) : Int) := by omega
  rw [e, u64_or_nat _ _ (by omega) (by omega), Nat.or_comm, or_hl 8 _ _ (by omega)]
  simp only [revLow]
  omega

/-- bits.LeadingZeros64(x) >> 3 -/
theorem lead_bytes (x : Nat) (h : U64 x) (h1 : 128 ≤ x) : (64 - (Lib.bitLen x : Int)) / 8 = ((8 - nb x : Nat) : Int) := by
  unfold U64 at h
  obtain ⟨b1, _, b3⟩ := Lib.bitLenAux_bounds 64 x h (by omega)
  have b3' : x < 2 ^ Lib.bitLen x := b3
  have up : ∀ k, k ≤ 64 → x < 2 ^ k → Lib.bitLen x ≤ k := fun k hk hx => Lib.bitLen_le x k hk hx
  have lo : ∀ k, 2 ^ k ≤ x → k < Lib.bitLen x := fun k hk => by
    rcases Nat.lt_or_ge k (Lib.bitLen x) with h' | h'
    · exact h'
    · have := Nat.pow_le_pow_right (n := 2) (by omega) h'
      omega
  have l7 := lo 7 (by omega)
  have key : ∀ n, 1 ≤ n → n ≤ 8 → 8 * (n - 1) < Lib.bitLen x → Lib.bitLen x ≤ 8 * n → (64 - (Lib.bitLen x : Int)) / 8 = ((8 - n : Nat) : Int) := by
    intro n h1 h2 h3 h4
    omega
  clear b1 b3 b3'
  unfold nb
  split
  · exact key 1 (by omega) (by omega) (by omega) (up 8 (by omega) (by omega))
  split
  · exact key 2 (by omega) (by omega) (lo 8 (by omega)) (up 16 (by omega) (by omega))
  split
  · exact key 3 (by omega) (by omega) (lo 16 (by omega)) (up 24 (by omega) (by omega))
  split
  · exact key 4 (by omega) (by omega) (lo 24 (by omega)) (up 32 (by omega) (by omega))
  split
  · exact key 5 (by omega) (by omega) (lo 32 (by omega)) (up 40 (by omega) (by omega))
  split
  · exact key 6 (by omega) (by omega) (lo 40 (by omega)) (up 48 (by omega) (by omega))
  split
  · exact key 7 (by omega) (by omega) (lo 48 (by omega)) (up 56 (by omega) (by omega))
  · exact key 8 (by omega) (by omega) (lo 56 (by omega)) (up 64 (by omega) (by omega))

theorem tailBytes_get (x : Nat) : ∀ (n j : Nat), j < n → (tailBytes x n)[j]? = some (byteN x (n - 1 - j))
  | 0, j, h => by omega
  | n + 1, 0, _ => by simp [tailBytes]
  | n + 1, j + 1, h => by
    simp only [tailBytes, List.getElem?_cons_succ]
    rw [tailBytes_get x n j (by omega)]
    congr 2
    omega

theorem not_i64 {i : Int} (h : I64 i) (h0 : i < 0) : bits BinOp.xor IntKind.i64 (-1) i = -i - 1 := by
  unfold I64 at h
  show IntKind.i64.wrap (((BitVec.ofInt 64 (-1)) ^^^ (BitVec.ofInt 64 i)).toNat : Int) = _
  have e1 : BitVec.ofInt 64 (-1) = BitVec.allOnes 64 := by decide
  have e2 : (BitVec.ofInt 64 i).toNat = (18446744073709551616 + i).toNat := by
    rw [BitVec.toNat_ofInt]
    omega
  rw [e1, BitVec.allOnes_xor, BitVec.toNat_not, e2, i64w_in _ ⟨by omega, by omega⟩]
  omega

/-- gob's encodeInt, below 0 -/
theorem zigI_neg {i : Int} (h : I64 i) (h0 : i < 0) : bits BinOp.or IntKind.u64 (IntKind.u64.wrap (RowKit.wrap64 (bits BinOp.xor IntKind.i64 (-1) i * 2))) 1 = (zig i : Int) := by
  rw [not_i64 h h0]
  unfold I64 at h
  have e3 : IntKind.u64.wrap (RowKit.wrap64 ((-i - 1) * 2)) = ((2 * (-i - 1).toNat : Nat) : Int) := by
    rw [u64w]
    unfold RowKit.wrap64
    omega
  rw [e3, show (1 : Int) = ((1 : Nat) : Int) from rfl, u64_or_nat _ _ (by omega) (by omega), or_one]
  unfold zig
  rw [if_pos h0]
  omega

theorem zigI_pos {i : Int} (h : I64 i) (h0 : ¬ i < 0) : IntKind.u64.wrap (RowKit.wrap64 (i * 2)) = (zig i : Int) := by
  unfold I64 at h
  rw [u64w]
  unfold RowKit.wrap64 zig
  rw [if_neg h0]
  omega

end Go.Gob
