/- The walks of spec.AppendInt, spec.Reversed, spec.AppendFloat, and of what gob does with a float's bits. -/
import Derived.Test.YtfagifnebjkaeaaDoorSpecU
import Derived.Test.YtfagifnebjkaeaaDoorNums
namespace Go.Proofs
open Go.RowKit Go.Gob

set_option maxRecDepth 20000 in
set_option maxHeartbeats 400000 in
theorem AppendInt_any (B : Nat) (w : World) (i : Int) (h1 : I64 i) (v : Value) (xs : List UInt8) (hn : xs.length ≤ 1000) (hB : B ≤ w.heap.size)
    (hown : OwnB B w v xs) :
   Calls Tryd.prog 7 #[v, .int .i64 i] w fun e w' => ∃ v', e = .returned v' ∧ OwnB B w' v' (xs ++ encU (zig i)) ∧ Below B w w' := by
  have hz := zig_lt h1
  by_cases hx : i < 0
  · have hxd : decide (i < 0) = true := by simp; omega
    have E := Lib.hid (zig_neg h1 hx)
    go_enter Tryd.func7, Tryd.ntmps7
    go_wp2_with fail
    rw [E.out]
    refine (AppendUint_any B w (zig i) hz v xs hn hB hown).mono ?_
    rintro e w' ⟨v', rfl, ho, hb⟩
    go_wp2
    go_ret
    exact ⟨v', rfl, ho, hb⟩
  · have hxd : decide (i < 0) = false := by simp; omega
    have E := Lib.hid (zig_pos h1 hx)
    go_enter Tryd.func7, Tryd.ntmps7
    go_wp2_with fail
    rw [E.out]
    refine (AppendUint_any B w (zig i) hz v xs hn hB hown).mono ?_
    rintro e w' ⟨v', rfl, ho, hb⟩
    go_wp2
    go_ret
    exact ⟨v', rfl, ho, hb⟩

theorem div_256 (x k : Nat) (h : U64 x) : ((x / 256 ^ k % 18446744073709551616 : Nat) : Int) / 256 = ((x / 256 ^ (k + 1) % 18446744073709551616 : Nat) : Int) := by
  unfold U64 at h
  have h1 : x / 256 ^ k ≤ x := Nat.div_le_self _ _
  have h2 : x / 256 ^ (k + 1) ≤ x := Nat.div_le_self _ _
  rw [Nat.mod_eq_of_lt (by omega), Nat.mod_eq_of_lt (by omega), Nat.pow_succ, ← Nat.div_div_eq_div_mul]
  simp

theorem revLow_u64 (x : Nat) : U64 (revLow x 8) := by
  have := revLow_lt x 8
  unfold U64
  simpa using this

set_option maxRecDepth 20000 in
set_option maxHeartbeats 400000 in
theorem Reversed_any (w : World) (x : Nat) (h1 : U64 x) :
   Calls Tryd.prog 15 #[.int .u64 x] w fun e w' => e = .returned (.int .u64 (revLow x 8 : Nat)) ∧ w' = w := by
  have h0 : (x : Int) = ((x / 256 ^ 0 % 18446744073709551616 : Nat) : Int) := by
    unfold U64 at h1
    rw [Nat.pow_zero, Nat.div_one, Nat.mod_eq_of_lt (by omega)]
  have H0 := Lib.hid h0
  clear h0
  go_enter Tryd.func15, Tryd.ntmps15
  go_wp2_with fail
  go_loop [0, 3, 4] (fun u v i => ∃ k U V : Nat, k ≤ 8 ∧ i = .int .i64 k ∧ u = .int .u64 U ∧ v = .int .u64 V ∧ Hid (U = x / 256 ^ k % 18446744073709551616 ∧ V = revLow x k)) (fun _ _ i => 8 - (intOf i).toNat)
  case atStart => exact ⟨0, x, 0, by omega, rfl, rfl, rfl, ⟨by have := H0.out; omega, rfl⟩⟩
  case round =>
    obtain ⟨k, U, V, hk, rfl, rfl, rfl, HUV⟩ := hrel
    by_cases hk8 : k < 8
    · go_wp2_with fail
      go_round
      case rel =>
        refine ⟨k + 1, x / 256 ^ (k + 1) % 18446744073709551616, revLow x (k + 1), by omega, by go_num, ?_, ?_, ⟨rfl, rfl⟩⟩
        · rw [HUV.out.1, ← div_256 x k h1]
        · rw [HUV.out.1, HUV.out.2, rev_step x k hk8]
      case measure => simp [intOf]; omega
    · go_wp2_with fail
      go_ret
      obtain rfl : k = 8 := by omega
      exact ⟨congrArg (fun z : Nat => Ending.returned (.int .u64 (z : Int))) HUV.out.2, rfl⟩

set_option maxRecDepth 20000 in
set_option maxHeartbeats 400000 in
theorem AppendFloat_any (B : Nat) (w : World) (x : Nat) (h1 : U64 x) (v : Value) (xs : List UInt8) (hn : xs.length ≤ 1000) (hB : B ≤ w.heap.size)
    (hown : OwnB B w v xs) :
   Calls Tryd.prog 9 #[v, .int .u64 x] w fun e w' => ∃ v', e = .returned v' ∧ OwnB B w' v' (xs ++ encU (revLow x 8)) ∧ Below B w w' := by
  go_enter Tryd.func9, Tryd.ntmps9
  go_wp2_with fail
  refine (Reversed_any w x h1).mono ?_
  rintro e w' ⟨rfl, rfl⟩
  go_wp2_with fail
  refine (AppendUint_any B _ _ (revLow_u64 x) v xs hn hB hown).mono ?_
  rintro e w' ⟨v', rfl, ho, hb⟩
  go_wp2
  go_ret
  exact ⟨v', rfl, ho, hb⟩

theorem run_frombits (w : World) (x : Int) : (callFunc 24 #[.int .u64 x]).run Tryd.prog w = .ok (.value (.float .f64 x.toNat)) w := by kernel_rfl
theorem run_tobits (w : World) (x : Nat) : (callFunc 34 #[.float .f64 x]).run Tryd.prog w = .ok (.value (.int .u64 x)) w := by kernel_rfl

theorem rb_step (a c m : Nat) (ha : a < 18446744073709551616) (hc : c < 18446744073709551616) :
    bits BinOp.or IntKind.u64 (bits BinOp.and IntKind.u64 ((a : Int) / (m : Int)) (c : Int)) (IntKind.u64.wrap (bits BinOp.and IntKind.u64 (a : Int) (c : Int) * (m : Int))) =
      (((a / m &&& c) ||| ((a &&& c) * m % 18446744073709551616) : Nat) : Int) := by
  have h1 : a / m < 18446744073709551616 := Nat.lt_of_le_of_lt (Nat.div_le_self _ _) ha
  have h2 : a / m &&& c < 18446744073709551616 := Nat.lt_of_le_of_lt Nat.and_le_right hc
  rw [← Int.natCast_ediv, u64_and_nat _ _ h1 hc, u64_and_nat _ _ ha hc, u64w, ← Int.natCast_mul, show (18446744073709551616 : Int) = ((18446744073709551616 : Nat) : Int) from rfl,
    ← Int.natCast_emod, u64_or_nat _ _ h2 (Nat.mod_lt _ (by omega))]

theorem rb_last (a m : Nat) (ha : a < 18446744073709551616) :
    bits BinOp.or IntKind.u64 ((a : Int) / (m : Int)) (IntKind.u64.wrap ((a : Int) * (m : Int))) = (((a / m) ||| (a * m % 18446744073709551616) : Nat) : Int) := by
  have h1 : a / m < 18446744073709551616 := Nat.lt_of_le_of_lt (Nat.div_le_self _ _) ha
  rw [← Int.natCast_ediv, u64w, ← Int.natCast_mul, show (18446744073709551616 : Int) = ((18446744073709551616 : Nat) : Int) from rfl,
    ← Int.natCast_emod, u64_or_nat _ _ h1 (Nat.mod_lt _ (by omega))]

theorem or_u64 {a b : Nat} (ha : a < 18446744073709551616) (hb : b < 18446744073709551616) : a ||| b < 18446744073709551616 := by
  have := Nat.or_lt_two_pow (n := 64) (x := a) (y := b) (by simpa using ha) (by simpa using hb)
  simpa using this

theorem rb_all (x : Nat) (h : U64 x) (y z : Int)
    (hy : y = bits BinOp.or IntKind.u64 (bits BinOp.and IntKind.u64 ((x : Int) / 256) 71777214294589695) (IntKind.u64.wrap (bits BinOp.and IntKind.u64 (x : Int) 71777214294589695 * 256)))
    (hz : z = bits BinOp.or IntKind.u64 (bits BinOp.and IntKind.u64 (y / 65536) 281470681808895) (IntKind.u64.wrap (bits BinOp.and IntKind.u64 y 281470681808895 * 65536))) :
    bits BinOp.or IntKind.u64 (z / 4294967296) (IntKind.u64.wrap (z * 4294967296)) = ((revLow x 8 : Nat) : Int) := by
  rw [← rb64_eq x h]
  unfold U64 at h
  have e1 := rb_step x 71777214294589695 256 (by omega) (by omega)
  rw [show ((71777214294589695 : Nat) : Int) = 71777214294589695 from rfl, show ((256 : Nat) : Int) = 256 from rfl] at e1
  rw [e1] at hy
  subst hy
  have b1 : (x / 256 &&& 71777214294589695) ||| ((x &&& 71777214294589695) * 256 % 18446744073709551616) < 18446744073709551616 :=
    or_u64 (Nat.lt_of_le_of_lt Nat.and_le_right (by omega)) (Nat.mod_lt _ (by omega))
  have e2 := rb_step _ 281470681808895 65536 b1 (by omega)
  rw [show ((281470681808895 : Nat) : Int) = 281470681808895 from rfl, show ((65536 : Nat) : Int) = 65536 from rfl] at e2
  rw [e2] at hz
  subst hz
  have e3 := rb_last _ 4294967296 (or_u64 (Nat.lt_of_le_of_lt Nat.and_le_right (by omega)) (Nat.mod_lt _ (by omega)) :
    (((x / 256 &&& 71777214294589695) ||| ((x &&& 71777214294589695) * 256 % 18446744073709551616)) / 65536 &&& 281470681808895) |||
      ((((x / 256 &&& 71777214294589695) ||| ((x &&& 71777214294589695) * 256 % 18446744073709551616)) &&& 281470681808895) * 65536 % 18446744073709551616) < 18446744073709551616)
  rw [show ((4294967296 : Nat) : Int) = 4294967296 from rfl] at e3
  exact e3

set_option maxRecDepth 20000 in
set_option maxHeartbeats 400000 in
theorem ReverseBytes64_any (w : World) (x : Nat) (h1 : U64 x) :
   Calls Tryd.prog 35 #[.int .u64 x] w fun e w' => e = .returned (.int .u64 (revLow x 8 : Nat)) ∧ w' = w := by
  have E := Lib.hid (rb_all x h1 _ _ rfl rfl)
  go_enter Tryd.func35, Tryd.ntmps35
  go_wp2_with fail
  go_ret
  exact ⟨congrArg (fun z : Int => Ending.returned (.int .u64 z)) E.out, rfl⟩

set_option maxRecDepth 20000 in
set_option maxHeartbeats 400000 in
theorem floatBits_any (w : World) (x : Nat) (h1 : U64 x) :
   Calls Tryd.prog 23 #[.float .f64 x] w fun e w' => e = .returned (.int .u64 (revLow x 8 : Nat)) ∧ w' = w := by
  have hb := fun w => run_tobits w x
  go_enter Tryd.func23, Tryd.ntmps23
  go_wp2_with fail
  refine (ReverseBytes64_any w x h1).mono ?_
  rintro e w' ⟨rfl, rfl⟩
  go_wp2
  go_ret
  exact ⟨rfl, rfl⟩
end Go.Proofs
