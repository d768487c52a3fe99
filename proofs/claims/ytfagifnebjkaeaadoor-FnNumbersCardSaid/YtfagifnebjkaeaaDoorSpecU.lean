/- The walk of spec.AppendUint: it appends the bytes of an unsigned integer to a row of its own. -/
import Derived.Test.YtfagifnebjkaeaaDoorMem
import Derived.Test.YtfagifnebjkaeaaDoorPlain
namespace Go.Proofs
open Go.RowKit Go.Gob

set_option maxRecDepth 20000 in
set_option maxHeartbeats 400000 in
theorem AppendUint_any (B : Nat) (w : World) (x : Nat) (h1 : U64 x) (v : Value) (xs : List UInt8) (hn : xs.length ≤ 1000) (hB : B ≤ w.heap.size)
    (hown : OwnB B w v xs) :
   Calls Tryd.prog 5 #[v, .int .u64 x] w fun e w' => ∃ v', e = .returned v' ∧ OwnB B w' v' (xs ++ encU x) ∧ Below B w w' := by
  by_cases hx : x < 128
  · have hxd : decide ((x : Int) < 128) = true := by simp; omega
    have HC := Lib.hid (show (x : Int) = ((UInt8.ofNat x).toNat : Int) by simp; omega)
    have HE := Lib.hid (show encU x = [UInt8.ofNat x] by simp [encU, hx])
    go_enter Tryd.func5, Tryd.ntmps5
    go_wp2_with (at_builtin; rw [HC.out]; refine wpl_append1 w _ rfl _ _ rfl B v xs rfl rfl hown (by omega) hB ?_; intro v' w' ho hb)
    go_ret
    exact ⟨v', rfl, by rw [HE.out]; exact ho, hb⟩
  · have hxd : decide ((x : Int) < 128) = false := by simp; omega
    go_enter Tryd.func5, Tryd.ntmps5
    go_wp2_with fail
    go_loop [5] (fun i => ∃ k : Nat, 1 ≤ k ∧ k ≤ 8 ∧ i = .int .i64 k ∧ (∀ j, 1 ≤ j → j < k → Hid (x / 2 ^ (8 * j) ≠ 0))) (fun i => 8 - (intOf i).toNat)
    case atStart => exact ⟨1, by omega, by omega, rfl, fun j _ _ => by omega⟩
    case round =>
      obtain ⟨k, hk, hk2, rfl, hlo⟩ := hrel
      have HLO := Lib.hid hlo
      clear hlo
      have HN := Lib.hid (show (256 : Int) - k = ((UInt8.ofNat (256 - k)).toNat : Int) by simp; omega)
      go_wp2_with (at_builtin; rw [HN.out]; refine wpl_append1 w _ rfl _ _ rfl B v xs rfl rfl hown (by omega) hB ?_; intro v' w' ho hb)
      · rename_i hlt hne
        have hne' : x / 2 ^ (8 * k) ≠ 0 := bne_div1 hne
        go_round
        case rel => exact ⟨k + 1, by omega, by omega, by go_num, fun j h1j hj => by
          by_cases e : j = k
          · subst e; exact hne'
          · exact HLO.out j h1j (by omega)⟩
        case measure => simp [intOf]; omega
      all_goals
        have HK : Hid (k = nb x) := by
          refine nb_of x k h1 hk hk2 (fun j a b => (HLO.out j a b).out) ?_
          first
          | (left; omega)
          | exact .inr (bne_div0 (by assumption))
        clear HLO
        have hz : B ≤ w'.heap.size := Nat.le_trans hB hb.size
        go_loopw [0, 6] (fun v i wr => ∃ (m : Nat) (ys : List UInt8), m ≤ k ∧ i = .int .i64 ((m : Int) - 1) ∧ Hid (tailBytes x k = ys ++ tailBytes x m) ∧ Hid (ys.length + m = k) ∧ OwnB B wr v (xs ++ UInt8.ofNat (256 - k) :: ys) ∧ Below B w wr ∧ B ≤ wr.heap.size) (fun _ i _ => (intOf i + 1).toNat)
        case atStart => exact ⟨k, [], by omega, rfl, rfl, (by simp : 0 + k = k), ho, hb, hz⟩
        case round =>
          obtain ⟨m, ys, hm, rfl, HT, HL, ho1, hb1, hz1⟩ := hrel
          cases m with
          | zero =>
            go_wp2_with fail
            go_ret
            refine ⟨_, rfl, ?_, hb1⟩
            have e : encU x = UInt8.ofNat (256 - k) :: ys := by
              have := HT.out
              simp [tailBytes] at this
              rw [encU, if_neg hx, ← HK.out, this]
            rw [e]; exact ho1
          | succ j =>
            rw [show (((j + 1 : Nat) : Int) - 1) = (j : Int) from by omega]
            have HS := Lib.hid (byteN_int x j)
            have hlen : (xs ++ UInt8.ofNat (256 - k) :: ys).length ≤ 1000000 := by have := HL.out; simp; omega
            go_wp2_with (at_builtin; rw [HS.out]; refine wpl_append1 wr _ rfl _ _ rfl B _ _ rfl rfl ho1 hlen hz1 ?_; intro v2 w2 ho2 hb2)
            go_roundw
            case rel =>
              refine ⟨j, ys ++ [byteN x j], by omega, rfl, ?_, ?_, by simpa using ho2, hb1.trans hb2, Nat.le_trans hz1 hb2.size⟩
              · have := HT.out; simp only [tailBytes] at this
                show tailBytes x k = _
                rw [this]; simp
              · have := HL.out
                show (ys ++ [byteN x j]).length + j = k
                simp; omega
            case measure => simp [intOf]
end Go.Proofs
