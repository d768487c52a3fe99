/- The walk of encoderState.encodeUint: it appends the bytes of an unsigned integer to the buffer of a state. -/
import Derived.Test.YtfagifnebjkaeaaDoorWrite
import Derived.Test.YtfagifnebjkaeaaDoorShelf
import Derived.RegionTactic
import Derived.BigRegion
import Derived.StillTailTactics
namespace Go.Proofs
open Go.RowKit Go.Gob

theorem round_store (w : World) (sb so : Nat) (k : Nat) (hk : k < 8) (hr : Room w sb (so + 4) 9) :
   ∃ c, w.cell? ⟨sb, so + 4 + (1 + k), none⟩ = some c ∧ w.frozen? ⟨sb, so + 4 + (1 + k), none⟩ = false := by
  obtain ⟨⟨c, hc⟩, hf⟩ := hr (1 + k) (by omega)
  exact ⟨_, hc, hf⟩

/-- the cells that a call of encodeUint touches: the buffer's, and the state's own nine bytes -/
def StReg (sb so b o : Nat) (G : Option Nat) : Reg := fun b' o' => BufReg b o G b' o' ∨ (b' = sb ∧ so + 4 ≤ o' ∧ o' < so + 13)

def StGrown (w : World) (sb so b o : Nat) (G : Option Nat) (xs : List UInt8) (w' : World) : Prop :=
  ∃ G', Buf w' b o G' xs ∧ Room w' sb (so + 4) 9 ∧ Kept (StReg sb so b o G) w w' ∧ (G' = G ∨ ∃ g, G' = some g ∧ w.heap.size ≤ g ∧ g < w'.heap.size)

theorem StGrown.of {w w1 w' : World} {sb so b o : Nat} {G : Option Nat} {xs : List UInt8} (h : BufGrown w1 b o G xs w') (hr : Room w1 sb (so + 4) 9) (hk : Kept (fun b' o' => b' = sb ∧ so + 4 ≤ o' ∧ o' < so + 13) w w1)
    (hne : sb ≠ b) (hG : G ≠ some sb) : StGrown w sb so b o G xs w' := by
  obtain ⟨G', h1, h2, h3⟩ := h
  refine ⟨G', h1, hr.kept h2 ?_, hk.wide (G := StReg sb so b o G) (fun _ _ _ h => .inr h) |>.trans h2 (fun _ _ _ h => .inl h), ?_⟩
  · rintro i _ (⟨h4, _, _⟩ | h4)
    · exact hne h4
    · exact hG h4
  · rcases h3 with h3 | ⟨g, h3, h4, h5⟩
    · exact .inl h3
    · exact .inr ⟨g, h3, Nat.le_trans hk.size h4, h5⟩

set_option maxRecDepth 20000 in
set_option maxHeartbeats 1000000 in
theorem encodeUint_any (w : World) (sb so b o : Nat) (G : Option Nat) (xs : List UInt8) (x : Nat) (hx : U64 x) (h : Buf w b o G xs) (hl : xs.length ≤ 10000000000)
   (hp : w.cell? ⟨sb, so + 1, none⟩ = some (.pointer (some ⟨b, o, none⟩))) (hr : Room w sb (so + 4) 9) (hne : sb ≠ b) (hG : G ≠ some sb) :
   Calls Tryd.prog 20 #[.pointer (some ⟨sb, so, none⟩), .int .u64 x] w fun e w' => e = .returned (.tuple #[]) ∧ StGrown w sb so b o G (xs ++ encU x) w' := by
  by_cases hx1 : x < 128
  · have hxd : decide ((x : Int) ≤ 127) = true := by simp; omega
    have HC := Lib.hid (show (x : Int) = ((UInt8.ofNat x).toNat : Int) by simp; omega)
    have E1 := Lib.hid (show encU x = [UInt8.ofNat x] by simp [encU, hx1])
    go_enter Tryd.func20, Tryd.ntmps20
    go_wp2_with fail
    rw [HC.out]
    refine (writeByte_any w b o G xs _ h (by omega)).mono ?_
    rintro e w' ⟨rfl, hB⟩
    go_wp2_with fail
    refine bodyPost_ret (results_none rfl _ _ _) rfl ?_
    rw [E1.out]
    exact ⟨rfl, StGrown.of hB hr (Kept.refl _ _) hne hG⟩
  · have hxd : decide ((x : Int) ≤ 127) = false := by simp; omega
    go_enter Tryd.func20, Tryd.ntmps20
    go_wp2_with fail
    go_loopw [4] (fun i wr => ∃ k : Nat, k ≤ 8 ∧ i = .int .i64 k ∧ Kept (fun b' o' => b' = sb ∧ so + 4 ≤ o' ∧ o' < so + 13) w wr ∧ Room wr sb (so + 4) 9 ∧ Hid (∀ i, i < k → wr.cell? ⟨sb, so + 5 + i, none⟩ = some (u8v (byteN x (7 - i))))) (fun i _ => 8 - (intOf i).toNat)
    case atStart => exact ⟨0, by omega, rfl, Kept.refl _ _, hr, fun i hi => by omega⟩
    case round =>
      obtain ⟨k, hk, rfl, hkept, hroom, hbytes⟩ := hrel
      by_cases hk8 : k < 8
      · obtain ⟨c, hc, hf⟩ := round_store wr sb so k hk8 hroom
        have E : (7 : Int) - k = ((7 - k : Nat) : Int) := by omega
        go_wp2_with fail
        go_region
        rw [byteN_int]
        go_wp2_with fail
        go_roundw
        case rel =>
          have hk1 : Kept (fun b' o' => b' = sb ∧ so + 4 ≤ o' ∧ o' < so + 13) wr (wr.setCell ⟨sb, so + 4 + (1 + k), none⟩ (u8v (byteN x (7 - k)))) := Kept.setCell wr sb _ _ ⟨rfl, by omega, by omega⟩
          refine ⟨k + 1, by omega, by go_num, (hkept.trans hk1 (fun _ _ _ h => h)).trans (Kept.drew _) (fun _ _ _ h => h), hroom.setCell sb _ _, ?_⟩
          intro i hi
          show (wr.setCell ⟨sb, so + 4 + (1 + k), none⟩ (u8v (byteN x (7 - k)))).cell? ⟨sb, so + 5 + i, none⟩ = _
          by_cases e : i = k
          · subst e
            rw [show so + 5 + i = so + 4 + (1 + i) by omega]
            exact World.cell?_setCell_same _ _ _ hc
          · rw [World.cell?_setCell_other _ _ _ _ (by simp <;> omega)]
            exact hbytes.out i (by omega)
        case measure =>
          simp [intOf]
          omega
      · obtain rfl : k = 8 := by omega
        go_wp2_with fail
        refine (Tryd.bits_LeadingZeros64 x _ (by omega) ?_).mono ?_
        · unfold U64 at hx; omega
        rintro e w' ⟨rfl, rfl⟩
        obtain ⟨m, hm7, HM, L⟩ : ∃ m : Nat, m ≤ 7 ∧ Hid (m = 8 - nb x) ∧ (64 - (Lib.bitLen x : Int)) / 8 = (m : Int) :=
          ⟨8 - nb x, by have := nb_pos x; omega, rfl, lead_bytes x hx (by omega)⟩
        obtain ⟨⟨c, hc⟩, hf⟩ := hroom m (by omega)
        go_wp2_with fail
        clear L
        have e8 : ((m : Int) - 8) % 256 = ((UInt8.ofNat (256 - nb x)).toNat : Int) := by
          have h1 := nb_pos x
          have h2 := nb_le x
          have h3 : m = 8 - nb x := HM.out
          simp
          omega
        rw [e8]
        clear e8
        have hk1 : Kept (fun b' o' => b' = sb ∧ so + 4 ≤ o' ∧ o' < so + 13) w (w'.setCell ⟨sb, so + 4 + m, none⟩ (u8v (UInt8.ofNat (256 - nb x)))) :=
          hkept.trans (Kept.setCell w' sb _ _ ⟨rfl, by omega, by omega⟩) (fun _ _ _ h => h)
        have hp2 := hk1.at hp (by omega)
        have hb2 := h.kept hk1 (by
          rintro b' o' (⟨rfl, _, _⟩ | h1) ⟨h2, _, _⟩
          · exact hne h2.symm
          · exact hG (by rw [h1, h2]))
        have hroom2 := hroom.setCell sb (so + 4 + m) (UInt8.ofNat (256 - nb x))
        have hu : Src8 (w'.setCell ⟨sb, so + 4 + m, none⟩ (u8v (UInt8.ofNat (256 - nb x)))) (.slice (some ⟨sb, so + 4 + m, none⟩) (9 - m) (9 - m)) (encU x) := by
          have h1 := nb_pos x
          have h2 := nb_le x
          have h3 : m = 8 - nb x := HM.out
          have h4 : (encU x).length = 9 - m := by simp [encU, hx1, tailBytes_length]; omega
          refine .inr ⟨sb, so + 4 + m, 9 - m, by rw [h4], ?_⟩
          intro i d hd
          have hi : i < 9 - m := by
            rcases Nat.lt_or_ge i (9 - m) with h' | h'
            · exact h'
            · rw [List.getElem?_eq_none (by omega)] at hd; cases hd
          cases i with
          | zero =>
            simp [encU, hx1] at hd
            subst hd
            exact World.cell?_setCell_same _ _ _ hc
          | succ j =>
            simp only [encU, hx1, if_false, List.getElem?_cons_succ] at hd
            rw [tailBytes_get x _ _ (by omega)] at hd
            simp at hd
            subst hd
            rw [World.cell?_setCell_other _ _ _ _ (by simp <;> omega)]
            have := hbytes.out (m + j) (by omega)
            rw [show so + 4 + m + (j + 1) = so + 5 + (m + j) by omega, this, show 7 - (m + j) = nb x - 1 - j by omega]
        change Code.wp _ _ _ _ (w'.setCell ⟨sb, so + 4 + m, none⟩ (u8v (UInt8.ofNat (256 - nb x))))
        generalize w'.setCell ⟨sb, so + 4 + m, none⟩ (u8v (UInt8.ofNat (256 - nb x))) = w2 at *
        clear hbytes hkept hroom hc hf h hp
        have hm9 : (m : Int) ≤ 9 := by omega
        have hm0 : (0 : Int) ≤ (m : Int) := by omega
        go_still_tail 9, (by kernel_rfl)
        change wpList _ _ _ _ _ w2.drew
        have hD : Kept (fun _ _ => False) w2 w2.drew := Kept.drew w2
        have hb3 := hb2.kept hD (fun _ _ _ h => h)
        have hu3 : Src8 w2.drew (.slice (some ⟨sb, so + 4 + m, none⟩) (9 - m) (9 - m)) (encU x) := hu
        have hr3 : Room w2.drew sb (so + 4) 9 := hroom2
        have hk3 : Kept (fun b' o' => b' = sb ∧ so + 4 ≤ o' ∧ o' < so + 13) w w2.drew := hk1.trans hD (fun _ _ _ h => h.elim)
        clear hb2 hu hroom2 hk1 hD hp2
        go_wp2_with fail
        refine (Write_any _ b o G xs _ (encU x) hb3 hu3 (by omega) (by have := encU_length x; omega)).mono ?_
        rintro e w' ⟨rfl, hB⟩
        go_wp2_with fail
        go_end0
        exact ⟨rfl, StGrown.of hB hr3 hk3 hne hG⟩
end Go.Proofs
