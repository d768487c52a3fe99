/- The walks of the reference's reader: Left, Byte, Uint, cut, take. -/
import Derived.Test.YtfagifnebjkaeaaDoorBuf
import Derived.Test.YtfagifnebjkaeaaDoorNums
import Derived.BigQuiet
import Derived.Test.YtfagifnebjkaeaaDoorDec
import Derived.Deep.QuietTactic
namespace Go.Proofs
open Go.RowKit Go.Gob

/-- the reference's reader at block r over bs, at place k -/
structure Rd (w : World) (r : Nat) (v : Value) (bs : List UInt8) (k : Nat) : Prop where
  b : w.cell? ⟨r, 0, none⟩ = some v
  at_ : w.cell? ⟨r, 1, none⟩ = some (.int .i64 k)
  bad : w.cell? ⟨r, 2, none⟩ = some (.bool false)
  f1 : w.frozen? ⟨r, 1, none⟩ = false
  src : ∃ d ob oo c, v = .slice d bs.length c ∧ (bs = [] ∨ (d = some ⟨ob, oo, none⟩ ∧ ob ≠ r ∧ Reads w ob oo bs))

theorem Rd.drewN {w : World} {r : Nat} {v : Value} {bs : List UInt8} {k : Nat} (h : Rd w r v bs k) (m : Nat) : Rd (w.drewN m) r v bs k := ⟨h.b, h.at_, h.bad, h.f1, h.src⟩
theorem Rd.drew {w : World} {r : Nat} {v : Value} {bs : List UInt8} {k : Nat} (h : Rd w r v bs k) : Rd w.drew r v bs k := ⟨h.b, h.at_, h.bad, h.f1, h.src⟩

theorem Rd.lt {w : World} {r : Nat} {v : Value} {bs : List UInt8} {k : Nat} (h : Rd w r v bs k) : r < w.heap.size := World.block_lt_of_cell? w _ h.b

/-- a step on -/
theorem Rd.step {w : World} {r : Nat} {v : Value} {bs : List UInt8} {k : Nat} (h : Rd w r v bs k) (k' : Nat) : Rd (w.setCell ⟨r, 1, none⟩ (.int .i64 k')) r v bs k' := by
  have hk : Kept (fun b o => b = r ∧ o = 1) w (w.setCell ⟨r, 1, none⟩ (.int .i64 k')) := Kept.setCell w r 1 _ ⟨rfl, rfl⟩
  refine ⟨hk.at h.b (by simp), World.cell?_setCell_same _ _ _ h.at_, hk.at h.bad (by simp), by rw [World.frozen?_setCell]; exact h.f1, ?_⟩
  obtain ⟨d, ob, oo, c, hv, hs⟩ := h.src
  refine ⟨d, ob, oo, c, hv, hs.imp id fun ⟨h1, h2, h3⟩ => ⟨h1, h2, h3.kept hk (fun i _ h => h2 h.1)⟩⟩

set_option maxRecDepth 20000 in
theorem Left_any (w : World) (r : Nat) (v : Value) (bs : List UInt8) (k : Nat) (h : Rd w r v bs k) (hk : k ≤ bs.length) (hb : bs.length ≤ 4294967296) :
   Calls Tryd.prog 25 #[.pointer (some ⟨r, 0, none⟩)] w fun e w' => e = .returned (.int .i64 (bs.length - k : Nat)) ∧ ∃ n, w' = w.drewN n := by
  obtain ⟨h0, h1, _, _, ⟨d, ob, oo, c, rfl, _⟩⟩ := h
  have E := Lib.hid (show ((bs.length : Nat) : Int) - (k : Int) = ((bs.length - k : Nat) : Int) by omega)
  go_enter Tryd.func25, Tryd.ntmps25
  go_wp2
  go_quiet (fail)
  go_wp2
  go_ret
  exact ⟨congrArg (fun z : Int => Ending.returned (.int .i64 z)) E.out, _, rfl⟩

set_option maxRecDepth 20000 in
set_option maxHeartbeats 400000 in
theorem Byte_any (w : World) (r : Nat) (v : Value) (bs : List UInt8) (k : Nat) (h : Rd w r v bs k) (hk : k < bs.length) (hb : bs.length ≤ 4294967296) :
   Calls Tryd.prog 36 #[.pointer (some ⟨r, 0, none⟩)] w fun e w' => e = .returned (u8v bs[k]) ∧ Rd w' r v bs (k + 1) ∧ Kept (fun b _ => b = r) w w' := by
  have H := Lib.hid h
  obtain ⟨h0, h1, hbad, hf, ⟨d, ob, oo, c, rfl, hs⟩⟩ := h
  rcases hs with rfl | ⟨rfl, hne, hr⟩
  · simp at hk
  have hge : decide ((bs.length : Int) ≤ (k : Int)) = false := by simp; omega
  have hc := hr k bs[k] (List.getElem?_eq_getElem hk)
  go_enter Tryd.func36, Tryd.ntmps36
  go_wp2
  go_quiet (fail)
  go_wp2
  have hR := (H.out.drewN nq).step (k + 1)
  have hK : Kept (fun b _ => b = r) w ((w.drewN nq).setCell ⟨r, 1, none⟩ (.int .i64 ((k : Int) + 1))) := (Kept.drewN w nq).trans (Kept.setCell _ r 1 _ rfl) (fun _ _ _ h => h)
  have hc2 : ((w.drewN nq).setCell ⟨r, 1, none⟩ (.int .i64 ((k : Int) + 1))).cell? ⟨ob, oo + k, none⟩ = some (u8v bs[k]) := hK.at hc (fun e => hne e)
  change Rd ((w.drewN nq).setCell ⟨r, 1, none⟩ (.int .i64 ((k : Int) + 1))) r _ bs (k + 1) at hR
  generalize (w.drewN nq).setCell ⟨r, 1, none⟩ (.int .i64 ((k : Int) + 1)) = w2 at *
  have HR := Lib.hid hR
  have HK := Lib.hid hK
  obtain ⟨g0, g1, gbad, gf, _⟩ := hR
  clear h0 h1 hbad hf hc hr gf gbad hK
  have e1 : ((k + 1 : Nat) : Int) = (k : Int) + 1 := by omega
  rw [e1] at g1
  clear e1
  unfold u8v at hc2
  go_quiet (fail)
  go_wp2
  go_ret
  exact ⟨rfl, HR.out.drewN _, HK.out.trans (Kept.drewN _ _) (fun _ _ _ h => h)⟩

set_option maxRecDepth 20000 in
set_option maxHeartbeats 400000 in
/-- the unsigned integer that stands at the beginning of bytes, by the reference -/
theorem Uint_small (w : World) (r : Nat) (v : Value) (c : UInt8) (zs : List UInt8) (h : Rd w r v (c :: zs) 0) (hb : (c :: zs).length ≤ 4294967296) (hc : c.toNat < 128) :
   Calls Tryd.prog 26 #[.pointer (some ⟨r, 0, none⟩)] w fun e w' => e = .returned (.int .u64 c.toNat) ∧ Rd w' r v (c :: zs) 1 ∧ Kept (fun b _ => b = r) w w' := by
  have HB := Lib.hid (Byte_any w r v (c :: zs) 0 h (by simp) hb)
  have hcd : decide ((c.toNat : Int) < 128) = true := by simp; omega
  clear h
  go_enter Tryd.func26, Tryd.ntmps26
  go_wp2_with fail
  refine HB.out.mono ?_
  rintro e w' ⟨rfl, hR, hK⟩
  simp only [List.getElem_cons_zero, u8v]
  have HR := Lib.hid hR
  have HK := Lib.hid hK
  clear hR hK HB
  go_wp2_with fail
  go_ret
  exact ⟨rfl, HR.out, HK.out⟩

set_option maxRecDepth 20000 in
set_option maxHeartbeats 1000000 in
theorem Uint_big (w : World) (r : Nat) (v : Value) (c : UInt8) (ys ts : List UInt8) (h : Rd w r v (c :: (ys ++ ts)) 0) (hb : (c :: (ys ++ ts)).length ≤ 4294967296) (hc : 128 ≤ c.toNat) (hc2 : 256 - c.toNat ≤ 8) (hy : ys.length = 256 - c.toNat) :
   Calls Tryd.prog 26 #[.pointer (some ⟨r, 0, none⟩)] w fun e w' => e = .returned (.int .u64 (decV ys : Nat)) ∧ Rd w' r v (c :: (ys ++ ts)) (1 + ys.length) ∧ Kept (fun b _ => b = r) w w' := by
  have HB := Lib.hid (Byte_any w r v (c :: (ys ++ ts)) 0 h (by simp) hb)
  have hcd : decide ((c.toNat : Int) < 128) = false := by simp; omega
  have EN : (256 : Int) - (c.toNat : Int) = ((ys.length : Nat) : Int) := by rw [hy]; have := c.toNat_lt; omega
  rw [← hy] at hc2
  have hN : decide (8 < (ys.length : Int)) = false := by simp; omega
  clear h hy
  go_enter Tryd.func26, Tryd.ntmps26
  go_wp2_with fail
  refine HB.out.mono ?_
  rintro e w1 ⟨rfl, hR, hK⟩
  simp only [List.getElem_cons_zero, u8v]
  have HR := Lib.hid hR
  have HK := Lib.hid hK
  clear hR hK HB
  go_wp2_with fail
  refine (Left_any _ r v _ _ HR.out (by simp) hb).mono ?_
  rintro e w2 ⟨rfl, m, rfl⟩
  have HR1 := Lib.hid (HR.out.drewN m)
  have HK1 : Hid (Kept (fun b _ => b = r) w (w1.drewN m)) := HK.out.trans (Kept.drewN _ _) (fun _ _ _ h => h)
  clear HR HK
  generalize w1.drewN m = w2 at *
  go_wp2_with fail
  go_loopw [5, 27] (fun u i wr => ∃ k V : Nat, k ≤ ys.length ∧ i = .int .i64 k ∧ u = .int .u64 V ∧ Hid (V = decV (ys.take k)) ∧ Hid (Rd wr r v (c :: (ys ++ ts)) (k + 1)) ∧ Hid (Kept (fun b _ => b = r) w wr)) (fun _ i _ => ys.length - (intOf i).toNat)
  case atStart => exact ⟨0, 0, by omega, rfl, rfl, rfl, HR1, HK1⟩
  case round =>
    clear HR1 HK1
    obtain ⟨k, V, hk, rfl, rfl, HV, HR, HK⟩ := hrel
    by_cases hlt : k < ys.length
    · have hk1 : k + 1 < (c :: (ys ++ ts)).length := by simp; omega
      have hget : (c :: (ys ++ ts))[k + 1] = ys[k] := by simp [List.getElem_append_left hlt]
      have HB := Lib.hid (Byte_any wr r v _ (k + 1) HR.out hk1 hb)
      rw [hget] at HB
      have HV2 := Lib.hid (dec_step V ys[k] k (by omega) (by rw [HV.out]; exact decV_lt k _ (by simp; omega)))
      clear hget
      have HK1' := Lib.hid hk1
      clear hk1
      go_wp2_with fail
      refine HB.out.mono ?_
      rintro e w3 ⟨rfl, hR3, hK3⟩
      have HR3 := Lib.hid hR3
      have HK3 : Hid (Kept (fun b _ => b = r) w w3) := HK.out.trans hK3 (fun _ _ _ h => h)
      clear hR3 hK3 HB HK HR
      unfold u8v
      go_wp2_with fail
      go_roundw
      case rel =>
        refine ⟨k + 1, V * 256 + ys[k].toNat, by omega, by go_num, by rw [HV2.out], ?_, HR3, HK3⟩
        show _ = _
        rw [List.take_succ_eq_append_getElem hlt, decV_snoc, HV.out]
      case measure => simp [intOf]; omega
    · obtain rfl : k = ys.length := by omega
      go_wp2_with fail
      go_ret
      have e := HV.out
      rw [List.take_length] at e
      refine ⟨by rw [e]; rfl, by rw [Nat.add_comm]; exact HR.out, HK.out⟩

/-- the first byte, as it is read of a reader's bytes -/
def hd0 (bs : List UInt8) : UInt8 := bs.headD 0

/-- is the number at the beginning of bytes cut off -/
def isCut (bs : List UInt8) : Bool := bs.length != 0 && (256 - (hd0 bs).toNat ≤ 8 && bs.length < 256 - (hd0 bs).toNat + 1)

set_option maxRecDepth 20000 in
set_option maxHeartbeats 1000000 in
theorem cut_any (w : World) (r : Nat) (v : Value) (bs : List UInt8) (h : Rd w r v bs 0) (hb : bs.length ≤ 4294967295) :
   Calls Tryd.prog 16 #[.pointer (some ⟨r, 0, none⟩)] w fun e w' => e = .returned (.bool (isCut bs)) ∧ ∃ n, w' = w.drewN n := by
  have HL := Lib.hid (Left_any w r v bs 0 h (by omega) (by omega))
  cases bs with
  | nil =>
    clear h
    go_enter Tryd.func16, Tryd.ntmps16
    go_wp2_with fail
    refine HL.out.mono ?_
    rintro e w' ⟨rfl, n, rfl⟩
    simp only [List.length_nil]
    go_wp2_with fail
    go_ret
    exact ⟨rfl, n, rfl⟩
  | cons c zs =>
    have H := Lib.hid h
    obtain ⟨h0, h1, _, _, ⟨d, ob, oo, cp, rfl, hs⟩⟩ := h
    rcases hs with hs | ⟨rfl, hne, hr⟩
    · cases hs
    have hc := hr 0 c rfl
    rw [Nat.add_zero] at hc
    unfold u8v at hc
    have EN : (256 : Int) - (c.toNat : Int) = ((256 - c.toNat : Nat) : Int) := by have := c.toNat_lt; omega
    have hz : (((((c :: zs).length - 0 : Nat) : Int)) == 0) = false := by simp; omega
    have hlen : (c :: zs).length = zs.length + 1 := rfl
    clear hr
    generalize hN : 256 - c.toNat = N at *
    have HN := Lib.hid hN
    clear hN
    by_cases hN8 : N ≤ 8
    · have hd8 : decide ((N : Int) ≤ 8) = true := by simp; omega
      go_enter Tryd.func16, Tryd.ntmps16
      go_wp2_with fail
      refine HL.out.mono ?_
      rintro e w' ⟨rfl, n, rfl⟩
      go_wp2_with fail
      go_quiet (fail)
      go_wp2_with fail
      refine (Left_any _ r _ (c :: zs) 0 (H.out.drewN _) (by omega) (by omega)).mono ?_
      rintro e w2 ⟨rfl, m, rfl⟩
      go_wp2_with fail
      go_ret
      refine ⟨?_, _, rfl⟩
      have e : isCut (c :: zs) = decide (((zs.length : Nat) : Int) < (N : Int)) := by
        simp [isCut, hd0, HN.out, hN8]
      rw [e]
      simp
    · have hd8 : decide ((N : Int) ≤ 8) = false := by simp; omega
      go_enter Tryd.func16, Tryd.ntmps16
      go_wp2_with fail
      refine HL.out.mono ?_
      rintro e w' ⟨rfl, n, rfl⟩
      go_wp2_with fail
      go_quiet (fail)
      go_wp2_with fail
      go_ret
      refine ⟨?_, _, rfl⟩
      have e : isCut (c :: zs) = false := by
        simp [isCut, hd0, HN.out, hN8]
      rw [e]
      rfl

/-- what the reference's take gives of bytes whose number is not cut off -/
inductive Take : List UInt8 → Nat → Nat → Nat → Prop
  | nil : Take [] 0 1 0
  | small (c : UInt8) (zs : List UInt8) (h : c.toNat < 128) : Take (c :: zs) c.toNat 0 1
  | bad (c : UInt8) (zs : List UInt8) (h : 128 ≤ c.toNat) (h2 : 8 < 256 - c.toNat) : Take (c :: zs) 0 8 0
  | big (c : UInt8) (ys ts : List UInt8) (h : 128 ≤ c.toNat) (h2 : 256 - c.toNat ≤ 8) (hy : ys.length = 256 - c.toNat) : Take (c :: (ys ++ ts)) (decV ys) 0 (1 + ys.length)

set_option maxRecDepth 20000 in
set_option maxHeartbeats 1000000 in
theorem take_any (w : World) (r : Nat) (v : Value) (bs : List UInt8) (x code k : Nat) (ht : Take bs x code k) (h : Rd w r v bs 0) (hb : bs.length ≤ 4294967295) :
   Calls Tryd.prog 17 #[.pointer (some ⟨r, 0, none⟩)] w fun e w' => e = .returned (.tuple #[.int .u64 x, .int .i64 code]) ∧ Rd w' r v bs k ∧ Kept (fun b _ => b = r) w w' := by
  have HL := Lib.hid (Left_any w r v bs 0 h (by omega) (by omega))
  have H := Lib.hid h
  obtain ⟨h0, h1, _, _, ⟨d, ob, oo, cp, rfl, hs⟩⟩ := h
  cases ht with
  | nil =>
    clear h0 h1 hs
    go_enter Tryd.func17, Tryd.ntmps17
    go_wp2_with fail
    refine HL.out.mono ?_
    rintro e w' ⟨rfl, n, rfl⟩
    simp only [List.length_nil]
    go_wp2_with fail
    go_ret2
    exact ⟨rfl, H.out.drewN n, Kept.drewN w n⟩
  | small c zs hc =>
    rcases hs with hs | ⟨rfl, hne, hr⟩
    · cases hs
    have hcell := hr 0 c rfl
    rw [Nat.add_zero] at hcell
    unfold u8v at hcell
    have hz : (((((c :: zs).length - 0 : Nat) : Int)) == 0) = false := by simp; omega
    have hlen : (c :: zs).length = zs.length + 1 := rfl
    have hd : decide (128 ≤ (c.toNat : Int)) = false := by simp; omega
    clear hr
    go_enter Tryd.func17, Tryd.ntmps17
    go_wp2_with fail
    refine HL.out.mono ?_
    rintro e w' ⟨rfl, n, rfl⟩
    go_wp2_with fail
    go_quiet (fail)
    go_wp2_with fail
    refine (Uint_small _ r _ c zs (H.out.drewN _) (by omega) hc).mono ?_
    rintro e w2 ⟨rfl, hR, hK⟩
    have HR := Lib.hid hR
    have HK := Lib.hid hK
    clear hR hK
    go_wp2_with fail
    go_ret2
    exact ⟨rfl, HR.out, (Kept.drewN w _).trans HK.out (fun _ _ _ h => h)⟩
  | bad c zs hc hc2 =>
    rcases hs with hs | ⟨rfl, hne, hr⟩
    · cases hs
    have hcell := hr 0 c rfl
    rw [Nat.add_zero] at hcell
    unfold u8v at hcell
    have hz : (((((c :: zs).length - 0 : Nat) : Int)) == 0) = false := by simp; omega
    have hlen : (c :: zs).length = zs.length + 1 := rfl
    have hd : decide (128 ≤ (c.toNat : Int)) = true := by simp; omega
    have EN : (256 : Int) - (c.toNat : Int) = ((256 - c.toNat : Nat) : Int) := by have := c.toNat_lt; omega
    generalize hN : 256 - c.toNat = N at *
    have HN := Lib.hid hN
    have hN8 : decide (8 < (N : Int)) = true := by simp; omega
    clear hr hN
    go_enter Tryd.func17, Tryd.ntmps17
    go_wp2_with fail
    refine HL.out.mono ?_
    rintro e w' ⟨rfl, n, rfl⟩
    go_wp2_with fail
    go_quiet (fail)
    go_wp2_with fail
    go_ret2
    exact ⟨rfl, H.out.drewN _, Kept.drewN w _⟩
  | big c ys ts hc hc2 hy =>
    rcases hs with hs | ⟨rfl, hne, hr⟩
    · cases hs
    have hcell := hr 0 c rfl
    rw [Nat.add_zero] at hcell
    unfold u8v at hcell
    have hz : (((((c :: (ys ++ ts)).length - 0 : Nat) : Int)) == 0) = false := by simp; omega
    have hlen : (c :: (ys ++ ts)).length = ys.length + ts.length + 1 := by simp
    have hd : decide (128 ≤ (c.toNat : Int)) = true := by simp; omega
    have EN : (256 : Int) - (c.toNat : Int) = ((ys.length : Nat) : Int) := by have := c.toNat_lt; omega
    have EN2 : (257 : Int) - (c.toNat : Int) = ((ys.length : Nat) : Int) + 1 := by have := c.toNat_lt; omega
    have hN8 : decide (8 < (ys.length : Int)) = false := by simp; omega
    have HC := Lib.hid hc2
    have HY := Lib.hid hy
    clear hr hc2 hy
    go_enter Tryd.func17, Tryd.ntmps17
    go_wp2_with fail
    refine HL.out.mono ?_
    rintro e w' ⟨rfl, n, rfl⟩
    go_wp2_with fail
    go_quiet (fail)
    go_wp2_with fail
    refine (Left_any _ r _ (c :: (ys ++ ts)) 0 (H.out.drewN _) (by omega) (by omega)).mono ?_
    rintro e w2 ⟨rfl, m, rfl⟩
    go_wp2_with fail
    refine (Uint_big _ r _ c ys ts (H.out.drewN _) (by omega) hc HC.out HY.out).mono ?_
    rintro e w3 ⟨rfl, hR, hK⟩
    have HR := Lib.hid hR
    have HK := Lib.hid hK
    clear hR hK
    go_wp2_with fail
    go_ret2
    exact ⟨rfl, HR.out, (Kept.drewN w _).trans HK.out (fun _ _ _ h => h)⟩

/-- every row of bytes is cut off, or take tells something of it -/
theorem take_all (bs : List UInt8) (h : isCut bs = false) : ∃ x code k, Take bs x code k := by
  cases bs with
  | nil => exact ⟨_, _, _, .nil⟩
  | cons c zs =>
    by_cases hc : c.toNat < 128
    · exact ⟨_, _, _, .small c zs hc⟩
    by_cases h8 : 8 < 256 - c.toNat
    · exact ⟨_, _, _, .bad c zs (by omega) h8⟩
    have hl : 256 - c.toNat ≤ zs.length := by
      simp [isCut, hd0] at h
      have := h (by omega)
      omega
    have e : zs = zs.take (256 - c.toNat) ++ zs.drop (256 - c.toNat) := (List.take_append_drop _ _).symm
    refine ⟨decV (zs.take (256 - c.toNat)), 0, 1 + (zs.take (256 - c.toNat)).length, ?_⟩
    have := Take.big c (zs.take (256 - c.toNat)) (zs.drop (256 - c.toNat)) (by omega) (by omega) (by rw [List.length_take]; omega)
    rwa [← e] at this

/-- what the reference tells of the number at the beginning of bytes: its value, how many bytes it has, and how that went -/
inductive Told : List UInt8 → Nat → Nat → Nat → Prop
  | cut (bs : List UInt8) (h : isCut bs = true) : Told bs 0 0 2
  | fine (bs : List UInt8) (x k : Nat) (h : isCut bs = false) (ht : Take bs x 0 k) : Told bs x k 0
  | fault (bs : List UInt8) (x code k : Nat) (h : isCut bs = false) (h0 : code ≠ 0) (ht : Take bs x code k) : Told bs 0 0 code

end Go.Proofs
