/- The walks of impl.within and of the closure of impl.code: does a text stand in another one. -/
import Derived.Test.YtfagifnebjkaeaaDoorMem
namespace Go.Proofs
open Go.RowKit

/-- x stands in s at a place below n -/
def withinTo (s x : ByteArray) : Nat → Bool
  | 0 => false
  | n + 1 => withinTo s x n || (s.extract n (n + x.size)).toList == x.toList

def withinB (s x : ByteArray) : Bool := withinTo s x (s.size + 1 - x.size)

theorem withinTo_mono (s x : ByteArray) (n : Nat) (h : withinTo s x n = true) : ∀ m, n ≤ m → withinTo s x m = true
  | 0, hm => by obtain rfl : n = 0 := by omega
                exact h
  | m + 1, hm => by
    by_cases e : n = m + 1
    · subst e; exact h
    · have := withinTo_mono s x n h m (by omega)
      simp [withinTo, this]

set_option maxRecDepth 20000 in
set_option maxHeartbeats 1000000 in
theorem within_any (w : World) (s x : ByteArray) (hs : s.size ≤ 1000000) (hx : x.size ≤ 1000000) :
   Calls Tryd.prog 30 #[.string s, .string x] w fun e w' => e = .returned (.bool (withinB s x)) ∧ w' = w := by
  go_enter Tryd.func30, Tryd.ntmps30
  go_wp2_with fail
  go_loop [5] (fun i => ∃ k : Nat, k ≤ s.size + 1 - x.size ∧ i = .int .i64 k ∧ Hid (withinTo s x k = false)) (fun i => s.size + 1 - x.size - (intOf i).toNat)
  case atStart => exact ⟨0, by omega, rfl, rfl⟩
  case round =>
    obtain ⟨k, hk, rfl, HW⟩ := hrel
    go_wp2_with fail
    · go_ret
      have h1 : ((s.extract k (k + x.size)).toList == x.toList) = true := by assumption
      have h : withinTo s x (k + 1) = true := by simp only [withinTo, h1, Bool.or_true]
      exact ⟨by unfold withinB; rw [withinTo_mono s x (k + 1) h _ (by omega)]; rfl, rfl⟩
    · have h1 : ((s.extract k (k + x.size)).toList == x.toList) = false := by assumption
      go_round
      case rel => exact ⟨k + 1, by omega, by go_num, by show withinTo s x (k + 1) = false; simp only [withinTo, HW.out, h1]; rfl⟩
      case measure => simp [intOf]; omega
    · go_ret
      obtain rfl : k = s.size + 1 - x.size := by omega
      exact ⟨by unfold withinB; rw [HW.out]; rfl, rfl⟩

/-- a slice of strings -/
def Strs (w : World) (v : Value) (ls : List ByteArray) : Prop := ∃ b o c, v = .slice (some ⟨b, o, none⟩) ls.length c ∧ ∀ i s, ls[i]? = some s → w.cell? ⟨b, o + i, none⟩ = some (.string s)

/-- does one of some texts stand in s -/
def hasB (s : ByteArray) (ls : List ByteArray) : Bool := ls.any (withinB s)

set_option maxRecDepth 20000 in
set_option maxHeartbeats 1000000 in
theorem has_any (w : World) (s : ByteArray) (b o c : Nat) (ls : List ByteArray) (a : Addr) (hs : s.size ≤ 1000000) (hl : ls.length ≤ 1000) (hx : ∀ x ∈ ls, x.size ≤ 1000000)
   (hr : ∀ i s, ls[i]? = some s → w.cell? ⟨b, o + i, none⟩ = some (.string s)) (ha : w.cell? a = some (.string s)) :
   Calls Tryd.prog 29 #[.slice (some ⟨b, o, none⟩) ls.length c, .pointer (some a)] w fun e w' => e = .returned (.bool (hasB s ls)) ∧ w' = w := by
  have HR := Lib.hid hr
  have HX := Lib.hid hx
  clear hr hx
  go_enter Tryd.func29, Tryd.ntmps29
  go_wp2_with fail
  go_loop [5, 8] (fun _ i => ∃ k : Nat, k ≤ ls.length ∧ i = .int .i64 k ∧ Hid ((ls.take k).any (withinB s) = false)) (fun _ i => ls.length - (intOf i).toNat)
  case atStart => exact ⟨0, by omega, rfl, rfl⟩
  case round =>
    obtain ⟨k, hk, rfl, HW⟩ := hrel
    by_cases hlt : k < ls.length
    · have hcell := HR.out k ls[k] (List.getElem?_eq_getElem hlt)
      have hxs := HX.out ls[k] (List.getElem_mem hlt)
      obtain ⟨x, hxe⟩ : ∃ x, x = ls[k] := ⟨_, rfl⟩
      rw [← hxe] at hcell hxs
      have HXE := Lib.hid hxe
      clear hxe
      cases hw : withinB s x with
      | true =>
        have HW1 := Lib.hid hw
        clear hw
        go_wp2_with (go_at_call 30; refine (within_any _ s x hs hxs).mono ?_; rw [HW1.out]; rintro e w' ⟨rfl, rfl⟩)
        go_ret
        refine ⟨?_, rfl⟩
        have : hasB s ls = true := List.any_eq_true.2 ⟨x, by rw [HXE.out]; exact List.getElem_mem hlt, HW1.out⟩
        rw [this]; rfl
      | false =>
        have HW1 := Lib.hid hw
        clear hw
        go_wp2_with (go_at_call 30; refine (within_any _ s x hs hxs).mono ?_; rw [HW1.out]; rintro e w' ⟨rfl, rfl⟩)
        go_round
        case rel =>
          refine ⟨k + 1, by omega, by go_num, ?_⟩
          show _ = _
          rw [List.take_succ_eq_append_getElem hlt, List.any_append, HW.out, ← HXE.out]
          simp [HW1.out]
        case measure => simp [intOf]; omega
    · obtain rfl : k = ls.length := by omega
      go_wp2_with fail
      go_ret
      have e := HW.out
      rw [List.take_length] at e
      exact ⟨by unfold hasB; rw [e]; rfl, rfl⟩
end Go.Proofs
