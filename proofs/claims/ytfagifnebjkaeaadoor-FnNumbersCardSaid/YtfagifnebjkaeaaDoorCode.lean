/- The walk of impl.code: which code an error gets. (The long chain was printed by the program gen_code.py of this claim's author.) -/
import Derived.Test.YtfagifnebjkaeaaDoorWithin
import Derived.Test.YtfagifnebjkaeaaDoorIs
namespace Go.Proofs
open Go.RowKit

theorem Tryd.methodError (v : Value) (w : World) : (Go.method 314 97 v "Error").run Tryd.prog w = .ok (74, v) w := by kernel_rfl

set_option maxRecDepth 20000 in
theorem code_nil (w : World) (b : Bool) :
   Calls Tryd.prog 19 #[.nilIface, .bool b] w fun e w' => e = .returned (.int .i64 0) ∧ w' = w := by
  go_enter Tryd.func19, Tryd.ntmps19
  go_wp2
  go_ret
  exact ⟨rfl, rfl⟩

set_option maxRecDepth 20000 in
theorem code_eof (w : World) (b : Bool) (ea : Addr) (h0 : w.cell? ⟨0, 0, none⟩ = some (.iface 97 (.pointer (some ea)))) :
   Calls Tryd.prog 19 #[.iface 97 (.pointer (some ea)), .bool b] w fun e w' => e = .returned (.int .i64 1) ∧ w' = w := by
  go_enter Tryd.func19, Tryd.ntmps19
  go_wp2_with (go_at_call 28; refine (is_same ea _).mono ?_; rintro e w' ⟨rfl, rfl⟩)
  go_ret
  exact ⟨rfl, rfl⟩

set_option maxRecDepth 20000 in
theorem code_ueof (w : World) (b : Bool) (ea ua : Addr) (ca cb : Array Value) (ta tb : TypeId) (hne : ua ≠ ea) (ha : w.heap[ua.block]? = some (.cells ca ta (0, 0))) (hb : w.heap[ea.block]? = some (.cells cb tb (0, 0)))
   (h0 : w.cell? ⟨0, 0, none⟩ = some (.iface 97 (.pointer (some ea)))) (h1 : w.cell? ⟨1, 0, none⟩ = some (.iface 97 (.pointer (some ua)))) :
   Calls Tryd.prog 19 #[.iface 97 (.pointer (some ua)), .bool b] w fun e w' => e = .returned (.int .i64 2) ∧ w' = w := by
  have H1 := Lib.hid (is_other ua ea ca cb ta tb w hne ha hb)
  have H2 := Lib.hid (is_same ua w)
  clear ha hb hne
  go_enter Tryd.func19, Tryd.ntmps19
  go_wp2_with fail
  refine H1.out.mono ?_
  rintro e w' ⟨rfl, rfl⟩
  go_wp2_with fail
  refine H2.out.mono ?_
  rintro e w' ⟨rfl, rfl⟩
  go_wp2_with fail
  go_ret
  exact ⟨rfl, rfl⟩

def cw1 : List ByteArray := [⟨#[100, 117, 112, 108, 105, 99, 97, 116, 101, 32, 116, 121, 112, 101]⟩, ⟨#[114, 101, 103, 105, 115, 116, 101, 114, 105, 110, 103, 32, 100, 117, 112, 108, 105, 99, 97, 116, 101]⟩]
def cw2 : List ByteArray := [⟨#[105, 110, 118, 97, 108, 105, 100, 32, 109, 101, 115, 115, 97, 103, 101, 32, 108, 101, 110, 103, 116, 104]⟩, ⟨#[116, 111, 111, 32, 98, 105, 103]⟩]
def cw3 : List ByteArray := [⟨#[111, 117, 116, 32, 111, 102, 32, 114, 97, 110, 103, 101]⟩]
def cw4 : List ByteArray := [⟨#[101, 110, 99, 111, 100, 101, 100, 32, 117, 110, 115, 105, 103, 110, 101, 100, 32, 105, 110, 116, 101, 103, 101, 114]⟩]
def cw5 : List ByteArray := [⟨#[110, 111, 32, 102, 105, 101, 108, 100, 115, 32, 109, 97, 116, 99, 104, 101, 100]⟩]
def cw6 : List ByteArray := [⟨#[110, 111, 116, 32, 114, 101, 103, 105, 115, 116, 101, 114, 101, 100]⟩, ⟨#[117, 110, 100, 101, 102, 105, 110, 101, 100, 32, 116, 121, 112, 101]⟩, ⟨#[117, 110, 107, 110, 111, 119, 110, 32, 116, 121, 112, 101, 32, 105, 100]⟩]
def cw7 : List ByteArray := [⟨#[110, 111, 116, 32, 97, 115, 115, 105, 103, 110, 97, 98, 108, 101]⟩]
def cw8 : List ByteArray := [⟨#[116, 121, 112, 101, 32, 109, 105, 115, 109, 97, 116, 99, 104, 32, 105, 110, 32, 100, 101, 99, 111, 100, 101, 114]⟩, ⟨#[100, 101, 99, 111, 100, 105, 110, 103, 32, 105, 110, 116, 111, 32, 108, 111, 99, 97, 108, 32, 116, 121, 112, 101]⟩, ⟨#[108, 111, 99, 97, 108, 32, 105, 110, 116, 101, 114, 102, 97, 99, 101, 32, 116, 121, 112, 101]⟩, ⟨#[119, 114, 111, 110, 103, 32, 116, 121, 112, 101]⟩]

/-- what code says of an error's text -/
def codeOf (t : ByteArray) (b : Bool) : Int :=
  if hasB t cw1 then 10 else if hasB t cw2 then 9 else if hasB t cw3 && !hasB t cw4 then 4 else if hasB t cw5 then 5
  else if hasB t cw6 then 6 else if hasB t cw7 then 7 else if hasB t cw8 then 3 else if b then 11 else 8


theorem alloc_cell {W : World} {a : Addr} {v : Value} (h : W.cell? a = some v) (o : Obj) : (W.alloc o).cell? a = some v := by
  rw [World.cell?_alloc_lt _ _ _ (World.block_lt_of_cell? W a h)]; exact h

theorem has_new (W : World) (n : Nat) (hn : n = W.heap.size) (ls : List ByteArray) (sa : Addr) (t : ByteArray) (ht : t.size ≤ 1000000) (hl : ls.length ≤ 1000) (hx : ∀ x ∈ ls, x.size ≤ 1000000) (hS : W.cell? sa = some (.string t)) :
    Calls Tryd.prog 29 #[.slice (some ⟨n, 0, none⟩) ls.length ls.length, .pointer (some sa)] (W.alloc (.cells (ls.map Value.string).toArray 9)) fun e w' => e = .returned (.bool (hasB t ls)) ∧ w' = W.alloc (.cells (ls.map Value.string).toArray 9) := by
  subst hn
  refine has_any _ t W.heap.size 0 ls.length ls sa ht hl hx (fun i s hs => ?_) (alloc_cell hS _)
  rw [World.cell?_alloc_new, Nat.zero_add, List.getElem?_toArray, List.getElem?_map, hs]
  rfl

set_option maxRecDepth 20000 in
set_option maxHeartbeats 4000000 in
theorem code_text (w : World) (b : Bool) (ea ua ga : Addr) (ca cb cc : Array Value) (ta tb tc : TypeId) (hne : ga ≠ ea) (hne2 : ga ≠ ua) (hu : w.heap[ua.block]? = some (.cells ca ta (0, 0))) (he : w.heap[ea.block]? = some (.cells cb tb (0, 0))) (hg : w.heap[ga.block]? = some (.cells cc tc (0, 0)))
   (h0 : w.cell? ⟨0, 0, none⟩ = some (.iface 97 (.pointer (some ea)))) (h1 : w.cell? ⟨1, 0, none⟩ = some (.iface 97 (.pointer (some ua)))) (t : ByteArray) (ht : t.size ≤ 1000000) (hc : w.cell? ga = some (.string t)) :
   Calls Tryd.prog 19 #[.iface 97 (.pointer (some ga)), .bool b] w fun e w' => e = .returned (.int .i64 (codeOf t b)) ∧ Below w.heap.size w w' := by
  have H1 := Lib.hid (is_other ga ea cc cb tc tb w hne hg he)
  have H2 := Lib.hid (is_other ga ua cc ca tc ta w hne2 hg hu)
  have S0 := Lib.hid (World.cell?_alloc_new w #[.string t] 9 0)
  have mE := Tryd.methodError
  clear hg hu he hne hne2
  obtain ⟨gb, go, gs⟩ := ga
  go_enter Tryd.func19, Tryd.ntmps19
  go_wp2_with fail
  refine (H1.out).mono ?_
  rintro e w1 ⟨rfl, hw⟩
  have hw' := hw.symm
  clear hw
  subst hw'
  go_wp2_with fail
  refine H2.out.mono ?_
  rintro e w1 ⟨rfl, hw⟩
  have hw' := hw.symm
  clear hw
  subst hw'
  go_wp2_with (go_at_call 74; go_in)
  clear h0 h1 hc mE H1 H2
  refine (has_new _ _ (by simp) cw1 ⟨w.heap.size, 0, none⟩ t ht (by decide) (by decide) S0.out).mono ?_
  rintro e w1 ⟨rfl, hw⟩
  have hw' := hw.symm
  clear hw
  subst hw'
  have S1 := Lib.hid (alloc_cell S0.out (.cells (cw1.map Value.string).toArray 9))
  cases hB1 : hasB t cw1 with
  | true =>
    have B1 := Lib.hid hB1
    clear hB1
    go_wp2_with fail
    refine bodyPost_ret (results_tmp rfl _ _ _) rfl ?_
    exact ⟨by simp [codeOf, B1.out], (((Below.refl _ _).alloc (by simp <;> omega) _).alloc (by simp <;> omega) _)⟩
  | false =>
    have B1 := Lib.hid hB1
    clear hB1
    go_wp2_with fail
    refine (has_new _ _ (by simp) cw2 ⟨w.heap.size, 0, none⟩ t ht (by decide) (by decide) S1.out).mono ?_
    rintro e w1 ⟨rfl, hw⟩
    have hw' := hw.symm
    clear hw
    subst hw'
    have S2 := Lib.hid (alloc_cell S1.out (.cells (cw2.map Value.string).toArray 9))
    cases hB2 : hasB t cw2 with
    | true =>
      have B2 := Lib.hid hB2
      clear hB2
      go_wp2_with fail
      refine bodyPost_ret (results_tmp rfl _ _ _) rfl ?_
      exact ⟨by simp [codeOf, B1.out, B2.out], ((((Below.refl _ _).alloc (by simp <;> omega) _).alloc (by simp <;> omega) _).alloc (by simp <;> omega) _)⟩
    | false =>
      have B2 := Lib.hid hB2
      clear hB2
      go_wp2_with fail
      refine (has_new _ _ (by simp) cw3 ⟨w.heap.size, 0, none⟩ t ht (by decide) (by decide) S2.out).mono ?_
      rintro e w1 ⟨rfl, hw⟩
      have hw' := hw.symm
      clear hw
      subst hw'
      have S3 := Lib.hid (alloc_cell S2.out (.cells (cw3.map Value.string).toArray 9))
      cases hB3 : hasB t cw3 with
      | true =>
        have B3 := Lib.hid hB3
        clear hB3
        go_wp2_with fail
        refine (has_new _ _ (by simp) cw4 ⟨w.heap.size, 0, none⟩ t ht (by decide) (by decide) S3.out).mono ?_
        rintro e w1 ⟨rfl, hw⟩
        have hw' := hw.symm
        clear hw
        subst hw'
        have S4 := Lib.hid (alloc_cell S3.out (.cells (cw4.map Value.string).toArray 9))
        cases hB4 : hasB t cw4 with
        | true =>
          have B4 := Lib.hid hB4
          clear hB4
          go_wp2_with fail
          refine (has_new _ _ (by simp) cw5 ⟨w.heap.size, 0, none⟩ t ht (by decide) (by decide) S4.out).mono ?_
          rintro e w1 ⟨rfl, hw⟩
          have hw' := hw.symm
          clear hw
          subst hw'
          have S5 := Lib.hid (alloc_cell S4.out (.cells (cw5.map Value.string).toArray 9))
          cases hB5 : hasB t cw5 with
          | true =>
            have B5 := Lib.hid hB5
            clear hB5
            go_wp2_with fail
            refine bodyPost_ret (results_tmp rfl _ _ _) rfl ?_
            exact ⟨by simp [codeOf, B1.out, B2.out, B3.out, B4.out, B5.out], (((((((Below.refl _ _).alloc (by simp <;> omega) _).alloc (by simp <;> omega) _).alloc (by simp <;> omega) _).alloc (by simp <;> omega) _).alloc (by simp <;> omega) _).alloc (by simp <;> omega) _)⟩
          | false =>
            have B5 := Lib.hid hB5
            clear hB5
            go_wp2_with fail
            refine (has_new _ _ (by simp) cw6 ⟨w.heap.size, 0, none⟩ t ht (by decide) (by decide) S5.out).mono ?_
            rintro e w1 ⟨rfl, hw⟩
            have hw' := hw.symm
            clear hw
            subst hw'
            have S6 := Lib.hid (alloc_cell S5.out (.cells (cw6.map Value.string).toArray 9))
            cases hB6 : hasB t cw6 with
            | true =>
              have B6 := Lib.hid hB6
              clear hB6
              go_wp2_with fail
              refine bodyPost_ret (results_tmp rfl _ _ _) rfl ?_
              exact ⟨by simp [codeOf, B1.out, B2.out, B3.out, B4.out, B5.out, B6.out], ((((((((Below.refl _ _).alloc (by simp <;> omega) _).alloc (by simp <;> omega) _).alloc (by simp <;> omega) _).alloc (by simp <;> omega) _).alloc (by simp <;> omega) _).alloc (by simp <;> omega) _).alloc (by simp <;> omega) _)⟩
            | false =>
              have B6 := Lib.hid hB6
              clear hB6
              go_wp2_with fail
              refine (has_new _ _ (by simp) cw7 ⟨w.heap.size, 0, none⟩ t ht (by decide) (by decide) S6.out).mono ?_
              rintro e w1 ⟨rfl, hw⟩
              have hw' := hw.symm
              clear hw
              subst hw'
              have S7 := Lib.hid (alloc_cell S6.out (.cells (cw7.map Value.string).toArray 9))
              cases hB7 : hasB t cw7 with
              | true =>
                have B7 := Lib.hid hB7
                clear hB7
                go_wp2_with fail
                refine bodyPost_ret (results_tmp rfl _ _ _) rfl ?_
                exact ⟨by simp [codeOf, B1.out, B2.out, B3.out, B4.out, B5.out, B6.out, B7.out], (((((((((Below.refl _ _).alloc (by simp <;> omega) _).alloc (by simp <;> omega) _).alloc (by simp <;> omega) _).alloc (by simp <;> omega) _).alloc (by simp <;> omega) _).alloc (by simp <;> omega) _).alloc (by simp <;> omega) _).alloc (by simp <;> omega) _)⟩
              | false =>
                have B7 := Lib.hid hB7
                clear hB7
                go_wp2_with fail
                refine (has_new _ _ (by simp) cw8 ⟨w.heap.size, 0, none⟩ t ht (by decide) (by decide) S7.out).mono ?_
                rintro e w1 ⟨rfl, hw⟩
                have hw' := hw.symm
                clear hw
                subst hw'
                have S8 := Lib.hid (alloc_cell S7.out (.cells (cw8.map Value.string).toArray 9))
                cases hB8 : hasB t cw8 with
                | true =>
                  have B8 := Lib.hid hB8
                  clear hB8
                  go_wp2_with fail
                  refine bodyPost_ret (results_tmp rfl _ _ _) rfl ?_
                  exact ⟨by simp [codeOf, B1.out, B2.out, B3.out, B4.out, B5.out, B6.out, B7.out, B8.out], ((((((((((Below.refl _ _).alloc (by simp <;> omega) _).alloc (by simp <;> omega) _).alloc (by simp <;> omega) _).alloc (by simp <;> omega) _).alloc (by simp <;> omega) _).alloc (by simp <;> omega) _).alloc (by simp <;> omega) _).alloc (by simp <;> omega) _).alloc (by simp <;> omega) _)⟩
                | false =>
                  have B8 := Lib.hid hB8
                  clear hB8
                  go_wp2_with fail
                  go_wp2_with fail
                  all_goals (
                    rename_i hb
                    refine bodyPost_ret (results_tmp rfl _ _ _) rfl ?_
                    exact ⟨by simp [codeOf, hb, B1.out, B2.out, B3.out, B4.out, B5.out, B6.out, B7.out, B8.out], ((((((((((Below.refl _ _).alloc (by simp <;> omega) _).alloc (by simp <;> omega) _).alloc (by simp <;> omega) _).alloc (by simp <;> omega) _).alloc (by simp <;> omega) _).alloc (by simp <;> omega) _).alloc (by simp <;> omega) _).alloc (by simp <;> omega) _).alloc (by simp <;> omega) _)⟩)
        | false =>
          have B4 := Lib.hid hB4
          clear hB4
          go_wp2_with fail
          refine bodyPost_ret (results_tmp rfl _ _ _) rfl ?_
          exact ⟨by simp [codeOf, B1.out, B2.out, B3.out, B4.out], ((((((Below.refl _ _).alloc (by simp <;> omega) _).alloc (by simp <;> omega) _).alloc (by simp <;> omega) _).alloc (by simp <;> omega) _).alloc (by simp <;> omega) _)⟩
      | false =>
        have B3 := Lib.hid hB3
        clear hB3
        go_wp2_with fail
        refine (has_new _ _ (by simp) cw5 ⟨w.heap.size, 0, none⟩ t ht (by decide) (by decide) S3.out).mono ?_
        rintro e w1 ⟨rfl, hw⟩
        have hw' := hw.symm
        clear hw
        subst hw'
        have S4 := Lib.hid (alloc_cell S3.out (.cells (cw5.map Value.string).toArray 9))
        cases hB5 : hasB t cw5 with
        | true =>
          have B5 := Lib.hid hB5
          clear hB5
          go_wp2_with fail
          refine bodyPost_ret (results_tmp rfl _ _ _) rfl ?_
          exact ⟨by simp [codeOf, B1.out, B2.out, B3.out, B5.out], ((((((Below.refl _ _).alloc (by simp <;> omega) _).alloc (by simp <;> omega) _).alloc (by simp <;> omega) _).alloc (by simp <;> omega) _).alloc (by simp <;> omega) _)⟩
        | false =>
          have B5 := Lib.hid hB5
          clear hB5
          go_wp2_with fail
          refine (has_new _ _ (by simp) cw6 ⟨w.heap.size, 0, none⟩ t ht (by decide) (by decide) S4.out).mono ?_
          rintro e w1 ⟨rfl, hw⟩
          have hw' := hw.symm
          clear hw
          subst hw'
          have S5 := Lib.hid (alloc_cell S4.out (.cells (cw6.map Value.string).toArray 9))
          cases hB6 : hasB t cw6 with
          | true =>
            have B6 := Lib.hid hB6
            clear hB6
            go_wp2_with fail
            refine bodyPost_ret (results_tmp rfl _ _ _) rfl ?_
            exact ⟨by simp [codeOf, B1.out, B2.out, B3.out, B5.out, B6.out], (((((((Below.refl _ _).alloc (by simp <;> omega) _).alloc (by simp <;> omega) _).alloc (by simp <;> omega) _).alloc (by simp <;> omega) _).alloc (by simp <;> omega) _).alloc (by simp <;> omega) _)⟩
          | false =>
            have B6 := Lib.hid hB6
            clear hB6
            go_wp2_with fail
            refine (has_new _ _ (by simp) cw7 ⟨w.heap.size, 0, none⟩ t ht (by decide) (by decide) S5.out).mono ?_
            rintro e w1 ⟨rfl, hw⟩
            have hw' := hw.symm
            clear hw
            subst hw'
            have S6 := Lib.hid (alloc_cell S5.out (.cells (cw7.map Value.string).toArray 9))
            cases hB7 : hasB t cw7 with
            | true =>
              have B7 := Lib.hid hB7
              clear hB7
              go_wp2_with fail
              refine bodyPost_ret (results_tmp rfl _ _ _) rfl ?_
              exact ⟨by simp [codeOf, B1.out, B2.out, B3.out, B5.out, B6.out, B7.out], ((((((((Below.refl _ _).alloc (by simp <;> omega) _).alloc (by simp <;> omega) _).alloc (by simp <;> omega) _).alloc (by simp <;> omega) _).alloc (by simp <;> omega) _).alloc (by simp <;> omega) _).alloc (by simp <;> omega) _)⟩
            | false =>
              have B7 := Lib.hid hB7
              clear hB7
              go_wp2_with fail
              refine (has_new _ _ (by simp) cw8 ⟨w.heap.size, 0, none⟩ t ht (by decide) (by decide) S6.out).mono ?_
              rintro e w1 ⟨rfl, hw⟩
              have hw' := hw.symm
              clear hw
              subst hw'
              have S7 := Lib.hid (alloc_cell S6.out (.cells (cw8.map Value.string).toArray 9))
              cases hB8 : hasB t cw8 with
              | true =>
                have B8 := Lib.hid hB8
                clear hB8
                go_wp2_with fail
                refine bodyPost_ret (results_tmp rfl _ _ _) rfl ?_
                exact ⟨by simp [codeOf, B1.out, B2.out, B3.out, B5.out, B6.out, B7.out, B8.out], (((((((((Below.refl _ _).alloc (by simp <;> omega) _).alloc (by simp <;> omega) _).alloc (by simp <;> omega) _).alloc (by simp <;> omega) _).alloc (by simp <;> omega) _).alloc (by simp <;> omega) _).alloc (by simp <;> omega) _).alloc (by simp <;> omega) _)⟩
              | false =>
                have B8 := Lib.hid hB8
                clear hB8
                go_wp2_with fail
                go_wp2_with fail
                all_goals (
                  rename_i hb
                  refine bodyPost_ret (results_tmp rfl _ _ _) rfl ?_
                  exact ⟨by simp [codeOf, hb, B1.out, B2.out, B3.out, B5.out, B6.out, B7.out, B8.out], (((((((((Below.refl _ _).alloc (by simp <;> omega) _).alloc (by simp <;> omega) _).alloc (by simp <;> omega) _).alloc (by simp <;> omega) _).alloc (by simp <;> omega) _).alloc (by simp <;> omega) _).alloc (by simp <;> omega) _).alloc (by simp <;> omega) _)⟩)

end Go.Proofs
