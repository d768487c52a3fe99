/- The tied card of FnNumbers: for every number and every slice of bytes the law returns true, and the bytes read as they did. -/
import Derived.Test.YtfagifnebjkaeaaDoorRow
import Derived.Test.YtfagifnebjkaeaaDoorTie
import Derived.Test.YtfagifnebjkaeaaDoorCards
import Derived.SevenTiedAt
namespace Go.Proofs.YtfagifnebjkaeaaDoor
open Go

theorem card_holds : Rows.FnNumbersCardSaid :=
  Claim7.holds_tied_plain_at .later [] [.sentinel, .sentinel, .sentinel] true (true, "b0f2748b38dfe96cee2bd078dce6bdd1b9e2157d00789d0ace8b826d31c1a7b4") true
    fnNumbers_holds (fun _ h => by cases h) (by kernel_rfl) (fun _ h => by cases h) fnNumbers_row_tie rfl ⟨rfl, rfl⟩ (by kernel_rfl) rfl
    (fun f fn hf hfn => by
      obtain rfl : f = 3 := Option.some.inj ((show Tryd.prog.funcNamed "pub-telegraphy/laws.FnNumbers" = some 3 by kernel_rfl).symm.trans hf) |>.symm
      obtain rfl : fn = Tryd.f3 := (Option.some.inj (Tryd.func3.symm.trans hfn)).symm
      exact ⟨by kernel_rfl, fun j t ht => by
        rw [Tryd.params3] at ht
        have hm : t ∈ [22, 23] := by simpa using Array.mem_of_getElem? ht
        have hall : ([22, 23].all fun u => !Tryd.prog.wantsStandIn u) = true := by kernel_rfl
        exact (show Tryd.prog.wantsStandIn t = false by simpa using List.all_eq_true.1 hall t hm)⟩)
    (by kernel_rfl)
#print axioms card_holds
end Go.Proofs.YtfagifnebjkaeaaDoor
