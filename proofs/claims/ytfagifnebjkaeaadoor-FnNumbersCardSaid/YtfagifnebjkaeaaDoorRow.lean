/- The row of FnNumbers, proved: for every input the law returns true. -/
import Derived.Test.YtfagifnebjkaeaaDoorRows
import Derived.Test.YtfagifnebjkaeaaDoorLaw
import Derived.ProofKit
import Derived.OpenShut
import Derived.ShutString
import Derived.ChangeOld
import Derived.Below
import Derived.LaidMore
import Derived.Stop.Joined
import Derived.Stop.LaidTwo
namespace Go.Proofs.YtfagifnebjkaeaaDoor
open Go.ChangeShapes Go.WideShapes Go.ChangeAt Go.RowKit Go.Gob

theorem own : ownKnob Tryd.prog.godebug = none := by kernel_rfl
theorem laidOut : laidOutB Tryd.prog = true := by kernel_rfl
theorem gEOF : Tryd.prog.globalNamed "io.EOF" = some 0 := by kernel_rfl
theorem gUEOF : Tryd.prog.globalNamed "io.ErrUnexpectedEOF" = some 1 := by kernel_rfl
theorem tEOF : (Tryd.prog.globals[0]?).map (·.type) = some 43 := by kernel_rfl
theorem tUEOF : (Tryd.prog.globals[1]?).map (·.type) = some 43 := by kernel_rfl
theorem star : "*" ++ "errors.errorString" = "*errors.errorString" := by decide
theorem row97 (u : TypeId) (h : Tryd.prog.typeName? 3 u = some "*errors.errorString") : u = 97 :=
  typeName_ptr_named (nm := "errors.errorString") (by rw [star]; kernel_rfl) (by kernel_rfl) (by decide) u (by rw [star]; exact h)
theorem cells99 : Tryd.prog.cellsOf 99 = 1 := by kernel_rfl
theorem cells9 : Tryd.prog.cellsOf 9 = 1 := by kernel_rfl

def laid3 : List (String × DataW Unit) := [("io.ErrShortBuffer", Rows.laid_io_ErrShortBuffer), ("io.EOF", Rows.laid_io_EOF), ("io.ErrUnexpectedEOF", Rows.laid_io_ErrUnexpectedEOF)]

theorem door_met (os : Os) (args : Array Value) : laidMetH Tryd.prog laid3 ((World.doorLaid Tryd.prog 400 os).forCall (fun _ _ => 0) ⟨#[], args, []⟩).memory :=
  laidMetH_of_parts3 (fuel := 8) (laidMet_of_run' 8 (by kernel_rfl) (by kernel_rfl)) (by kernel_rfl) (by kernel_rfl)

set_option maxRecDepth 100000 in
theorem errs_of_laid {W : World} (h : laidMetH Tryd.prog laid3 W) : ∃ ea ua, Errs W.heap.size W ea ua := by
  rw [MakeChecks.laidMetH_plain _ _ _ (by kernel_rfl)] at h
  obtain ⟨ea, ua, s0, s1, c0, c1, t0, t1, hv0, hv1, _, _, _, _, _, _, hne, hb0, hb1⟩ := laid_sentinels2 h.tail gEOF tEOF gUEOF tUEOF Tryd.underlying43 row97 Tryd.underlying97 Tryd.underlying99 rfl rfl Tryd.underlying9 cells99 cells9
  have h0 : W.cell? ⟨0, 0, none⟩ = some (.iface 97 (.pointer (some ea))) := by simpa using World.var?_cell gEOF hv0 0
  have h1 : W.cell? ⟨1, 0, none⟩ = some (.iface 97 (.pointer (some ua))) := by simpa using World.var?_cell gUEOF hv1 0
  have hl := World.block_lt_of_cell? W _ h1
  exact ⟨ea, ua, h0, h1, hne.symm, ⟨_, _, hb0⟩, ⟨_, _, hb1⟩, hl, (Array.getElem?_eq_some_iff.1 hb0).1, (Array.getElem?_eq_some_iff.1 hb1).1⟩

set_option maxRecDepth 100000 in
theorem spot_none {W : World} {base len cap : Nat} {x : Addr} (h : Value.okWide Tryd.prog W .any base 23 (.slice (some x) len cap)) : x.spot = none := by
  simp only [Value.okWide, Tryd.underlying23, Cell.okWide, Cell.ok] at h
  exact h.2.2.2.1

set_option maxRecDepth 100000 in
/-- the row of a slice of bytes that came in, as the walk reads it -/
theorem src_of_row {W : World} {x : Addr} {len cap : Nat} {zs : List Int} (hsp : x.spot = none) (hl : len ≤ cap) (hz : zs.length = cap) (hcell : ∀ i, i < zs.length → W.cell? (x.add i) = some (.int .u8 (zs.getD i 0))) (hwz : ∀ n ∈ zs, (Lit.int .u8 n).wf = true) :
    ∃ bs : List UInt8, Src8 W (.slice (some x) len cap) bs := by
  refine ⟨(zs.take len).map fun n => UInt8.ofNat n.toNat, ?_⟩
  have hlen : ((zs.take len).map fun n => UInt8.ofNat n.toNat).length = len := by simp; omega
  obtain ⟨b, o, sp⟩ := x
  obtain rfl : sp = none := hsp
  refine .inr ⟨b, o, cap, by rw [hlen], fun i c hc => ?_⟩
  have hi : i < len := by
    rcases Nat.lt_or_ge i len with h | h
    · exact h
    · rw [List.getElem?_eq_none (by rw [hlen]; exact h)] at hc; cases hc
  have h1 := hcell i (by omega)
  rw [Addr.add_lit] at h1
  rw [h1]
  rw [List.getElem?_map, List.getElem?_take_of_lt hi, List.getElem?_eq_getElem (by omega : i < zs.length)] at hc
  simp only [Option.map_some, Option.some.injEq] at hc
  subst hc
  have hw := range_u8 hwz i
  rw [List.getElem?_eq_getElem (by omega : i < zs.length)] at hw
  simp only [Option.getD_some] at hw
  have e : zs.getD i 0 = zs[i]'(by omega) := by simp [List.getD, List.getElem?_eq_getElem (show i < zs.length by omega)]
  rw [e]
  unfold u8v
  congr 2
  rw [UInt8.toNat_ofNat']
  omega

set_option maxRecDepth 100000 in
theorem lifted (os : Os) (started : os.Started) (H : Type) (enc : TypeId × Value → H) :
    ReturnsInHanded {} Tryd.checked os 3 .any (fun w args => (Rows.fnNumbersSpec.pre enc Tryd.prog Tryd.f3 [] false w args ∧ laidMetH Tryd.prog laid3 w) ∧ sizedMet enc Tryd.prog Tryd.f3 (OpenSpec.ofChange Rows.fnNumbersSpec) false w args)
      (Rows.fnNumbersSpec.post enc Tryd.prog Tryd.f3 false true false false) := by
  refine returnsInHanded_of_change_and (C := Tryd.checked) (X := fun w _ => laidMetH Tryd.prog laid3 w) (fun _ _ _ hh h => h.of_heap hh) own started (by kernel_rfl) Tryd.func3
    (ChangeSpec.witness_shaped (enc := enc) (C := Tryd.checked) (os := os) (X := fun w _ => laidMetH Tryd.prog laid3 w) false (World.doorLaid Tryd.prog 400 os) #[.int .u64 0, .slice none 0 0] 8 rfl (World.shaped_of_RefB (by kernel_rfl) (by kernel_rfl)) (by kernel_rfl) (by kernel_rfl) (by kernel_rfl) (door_met os _)) ?_
  intro W base args ds gs before hval0 hW _ _ hL _
  have hval : ∀ (j : Nat) t v, Tryd.f3.params[j]? = some t → args[j]? = some v → Value.okWide Tryd.prog W .any base t v := hval0
  have hW' := hW
  obtain ⟨p, q, hA0, hV, rfl, hfz, hnd⟩ := hW
  have hA : DataW.TrodAll enc Tryd.prog W 0 (fun _ => true) true Tryd.f3.params.toList args.toList ds p := hA0
  rw [Tryd.params3] at hA hval
  obtain ⟨v0, v1, d0, d1, p0, p1, rfl, rfl, rfl, h0, h1⟩ := trodAll_two hA
  obtain ⟨rfl, rfl⟩ := trodVars_none hV
  obtain ⟨a, rfl, rfl, rfl, w0⟩ := open_int Tryd.underlying22 (hval 0 22 v0 rfl rfl) h0
  obtain ⟨a1, len, cap, rfl⟩ := okWide_slice Tryd.underlying23 (hval 1 23 v1 rfl rfl)
  have k1 := h1
  have lt1 : ∀ x ∈ p1, x.block < W.heap.size := by obtain ⟨m, hm⟩ := k1; exact DataW.trod_lt m _ _ _ hm
  obtain ⟨bs, hsrc⟩ : ∃ bs, Src8 W (.slice a1 len cap) bs := by
    have hok := hval 1 23 _ rfl rfl
    obtain ⟨fuel, hf⟩ := h1
    rcases open_ints Tryd.underlying23 Tryd.underlying5 (by kernel_rfl) hf with ⟨hcs, _⟩ | ⟨x, l, c, zs, hcs, _, hl, hm, hz, _, hcell, hwz⟩
    · simp [Value.cells] at hcs
      obtain ⟨rfl, rfl, rfl⟩ := hcs
      exact ⟨[], .inl ⟨0, rfl, rfl⟩⟩
    · simp [Value.cells] at hcs
      obtain ⟨rfl, rfl, rfl⟩ := hcs
      exact src_of_row (spot_none hok) hl (by simpa using hz) hcell hwz
  obtain ⟨ea, ua, hE⟩ := errs_of_laid hL
  have hb := bounds_u64 w0
  obtain ⟨x, rfl⟩ := Int.eq_ofNat_of_zero_le hb.1
  have hx : U64 x := by unfold U64; omega
  clear hA0 hval0
  refine (law_any W x _ bs hx hsrc ea ua hE).mono fun e W' ⟨he, bel⟩ => ?_
  subst he
  exact ⟨_, rfl, _, _, _, [], _, [], hW', trodAll_mk1 (shut_bool Tryd.underlying4 _), (trodAll_cons_mk (shut_int Tryd.underlying22 w0) (trodAll_cons_mk (Below.trod laidOut (by kernel_rfl) (of_decide_eq_true (by kernel_rfl)) k1 bel lt1) trodAll_mk0)), rfl, bel.frame _, fun h => by cases h⟩

theorem fnNumbers_holds : Rows.FnNumbersSaid :=
  OpenClaim.holds_of_wide 3 Tryd.f3 rfl rfl rfl rfl rfl rfl rfl ⟨rfl, rfl, rfl, rfl, rfl⟩ rfl rfl rfl rfl rfl (by kernel_rfl) Tryd.func3 (by kernel_rfl)
    (of_decide_eq_true (by kernel_rfl)) (by unfold Func.isWrapper; first | (rw [if_pos (by decide +kernel)]; kernel_rfl) | (rw [if_neg (by decide +kernel)]; exact ⟨rfl, rfl⟩))
    (fun os started H enc _ => lifted os started H enc)
end Go.Proofs.YtfagifnebjkaeaaDoor
