/- ZZGet over bytes: what it returns, told by the reference. -/
import Derived.Test.YtfagifnebjkaeaaDoorErrs
namespace Go.Proofs
open Go.RowKit Go.Gob

/-- what GetUint's first part leaves: a number, how many bytes are left, an error that code knows -/
def GetPost (B : Nat) (w : World) (s : Nat) (bs : List UInt8) (x n code x' : Nat) (ev : Value) (w' : World) : Prop :=
  ∃ r : Nat, w'.cell? ⟨s, 1, none⟩ = some (.int .i64 r) ∧ r ≤ bs.length ∧ Below B w w' ∧ CodeOK w' ev code ∧ (code = 0 → x' = x ∧ r + n = bs.length)

def nineZeros (w : World) : World := w.alloc (.cells (Array.replicate 9 (.int .u8 0)) 5)

theorem nineRoom (w : World) : Room (nineZeros w) w.heap.size 0 9 := by
  intro i hi
  unfold nineZeros
  constructor
  · refine ⟨0, ?_⟩
    rw [World.cell?_alloc_new]
    simp [hi, u8v]
  · rw [World.frozen?_alloc_new]

set_option maxHeartbeats 1000000 in
theorem ZZGet_any (w : World) (s pb db B : Nat) (ea ua : Addr) (bs : List UInt8) (x n code : Nat) (ht : Told bs x n code) (hS : Srce w s pb db bs) (hE : Errs B w ea ua) (hB : B ≤ s ∧ B ≤ pb) :
   Calls Tryd.prog 18 #[.iface 38 (.pointer (some ⟨s, 0, none⟩))] w fun e w' => ∃ (x' : Nat) (m : Int) (ev : Value), e = .returned (.tuple #[.int .u64 x', .int .i64 m, ev]) ∧ GetPost B w s bs x n code x' ev w' := by
  have hsl : s < w.heap.size := World.block_lt_of_cell? w _ hS.left
  have hlt := hS.lt
  have h2 := hE.two
  have hal : Kept (fun _ _ => False) w (nineZeros w) := Kept.alloc w _
  have hS1 : Srce (nineZeros w) s pb db bs := hS.kept hal (fun _ _ _ h => h) (fun _ h => h)
  have hE1 : Errs B (nineZeros w) ea ua := hE.below (hal.below (by omega) (fun _ _ _ h => h))
  have hroom := nineRoom w
  have hb : w.heap.size ≠ s ∧ w.heap.size ≠ pb ∧ w.heap.size ≠ db := by omega
  have hs0 : 2 ≤ s ∧ 2 ≤ pb ∧ 2 ≤ w.heap.size := by omega
  have fin : ∀ (X m : Int) (ev : Value) (x' : Nat) {w' : World} {rest : List UInt8}, X = x' → Srce w' s pb db rest → Kept (ReadReg s pb w.heap.size 0 9) (nineZeros w) w' → rest.length ≤ bs.length →
      (Below B (nineZeros w) w' → CodeOK w' ev code) → (code = 0 → x' = x ∧ rest.length + n = bs.length) →
      ∃ x1 m1 ev1, Ending.returned (Value.tuple #[.int .u64 X, .int .i64 m, ev]) = Ending.returned (.tuple #[x1, m1, ev1]) ∧ ∃ (x2 : Nat) (m2 : Int) (ev2 : Value), Ending.returned (.tuple #[.int .u64 X, .int .i64 m, ev]) = .returned (.tuple #[.int .u64 x2, .int .i64 m2, ev2]) ∧ GetPost B w s bs x n code x2 ev2 w' := by
    intro X m ev x' w' rest hX hS' hk hr hc h0
    have hbe : Below B (nineZeros w) w' := hk.below (by simp [nineZeros]; omega) (by rintro b o hb' ((⟨h, _⟩ | ⟨h, _⟩) | ⟨h, _⟩) <;> omega)
    subst hX
    exact ⟨_, _, _, rfl, _, _, _, rfl, rest.length, hS'.left, hr, (hal.below (by omega) (fun _ _ _ h => h)).trans hbe, hc hbe, h0⟩
  refine ZZGet_of w _ _ ?_
  cases ht with
  | fine _ _ hcut htk =>
    cases htk with
    | small c zs hc =>
      refine (dec_small (nineZeros w) s pb db _ hroom hb c zs hS1 hc).mono ?_
      rintro e w' ⟨rfl, hS', hk⟩
      exact fin _ _ _ _ rfl hS' hk (by simp) (fun _ => CodeOK.nil _) (fun _ => ⟨rfl, by simp⟩)
    | big c ys ts hc hc2 hy =>
      refine (dec_full (nineZeros w) s pb db _ hroom hb c ys ts hS1 hc hc2 hy).mono ?_
      rintro e w' ⟨rfl, hS', hk⟩
      exact fin _ _ _ _ rfl hS' hk (by simp; omega) (fun _ => CodeOK.nil _) (fun _ => ⟨rfl, by simp; omega⟩)
  | fault _ _ _ hcut h0 htk =>
    cases htk with
    | nil =>
      refine (dec_end (nineZeros w) s pb db _ hs0 ea hE1.e0 hS1).mono ?_
      rintro e w' ⟨rfl, hS', hk⟩
      exact fin _ _ _ 0 rfl hS' hk (by simp) (fun h => CodeOK.eof (hE1.below h) (by have := hk.size; simp [nineZeros] at this; omega)) (fun h => by omega)
    | small => exact absurd rfl h0
    | big => exact absurd rfl h0
    | bad c zs hc hc2 =>
      refine (dec_bad (nineZeros w) s pb db _ hroom hb c zs hS1 hc hc2).mono ?_
      rintro e w' ⟨g, rfl, hg, hgl, hS', hk⟩
      exact fin _ _ _ 0 rfl hS' hk (by simp) (fun h => CodeOK.bad (hE1.below h) (by simp [nineZeros] at hgl; omega) hg) (fun h => by omega)
  | cut hcut =>
    have hu := fun (w' : World) (hk : w.heap.size ≤ w'.heap.size) (h : Below B (nineZeros w) w') => CodeOK.ueof (hE1.below h) (show B ≤ w'.heap.size by omega)
    cases bs with
    | nil => simp [isCut] at hcut
    | cons c zs =>
      have hc2 : 256 - c.toNat ≤ 8 ∧ zs.length < 256 - c.toNat := by
        simp [isCut, hd0] at hcut
        omega
      cases zs with
      | nil =>
        refine (dec_cut0 (nineZeros w) s pb db _ hroom hb hs0 ea ua hE1.e0 hE1.e1 c hS1 (by omega) hc2.1).mono ?_
        rintro e w' ⟨rfl, hS', hk⟩
        exact fin _ _ _ 0 rfl hS' hk (by simp) (hu w' (by have := hk.size; simp [nineZeros] at this; omega)) (fun h => by omega)
      | cons c2 zs =>
        obtain ⟨ca, ta, he⟩ := hE1.he
        obtain ⟨cb, tb, hu'⟩ := hE1.hu
        refine (dec_cut (nineZeros w) s pb db _ hroom hb hs0 ea ua hE1.e0 hE1.e1 B ⟨hE.two, hB.1, hB.2, by omega⟩ hE.lte hE.ltu hE.ne _ _ _ _ hu' he c (c2 :: zs) hS1 (by omega) hc2.1 (by simp) hc2.2).mono ?_
        rintro e w' ⟨k, rfl, hS', hk⟩
        exact fin _ _ _ 0 rfl hS' hk (by simp) (hu w' (by have := hk.size; simp [nineZeros] at this; omega)) (fun h => by omega)
end Go.Proofs
