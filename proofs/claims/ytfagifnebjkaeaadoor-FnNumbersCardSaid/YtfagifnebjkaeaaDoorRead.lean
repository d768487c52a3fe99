/- The walk of source.Read: the first bytes of what is left go into the buffer. -/
import Derived.Test.YtfagifnebjkaeaaDoorBuf
import Derived.Test.YtfagifnebjkaeaaDoorIs
import Derived.RegionTactic
import Derived.BigRegion
import Derived.Deep.RegionWith
import Derived.Laws.IdiomCopy
namespace Go.Proofs
open Go.RowKit Go.Gob

/-- the reader of GetUint at block s: its part lies in block pb, the bytes in block db; 'rest' is what was not read -/
structure Srce (w : World) (s pb db : Nat) (rest : List UInt8) : Prop where
  parts : ∃ d c, (w.cell? ⟨s, 0, none⟩ = some (.slice (some ⟨pb, 0, none⟩) 1 1) ∧ w.cell? ⟨pb, 0, none⟩ = some (.slice (some ⟨db, d, none⟩) rest.length c) ∧ rest.length ≤ c ∧ c ≤ maxLen ∧ Reads w db d rest) ∨ (∃ bs, w.cell? ⟨s, 0, none⟩ = some (.slice bs 0 c) ∧ rest = [])
  left : w.cell? ⟨s, 1, none⟩ = some (.int .i64 rest.length)
  free0 : w.frozen? ⟨s, 0, none⟩ = false
  free1 : w.frozen? ⟨s, 1, none⟩ = false
  freep : w.frozen? ⟨pb, 0, none⟩ = false
  lt : pb < w.heap.size ∧ db < w.heap.size
  ne : s ≠ pb ∧ s ≠ db ∧ pb ≠ db

def SrcReg (s pb : Nat) : Reg := fun b o => (b = s ∧ o < 2) ∨ (b = pb ∧ o = 0)

theorem run_copy8 (w : World) (bb off n cap db d rl c : Nat) (ys : List UInt8) (hn : ys.length = Nat.min rl n) (hsrc : Reads w db d ys) (hroom : Room w bb off n) (ty : TypeId) :
    (Builtin.copy_ #[23, 23] ty #[.slice (some ⟨bb, off, none⟩) n cap, .slice (some ⟨db, d, none⟩) rl c]).run Tryd.prog w = .ok (goInt ys.length) (w.setCells bb off (u8s ys)) := by
  have hle : ys.length ≤ n := by rw [hn]; exact Nat.min_le_right _ _
  have h := run_copy_cells (P := Tryd.prog) w 23 23 ty 5 bb off n cap ⟨db, d, none⟩ rl c (u8s ys) Tryd.underlying23 (by kernel_rfl) (by rw [u8s_length, hn])
    (fun j v hv => by obtain ⟨x, hx, rfl⟩ := u8s_get hv; rw [addr_add]; exact hsrc j x hx)
    (fun j hj => by rw [u8s_length] at hj; obtain ⟨⟨x, hx⟩, _⟩ := hroom j (by omega); rw [hx]; rfl)
    (fun j hj => by rw [u8s_length] at hj; obtain ⟨_, hf⟩ := hroom j (by omega); exact hf) (u8s_one ys)
  rw [u8s_length] at h
  exact h

/-- the cells that a Read into n bytes at (bb, off) touches -/
def ReadReg (s pb bb off n : Nat) : Reg := fun b o => SrcReg s pb b o ∨ (b = bb ∧ off ≤ o ∧ o < off + n)

/-- what a Read that gives ys leaves -/
def ReadPost (w : World) (s pb db bb off n : Nat) (ys zs : List UInt8) (w' : World) : Prop :=
  Srce w' s pb db zs ∧ Reads w' bb off ys ∧ Room w' bb off n ∧ Kept (ReadReg s pb bb off n) w w'

theorem read_post (w w' : World) (s pb db bb off n d c d' c' : Nat) (ys zs : List UInt8) (hne : s ≠ pb ∧ s ≠ db ∧ pb ≠ db) (hb : bb ≠ s ∧ bb ≠ pb ∧ bb ≠ db)
    (h1 : w.cell? ⟨s, 0, none⟩ = some (.slice (some ⟨pb, 0, none⟩) 1 1)) (h2 : w.cell? ⟨pb, 0, none⟩ = some (.slice (some ⟨db, d, none⟩) (ys ++ zs).length c)) (hl : w.cell? ⟨s, 1, none⟩ = some (.int .i64 (ys ++ zs).length))
    (hf0 : w.frozen? ⟨s, 0, none⟩ = false) (hf1 : w.frozen? ⟨s, 1, none⟩ = false) (hfp : w.frozen? ⟨pb, 0, none⟩ = false) (hlt : pb < w.heap.size ∧ db < w.heap.size)
    (hrd : Reads w db d (ys ++ zs)) (hroom : Room w bb off n) (hyn : ys.length ≤ n) (hcm : c ≤ maxLen) (hz : zs.length ≤ c') (hc' : c' ≤ c) (hd' : zs = [] ∨ d' = d + ys.length)
    (hw : w' = (((w.setCells bb off (u8s ys)).setCell ⟨pb, 0, none⟩ (.slice (some ⟨db, d', none⟩) zs.length c')).setCell ⟨s, 1, none⟩ (.int .i64 zs.length)).drew) : ReadPost w s pb db bb off n ys zs w' := by
  have k1 : Kept (fun b o => b = bb ∧ off ≤ o ∧ o < off + ys.length) w (w.setCells bb off (u8s ys)) := Kept.setCells bb (u8s ys) off w (fun j hj => by rw [u8s_length] at hj; exact ⟨rfl, by omega, by omega⟩)
  have r1 : Reads (w.setCells bb off (u8s ys)) bb off ys := reads_setCells ys (fun i hi => hroom i (by omega))
  have m1 : Room (w.setCells bb off (u8s ys)) bb off n := Room.setCells bb ys off w hroom
  have p1 := k1.at h2 (by omega)
  have l1 := k1.at hl (by omega)
  have s1 := k1.at h1 (by omega)
  have q0 := k1.free (World.block_lt_of_cell? w _ h1) hf0
  have q1 := k1.free (World.block_lt_of_cell? w _ hl) hf1
  have qp := k1.free hlt.1 hfp
  have d1 : Reads (w.setCells bb off (u8s ys)) db (d + ys.length) zs := by
    refine Reads.kept (w := w) ?_ k1 (fun i _ => by omega)
    intro i c hc
    have := hrd (ys.length + i) c (by rw [List.getElem?_append_right (by omega)]; simpa using hc)
    rwa [← Nat.add_assoc] at this
  have sz := k1.size
  generalize w.setCells bb off (u8s ys) = w1 at *
  have k2 : Kept (SrcReg s pb) w1 (w1.setCell ⟨pb, 0, none⟩ (.slice (some ⟨db, d', none⟩) zs.length c')) := Kept.setCell w1 pb 0 _ (.inr ⟨rfl, rfl⟩)
  have p2 : (w1.setCell ⟨pb, 0, none⟩ (.slice (some ⟨db, d', none⟩) zs.length c')).cell? ⟨pb, 0, none⟩ = some (.slice (some ⟨db, d', none⟩) zs.length c') := World.cell?_setCell_same _ _ _ p1
  have l2 : (w1.setCell ⟨pb, 0, none⟩ (.slice (some ⟨db, d', none⟩) zs.length c')).cell? ⟨s, 1, none⟩ = some (.int .i64 (ys ++ zs).length) := by
    rw [World.cell?_setCell_other _ _ _ _ (by simp <;> omega)]; exact l1
  have s2 : (w1.setCell ⟨pb, 0, none⟩ (.slice (some ⟨db, d', none⟩) zs.length c')).cell? ⟨s, 0, none⟩ = some (.slice (some ⟨pb, 0, none⟩) 1 1) := by
    rw [World.cell?_setCell_other _ _ _ _ (by simp <;> omega)]; exact s1
  generalize hw2 : w1.setCell ⟨pb, 0, none⟩ (.slice (some ⟨db, d', none⟩) zs.length c') = w2 at *
  have k3 : Kept (SrcReg s pb) w2 w' := by
    rw [hw]
    exact (Kept.setCell w2 s 1 _ (.inl ⟨rfl, by omega⟩)).trans (Kept.drew _) (fun _ _ _ h => h)
  have l3 : w'.cell? ⟨s, 1, none⟩ = some (.int .i64 zs.length) := by rw [hw, World.cell?_drew]; exact World.cell?_setCell_same _ _ _ l2
  have s3 : w'.cell? ⟨s, 0, none⟩ = some (.slice (some ⟨pb, 0, none⟩) 1 1) := by
    rw [hw, World.cell?_drew, World.cell?_setCell_other _ _ _ _ (by simp)]; exact s2
  have p3 : w'.cell? ⟨pb, 0, none⟩ = some (.slice (some ⟨db, d', none⟩) zs.length c') := by
    rw [hw, World.cell?_drew, World.cell?_setCell_other _ _ _ _ (by simp <;> omega)]; exact p2
  have k23 := k2.trans k3 (fun _ _ _ h => h)
  have lt1 : s < w1.heap.size := World.block_lt_of_cell? w1 _ s1
  have lt2 : bb < w1.heap.size ∨ n = 0 := by
    rcases Nat.eq_zero_or_pos n with h | h
    · exact .inr h
    · obtain ⟨⟨x, hx⟩, _⟩ := m1 0 h
      exact .inl (World.block_lt_of_cell? w1 _ hx)
  refine ⟨⟨⟨d', c', .inl ⟨s3, p3, hz, by omega, ?_⟩⟩, l3, k23.free lt1 q0, k23.free lt1 q1, k23.free (by omega) qp, ⟨by have := k23.size; omega, by have := k23.size; omega⟩, hne⟩, ?_, ?_, ?_⟩
  · rcases hd' with rfl | rfl
    · exact Reads.nil _ _ _
    · exact d1.kept k23 (fun i _ h => by rcases h with ⟨h, _⟩ | ⟨h, _⟩ <;> omega)
  · exact r1.kept k23 (fun i _ h => by rcases h with ⟨h, _⟩ | ⟨h, _⟩ <;> omega)
  · exact m1.kept k23 (fun i _ h => by rcases h with ⟨h, _⟩ | ⟨h, _⟩ <;> omega)
  · exact (k1.wide (G := ReadReg s pb bb off n) (fun b o _ h => .inr ⟨h.1, h.2.1, by omega⟩)).trans k23 (fun _ _ _ h => .inl h)

set_option maxRecDepth 20000 in
set_option maxHeartbeats 1000000 in
/-- Read, where a part is there that is not empty -/
theorem Read_some (w : World) (s pb db bb off n cap d c : Nat) (ys zs : List UInt8) (h1 : w.cell? ⟨s, 0, none⟩ = some (.slice (some ⟨pb, 0, none⟩) 1 1)) (h2 : w.cell? ⟨pb, 0, none⟩ = some (.slice (some ⟨db, d, none⟩) (ys ++ zs).length c))
   (hl : w.cell? ⟨s, 1, none⟩ = some (.int .i64 (ys ++ zs).length)) (hf0 : w.frozen? ⟨s, 0, none⟩ = false) (hf1 : w.frozen? ⟨s, 1, none⟩ = false) (hfp : w.frozen? ⟨pb, 0, none⟩ = false) (hne : s ≠ pb ∧ s ≠ db ∧ pb ≠ db) (hlt : pb < w.heap.size ∧ db < w.heap.size)
   (hrd : Reads w db d (ys ++ zs)) (hc : (ys ++ zs).length ≤ c) (hcm : c ≤ maxLen) (hroom : Room w bb off n) (hb : bb ≠ s ∧ bb ≠ pb ∧ bb ≠ db) (hy : ys ≠ []) (hyn : ys.length ≤ n) (hz : ys.length = n ∨ zs = []) :
   Calls Tryd.prog 59 #[.pointer (some ⟨s, 0, none⟩), .slice (some ⟨bb, off, none⟩) n cap] w fun e w' => e = .returned (.tuple #[.int .i64 ys.length, .nilIface]) ∧ ReadPost w s pb db bb off n ys zs w' := by
  have hpos : 0 < ys.length := by
    rcases Nat.eq_zero_or_pos ys.length with h | h
    · exact absurd (List.eq_nil_of_length_eq_zero h) hy
    · exact h
  have hcp := run_copy8 w bb off n cap db d (ys ++ zs).length c ys (by
      rcases hz with h | h
      · rw [h, List.length_append, h]; exact (Nat.min_eq_right (by omega)).symm
      · subst h; rw [List.append_nil]; exact (Nat.min_eq_left hyn).symm) (fun i x hx => hrd i x (by
        have hi : i < ys.length := by
          rcases Nat.lt_or_ge i ys.length with h' | h'
          · exact h'
          · rw [List.getElem?_eq_none h'] at hx; cases hx
        rw [List.getElem?_append_left hi]; exact hx)) hroom 3
  have hq1 : (w.setCells bb off (u8s ys)).cell? ⟨s, 0, none⟩ = some (.slice (some ⟨pb, 0, none⟩) 1 1) := by rw [World.cell?_setCells_out _ _ _ _ _ (by simp; omega)]; exact h1
  have hq2 : (w.setCells bb off (u8s ys)).cell? ⟨pb, 0, none⟩ = some (.slice (some ⟨db, d, none⟩) (ys ++ zs).length c) := by rw [World.cell?_setCells_out _ _ _ _ _ (by simp; omega)]; exact h2
  have hq3 : (w.setCells bb off (u8s ys)).cell? ⟨s, 1, none⟩ = some (.int .i64 (ys ++ zs).length) := by rw [World.cell?_setCells_out _ _ _ _ _ (by simp; omega)]; exact hl
  have hg1 : (w.setCells bb off (u8s ys)).frozen? ⟨s, 1, none⟩ = false := by rw [World.frozen?_setCells]; exact hf1
  have hg2 : (w.setCells bb off (u8s ys)).frozen? ⟨pb, 0, none⟩ = false := by rw [World.frozen?_setCells]; exact hfp
  have HP := Lib.hid (fun w' d' c' => read_post w w' s pb db bb off n d c d' c' ys zs hne hb h1 h2 hl hf0 hf1 hfp hlt hrd hroom hyn hcm)
  have hbits : (ys ++ zs).length ≤ 9223372036854775807 := by unfold maxLen at hcm; omega
  have hlen : ((((ys ++ zs).length : Nat) : Int) == 0) = false := by simp; omega
  have E : (((ys ++ zs).length : Nat) : Int) - ((ys.length : Nat) : Int) = ((zs.length : Nat) : Int) := by rw [List.length_append]; omega
  have E2 : (ys ++ zs).length - ys.length = zs.length := by rw [List.length_append]; omega
  have hyc : ys.length ≤ (ys ++ zs).length := by rw [List.length_append]; omega
  have hzl := Lib.hid (show c = ys.length → zs = [] from fun e => List.eq_nil_of_length_eq_zero (by rw [List.length_append] at hc; omega))
  clear hrd hroom hl hf1 hf0
  obtain ⟨hne1, hne2, hne3⟩ := hne
  generalize (ys ++ zs).length = N at *
  by_cases hcap : c = ys.length
  · have hz0 : zs = [] := hzl.out hcap
    subst hz0
    subst hcap
    obtain rfl : N = ys.length := by omega
    simp only [List.length_nil] at E E2
    go_enter Tryd.func59, Tryd.ntmps59
    go_wp2_with fail
    refine wp_loop_rounds 1 ?_
    rw [rounds_succ]
    go_wp2_with fail
    generalize hw1 : w.setCells bb off (u8s ys) = w1 at *
    clear hw1
    go_region
    go_wp2_with fail
    go_ret2
    exact ⟨rfl, HP.out _ d 0 (Nat.le_refl _) (Nat.zero_le _) (Or.inl trivial) rfl⟩
  · go_enter Tryd.func59, Tryd.ntmps59
    go_wp2_with fail
    refine wp_loop_rounds 1 ?_
    rw [rounds_succ]
    go_wp2_with fail
    generalize hw1 : w.setCells bb off (u8s ys) = w1 at *
    clear hw1
    go_region
    go_wp2_with fail
    go_ret2
    exact ⟨rfl, HP.out _ (d + ys.length) (c - ys.length) (by omega) (by omega) (.inr rfl) rfl⟩
end Go.Proofs
