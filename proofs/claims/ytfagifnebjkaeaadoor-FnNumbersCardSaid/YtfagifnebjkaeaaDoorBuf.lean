/- gob's write-only buffer (encBuffer) in memory, and what an append to it does. -/
import Derived.Test.YtfagifnebjkaeaaDoorKept
import Derived.Test.YtfagifnebjkaeaaDoorMem
import Derived.Deep.AppendSrc
namespace Go.Proofs
open Go.RowKit Go.Gob

/-- n cells from (b, o) on are there, hold bytes, and may be written -/
def Room (w : World) (b o n : Nat) : Prop := ∀ i, i < n → (∃ c : UInt8, w.cell? ⟨b, o + i, none⟩ = some (u8v c)) ∧ w.frozen? ⟨b, o + i, none⟩ = false

/-- the cells from (b, o) on read xs -/
def Reads (w : World) (b o : Nat) (xs : List UInt8) : Prop := ∀ i c, xs[i]? = some c → w.cell? ⟨b, o + i, none⟩ = some (u8v c)

theorem Reads.nil (w : World) (b o : Nat) : Reads w b o [] := fun i c h => by simp at h

theorem Reads.append {w : World} {b o : Nat} {xs ys : List UInt8} (h : Reads w b o xs) (k : Reads w b (o + xs.length) ys) : Reads w b o (xs ++ ys) := by
  intro i c hc
  by_cases hi : i < xs.length
  · rw [List.getElem?_append_left hi] at hc
    exact h i c hc
  · rw [List.getElem?_append_right (by omega)] at hc
    have := k (i - xs.length) c hc
    rwa [show o + xs.length + (i - xs.length) = o + i by omega] at this

theorem Reads.kept {F : Reg} {w w' : World} {b o : Nat} {xs : List UInt8} (h : Reads w b o xs) (hk : Kept F w w') (hn : ∀ i, i < xs.length → ¬ F b (o + i)) : Reads w' b o xs := by
  intro i c hc
  have hi : i < xs.length := by
    rcases Nat.lt_or_ge i xs.length with h' | h'
    · exact h'
    · rw [List.getElem?_eq_none h'] at hc; cases hc
  exact hk.at (h i c hc) (hn i hi)

theorem Room.kept {F : Reg} {w w' : World} {b o n : Nat} (h : Room w b o n) (hk : Kept F w w') (hn : ∀ i, i < n → ¬ F b (o + i)) : Room w' b o n := by
  intro i hi
  obtain ⟨⟨c, hc⟩, hf⟩ := h i hi
  exact ⟨⟨c, hk.at hc (hn i hi)⟩, hk.free (World.block_lt_of_cell? w _ hc) hf⟩

theorem Room.setCell {w : World} {b o n : Nat} (h : Room w b o n) (b' o' : Nat) (c : UInt8) : Room (w.setCell ⟨b', o', none⟩ (u8v c)) b o n := by
  intro i hi
  obtain ⟨⟨d, hd⟩, hf⟩ := h i hi
  refine ⟨?_, by rw [World.frozen?_setCell]; exact hf⟩
  by_cases e : (⟨b', o', none⟩ : Addr) = ⟨b, o + i, none⟩
  · rw [e]; exact ⟨c, World.cell?_setCell_same _ _ _ hd⟩
  · exact ⟨d, by rw [World.cell?_setCell_other _ _ _ _ e]; exact hd⟩

theorem Room.setCells {b o n : Nat} (b' : Nat) : ∀ (ys : List UInt8) (o' : Nat) (w : World), Room w b o n → Room (w.setCells b' o' (u8s ys)) b o n
  | [], _, _, h => h
  | y :: r, o', w, h => by
    have := Room.setCells b' r (o' + 1) _ (h.setCell b' o' y)
    simpa [u8s, World.setCells] using this

/-- a slice of bytes: where its array lies (block and offset), how long it is -/
def Src8 (w : World) (v : Value) (xs : List UInt8) : Prop :=
  (∃ c, v = .slice none 0 c ∧ xs = []) ∨ ∃ b o c, v = .slice (some ⟨b, o, none⟩) xs.length c ∧ Reads w b o xs

theorem u8s_get {xs : List UInt8} {i : Nat} {u : Value} (h : (u8s xs)[i]? = some u) : ∃ c, xs[i]? = some c ∧ u = u8v c := by
  unfold u8s at h
  rw [List.getElem?_map] at h
  cases hx : xs[i]? with
  | none => rw [hx] at h; simp at h
  | some c => rw [hx] at h; simp at h; exact ⟨c, rfl, h.symm⟩

theorem addr_add (b o i : Nat) : (⟨b, o, none⟩ : Addr).add i = ⟨b, o + i, none⟩ := by
  unfold Addr.add; split <;> simp_all

theorem Src8.src {w : World} {v : Value} {xs : List UInt8} (h : Src8 w v xs) : Src Tryd.prog 1 23 v xs.length (u8s xs) w := by
  rcases h with ⟨c, rfl, rfl⟩ | ⟨b, o, c, rfl, hr⟩
  · exact Src.ofNil w Tryd.underlying23 c
  · refine Src.ofSlice w Tryd.underlying23 ⟨b, o, none⟩ xs.length c (u8s xs) (by simp [u8s]) (fun j u hu => ?_) (u8s_one xs)
    obtain ⟨c, hc, rfl⟩ := u8s_get hu
    rw [addr_add]
    exact hr j c hc

/-- what the slice in an encBuffer at (b, o) is: nothing, the scratch of the buffer itself, or a row of its own (block g) -/
def Data (w : World) (b o : Nat) (G : Option Nat) (v : Value) (xs : List UInt8) : Prop :=
  (v = .slice none 0 0 ∧ xs = [] ∧ G = none) ∨
  (v = .slice (some ⟨b, o + 1, none⟩) xs.length 64 ∧ xs.length ≤ 64 ∧ Reads w b (o + 1) xs ∧ G = none) ∨
  (∃ g cap, v = .slice (some ⟨g, 0, none⟩) xs.length cap ∧ G = some g ∧ g ≠ b ∧ xs.length ≤ cap ∧ cap ≤ maxLen ∧ Reads w g 0 xs ∧ Room w g 0 cap)

/-- an encBuffer at (b, o): G is the block of its array where that is one of its own; it holds xs -/
structure Buf (w : World) (b o : Nat) (G : Option Nat) (xs : List UInt8) : Prop where
  scr : Room w b (o + 1) 64
  free : w.frozen? ⟨b, o, none⟩ = false
  data : ∃ v, w.cell? ⟨b, o, none⟩ = some v ∧ Data w b o G v xs

/-- the cells that belong to a buffer -/
def BufReg (b o : Nat) (G : Option Nat) : Reg := fun b' o' => (b' = b ∧ o ≤ o' ∧ o' < o + 65) ∨ G = some b'

/-- those that an append touches -/
def ArrReg (b o : Nat) (G : Option Nat) : Reg := fun b' o' => (b' = b ∧ o + 1 ≤ o' ∧ o' < o + 65) ∨ G = some b'

theorem Data.kept {F : Reg} {w w' : World} {b o : Nat} {G : Option Nat} {v : Value} {xs : List UInt8} (h : Data w b o G v xs) (hk : Kept F w w')
    (hn : ∀ b' o', ArrReg b o G b' o' → ¬ F b' o') : Data w' b o G v xs := by
  rcases h with h | ⟨rfl, hl, hr, hG⟩ | ⟨g, cap, rfl, hG, hg, hc, hm, hr, hroom⟩
  · exact .inl h
  · exact .inr (.inl ⟨rfl, hl, hr.kept hk (fun i hi => hn _ _ (.inl ⟨rfl, by omega, by omega⟩)), hG⟩)
  · exact .inr (.inr ⟨g, cap, rfl, hG, hg, hc, hm, hr.kept hk (fun i _ => hn _ _ (.inr hG)), hroom.kept hk (fun i _ => hn _ _ (.inr hG))⟩)

theorem Buf.kept {F : Reg} {w w' : World} {b o : Nat} {G : Option Nat} {xs : List UInt8} (h : Buf w b o G xs) (hk : Kept F w w')
    (hn : ∀ b' o', BufReg b o G b' o' → ¬ F b' o') : Buf w' b o G xs := by
  obtain ⟨v, hv, hd⟩ := h.data
  refine ⟨h.scr.kept hk (fun i hi => hn _ _ (.inl ⟨rfl, by omega, by omega⟩)), hk.free (World.block_lt_of_cell? w _ hv) h.free, v, hk.at hv (hn _ _ (.inl ⟨rfl, by omega, by omega⟩)), hd.kept hk ?_⟩
  rintro b' o' (⟨rfl, h1, h2⟩ | h1)
  · exact hn _ _ (.inl ⟨rfl, by omega, h2⟩)
  · exact hn _ _ (.inr h1)

theorem reads_setCells {w : World} {b o : Nat} (ys : List UInt8) (hr : Room w b o ys.length) : Reads (w.setCells b o (u8s ys)) b o ys := by
  intro i c hc
  have hi : i < ys.length := by
    rcases Nat.lt_or_ge i ys.length with h' | h'
    · exact h'
    · rw [List.getElem?_eq_none h'] at hc; cases hc
  rw [World.cell?_setCells_in b (u8s ys) o w (fun j hj => by
    obtain ⟨⟨d, hd⟩, _⟩ := hr j (by simpa [u8s] using hj)
    simp [hd]) i (by simpa [u8s] using hi)]
  rw [List.getElem?_eq_getElem hi] at hc
  simp [u8s] at hc ⊢
  rw [hc]

/-- APPEND to a buffer's slice, at the level of the operation's run -/
theorem run_append_buf (ty : TypeId) {w : World} {b o : Nat} {G : Option Nat} {v x : Value} {xs ys : List UInt8} (hs : Room w b (o + 1) 64) (hd : Data w b o G v xs) (hx : Src8 w x ys)
    (hl : xs.length + ys.length ≤ 1000000000000) :
    ∃ v' w' G', (Builtin.append_ #[23, 23] ty #[v, x]).run Tryd.prog w = .ok v' w' ∧ Data w' b o G' v' (xs ++ ys) ∧ Room w' b (o + 1) 64 ∧ Kept (ArrReg b o G) w w' ∧
      (G' = G ∨ ∃ g, G' = some g ∧ w.heap.size ≤ g ∧ g < w'.heap.size) := by
  obtain ⟨i0, hi, hz0, hz1, hz2⟩ := info_parts Tryd.info5
  have hsrc := hx.src
  rw [← hz1] at hsrc
  have grow : ∀ (base : Option Addr) (cap : Nat), v = .slice base xs.length cap → cap < xs.length + ys.length →
      ((Builtin.firstCells i0.size xs.length (.slice base xs.length cap)).run Tryd.prog w.drew = .ok (u8s xs).toArray w.drew) →
      ∃ v' w' G', (Builtin.append_ #[23, 23] ty #[v, x]).run Tryd.prog w = .ok v' w' ∧ Data w' b o G' v' (xs ++ ys) ∧ Room w' b (o + 1) 64 ∧ Kept (ArrReg b o G) w w' ∧
      (G' = G ∨ ∃ g, G' = some g ∧ w.heap.size ≤ g ∧ g < w'.heap.size) := by
    intro base cap hv hcap hf
    subst hv
    have hfit : Builtin.nextslicecap (xs.length + ys.length) cap * i0.bytes ≤ 281474976710656 := by
      rw [hz2]; exact growslice_fits hcap (by omega)
    have hr := run_append_grow_src w 23 23 ty 5 i0 (.int .u8 0) Tryd.underlying23 hi hz0 base xs.length cap (u8s xs) hf x ys.length (u8s ys) hsrc hcap (by omega) hfit
    have hge := grownCap_ge w (xs.length + ys.length) cap 5
    have hcm := grownCap_le_maxLen w (xs.length + ys.length) cap 5 (by unfold maxLen; omega)
    have hcells : ∀ k, (hk : k < grownCap w (xs.length + ys.length) cap 5) → ∃ c : UInt8, ((u8s xs ++ u8s ys).toArray ++ Builtin.zeroCells (Value.int .u8 0).cells (grownCap w (xs.length + ys.length) cap 5 - (xs.length + ys.length)))[k]? = some (u8v c) ∧ (∀ d, (xs ++ ys)[k]? = some d → d = c) := by
      intro k hk
      by_cases hlt : k < (xs ++ ys).length
      · refine ⟨(xs ++ ys)[k], ?_, fun d hd => by rw [List.getElem?_eq_getElem hlt] at hd; simpa using hd.symm⟩
        rw [← u8s_append]
        rw [Array.getElem?_append_left (by simpa [u8s] using hlt)]
        unfold u8s
        rw [List.getElem?_toArray, List.getElem?_map, List.getElem?_eq_getElem hlt]
        rfl
      · refine ⟨0, ?_, fun d hd => by rw [List.getElem?_eq_none (by omega)] at hd; cases hd⟩
        rw [← u8s_append]
        simp only [List.length_append] at hlt
        rw [Array.getElem?_append_right (by simp [u8s]; omega)]
        simp only [Builtin.zeroCells, Value.cells, List.size_toArray, u8s_length, List.length_append, List.length_cons, List.length_nil]
        rw [Array.getElem?_map, Array.getElem?_range, if_pos (by simp; omega)]
        simp [u8v, Nat.mod_one]
    refine ⟨_, _, some w.heap.size, hr, .inr (.inr ⟨w.heap.size, _, by rw [List.length_append], rfl, ?_, by rw [List.length_append]; exact hge, hcm, ?_, ?_⟩), ?_, ?_, .inr ⟨_, rfl, Nat.le_refl _, by simp⟩⟩
    · obtain ⟨⟨c, hc⟩, _⟩ := hs 0 (by omega)
      have := World.block_lt_of_cell? w _ hc
      simp at this
      omega
    · intro k c hc
      have hk : k < (xs ++ ys).length := by
        rcases Nat.lt_or_ge k (xs ++ ys).length with h' | h'
        · exact h'
        · rw [List.getElem?_eq_none h'] at hc; cases hc
      obtain ⟨d, hd, he⟩ := hcells k (by rw [List.length_append] at hk; omega)
      rw [Nat.zero_add]
      have hnew := World.cell?_alloc_new w.drew ((u8s xs ++ u8s ys).toArray ++ Builtin.zeroCells (Value.int .u8 0).cells (grownCap w (xs.length + ys.length) cap 5 - (xs.length + ys.length))) 5 k
      rw [World.size_drew] at hnew
      rw [hnew, hd, he c hc]
    · intro k hk
      obtain ⟨d, hd, _⟩ := hcells k hk
      rw [Nat.zero_add]
      have hnew := World.cell?_alloc_new w.drew ((u8s xs ++ u8s ys).toArray ++ Builtin.zeroCells (Value.int .u8 0).cells (grownCap w (xs.length + ys.length) cap 5 - (xs.length + ys.length))) 5 k
      rw [World.size_drew] at hnew
      refine ⟨⟨d, by rw [hnew, hd]⟩, ?_⟩
      have hfr := World.frozen?_alloc_new w.drew ((u8s xs ++ u8s ys).toArray ++ Builtin.zeroCells (Value.int .u8 0).cells (grownCap w (xs.length + ys.length) cap 5 - (xs.length + ys.length))) 5 k
      rwa [World.size_drew] at hfr
    · exact hs.kept ((Kept.drew w).trans (Kept.alloc w.drew _) (fun _ _ _ h => h)) (F := fun _ _ => False) (fun _ _ h => h)
    · exact (Kept.drew w).trans (Kept.alloc w.drew _) (fun _ _ _ h => h)
  have room : ∀ (bb oo cap : Nat), v = .slice (some ⟨bb, oo, none⟩) xs.length cap → xs.length + ys.length ≤ cap → Room w bb oo cap → Reads w bb oo xs → (∀ j, j < cap → ArrReg b o G bb (oo + j)) →
      ∃ w', (Builtin.append_ #[23, 23] ty #[v, x]).run Tryd.prog w = .ok (.slice (some ⟨bb, oo, none⟩) (xs ++ ys).length cap) w' ∧ Reads w' bb oo (xs ++ ys) ∧ Room w' bb oo cap ∧ Room w' b (o + 1) 64 ∧ Kept (ArrReg b o G) w w' := by
    intro bb oo cap hv hcap hroom hreads hreg
    subst hv
    have hr := run_append_room_src w 23 23 ty 5 i0 Tryd.underlying23 hi bb oo xs.length cap x ys.length (u8s ys) hsrc hcap
      (fun j hj => by
        rw [u8s_length] at hj
        obtain ⟨⟨c, hc⟩, _⟩ := hroom (xs.length + j) (by omega)
        rw [hz1, Nat.mul_one, Nat.add_assoc, hc]; rfl)
      (fun j hj => by
        rw [u8s_length] at hj
        obtain ⟨_, hf⟩ := hroom (xs.length + j) (by omega)
        rw [hz1, Nat.mul_one, Nat.add_assoc]; exact hf)
    rw [hz1, Nat.mul_one] at hr
    have hk : Kept (fun b' o' => b' = bb ∧ oo + xs.length ≤ o' ∧ o' < oo + xs.length + ys.length) w (w.setCells bb (oo + xs.length) (u8s ys)) :=
      Kept.setCells bb (u8s ys) _ w (fun j hj => by rw [u8s_length] at hj; exact ⟨rfl, by omega, by omega⟩)
    have hroom2 : Room w bb (oo + xs.length) ys.length := fun i hi => by
      have := hroom (xs.length + i) (by omega)
      rwa [← Nat.add_assoc] at this
    refine ⟨_, by rw [hr, List.length_append], (hreads.kept hk (fun i hi h => by omega)).append (reads_setCells ys hroom2), Room.setCells _ ys _ w hroom, Room.setCells _ ys _ w hs, hk.wide (fun b' o' _ h => ?_)⟩
    obtain ⟨rfl, h1, h2⟩ := h
    have := hreg (o' - oo) (by omega)
    rwa [show oo + (o' - oo) = o' by omega] at this
  rcases hd with ⟨rfl, rfl, rfl⟩ | ⟨rfl, hle, hr, rfl⟩ | ⟨g, cap, rfl, rfl, hg, hc, hm, hr, hroom⟩
  · by_cases h0 : ys.length = 0
    · have hy : ys = [] := List.eq_nil_of_length_eq_zero h0
      subst hy
      refine ⟨.slice none 0 0, w, none, ?_, .inl ⟨rfl, rfl, rfl⟩, hs, Kept.refl _ _, .inl rfl⟩
      have hlen := hsrc.len w
      have hcells := hsrc.cells
      simp only [List.length_nil, u8s, List.map_nil] at hlen hcells
      simp [Builtin.append_, run_underlying Tryd.underlying23, sizeOf, typeInfo, hi, hlen, hcells]
    · exact grow none 0 rfl (by simp; omega) (run_firstCells_none _ _ _ _ _)
  · by_cases hcap : xs.length + ys.length ≤ 64
    · obtain ⟨w', h1, h2, _, h4, h5⟩ := room b (o + 1) 64 rfl hcap hs hr (fun j hj => .inl ⟨rfl, by omega, by omega⟩)
      exact ⟨_, w', none, h1, .inr (.inl ⟨rfl, by rw [List.length_append]; exact hcap, h2, rfl⟩), h4, h5, .inl rfl⟩
    · refine grow _ 64 rfl (by omega) ?_
      rw [hz1]
      exact run_firstCells_some w.drew 1 xs.length ⟨b, o + 1, none⟩ xs.length 64 (u8s xs) (by simp [u8s]) (fun j u hu => by
        obtain ⟨c, hc, rfl⟩ := u8s_get hu
        rw [addr_add, World.cell?_drew]; exact hr j c hc)
  · by_cases hcap : xs.length + ys.length ≤ cap
    · obtain ⟨w', h1, h2, h3, h4, h5⟩ := room g 0 cap rfl hcap hroom hr (fun j hj => .inr rfl)
      exact ⟨_, w', some g, h1, .inr (.inr ⟨g, cap, rfl, rfl, hg, by rw [List.length_append]; exact hcap, hm, h2, h3⟩), h4, h5, .inl rfl⟩
    · refine grow _ cap rfl (by omega) ?_
      rw [hz1]
      exact run_firstCells_some w.drew 1 xs.length ⟨g, 0, none⟩ xs.length cap (u8s xs) (by simp [u8s]) (fun j u hu => by
        obtain ⟨c, hc, rfl⟩ := u8s_get hu
        rw [addr_add, World.cell?_drew]; exact hr j c hc)

/-- the store of what an append gave back -/
theorem Buf.stored {w : World} {b o : Nat} {G : Option Nat} {v u : Value} {xs : List UInt8} (hr : Room w b (o + 1) 64) (hf : w.frozen? ⟨b, o, none⟩ = false) (hc : w.cell? ⟨b, o, none⟩ = some u)
    (hd : Data w b o G v xs) (hG : G ≠ some b) : Buf (w.setCell ⟨b, o, none⟩ v) b o G xs := by
  have hk : Kept (fun b' o' => b' = b ∧ o' = o) w (w.setCell ⟨b, o, none⟩ v) := Kept.setCell w b o v ⟨rfl, rfl⟩
  refine ⟨hr.kept hk (fun i _ h => by omega), by rw [World.frozen?_setCell]; exact hf, v, World.cell?_setCell_same _ _ _ hc, hd.kept hk ?_⟩
  rintro b' o' (⟨rfl, h1, h2⟩ | h1) ⟨h3, h4⟩
  · omega
  · exact hG (by rw [h1, h3])

theorem Data.ne {w : World} {b o : Nat} {G : Option Nat} {v : Value} {xs : List UInt8} (h : Data w b o G v xs) : G ≠ some b := by
  rcases h with ⟨_, _, rfl⟩ | ⟨_, _, _, rfl⟩ | ⟨g, cap, _, rfl, hg, _⟩
  · simp
  · simp
  · simpa using hg

theorem Buf.lt {w : World} {b o : Nat} {G : Option Nat} {xs : List UInt8} (h : Buf w b o G xs) : b < w.heap.size := by
  obtain ⟨v, hv, _⟩ := h.data
  exact World.block_lt_of_cell? w _ hv

/-- what a call that appends to a buffer does to the world -/
def BufGrown (w : World) (b o : Nat) (G : Option Nat) (xs : List UInt8) (w' : World) : Prop :=
  ∃ G', Buf w' b o G' xs ∧ Kept (BufReg b o G) w w' ∧ (G' = G ∨ ∃ g, G' = some g ∧ w.heap.size ≤ g ∧ g < w'.heap.size)

theorem BufGrown.of {w w' : World} {b o : Nat} {G G' : Option Nat} {v u : Value} {xs : List UInt8} (hr : Room w' b (o + 1) 64) (hc : w.cell? ⟨b, o, none⟩ = some u) (hf : w.frozen? ⟨b, o, none⟩ = false) (hGb : G ≠ some b)
    (hd : Data w' b o G' v xs) (hk : Kept (ArrReg b o G) w w') (hG : G' = G ∨ ∃ g, G' = some g ∧ w.heap.size ≤ g ∧ g < w'.heap.size) : BufGrown w b o G xs (w'.setCell ⟨b, o, none⟩ v) := by
  have hb := World.block_lt_of_cell? w _ hc
  have hc' : w'.cell? ⟨b, o, none⟩ = some u := hk.at hc (by
    rintro (⟨_, h1, _⟩ | h)
    · omega
    · exact hGb h)
  refine ⟨G', Buf.stored hr (hk.free hb hf) hc' hd hd.ne, ?_, by simpa using hG⟩
  have hk2 : Kept (BufReg b o G) w w' := hk.wide (by
    rintro b' o' _ (⟨rfl, h1, h2⟩ | h)
    · exact .inl ⟨rfl, by omega, h2⟩
    · exact .inr h)
  exact hk2.trans (Kept.setCell w' b o v (.inl ⟨rfl, Nat.le_refl _, by omega⟩)) (fun _ _ _ h => h)

theorem Data.slice {w : World} {b o : Nat} {G : Option Nat} {v : Value} {xs : List UInt8} (h : Data w b o G v xs) : ∃ bs cap, v = .slice bs xs.length cap := by
  rcases h with ⟨rfl, rfl, _⟩ | ⟨rfl, _⟩ | ⟨g, cap, rfl, _⟩
  · exact ⟨_, _, rfl⟩
  · exact ⟨_, _, rfl⟩
  · exact ⟨_, _, rfl⟩

/-- APPEND to a buffer's slice, for the walk: what is to be stored at (b, o) then -/
theorem wpl_append_buf {ops : Array Oper} {rest : List Oper} {op : Oper} {a : Act} {Q : Exit → Act → World → Prop} (hgd : op.guard = none) (s x : Operand)
    (ho : op.op = .call { callee := .builtin .append, args := #[s, x], argTypes := #[23, 23] }) {w : World} {b o : Nat} {G : Option Nat} (v u : Value) {xs ys : List UInt8}
    (hs : a.eval s = v) (hx : a.eval x = u) (hr : Room w b (o + 1) 64) (hc : w.cell? ⟨b, o, none⟩ = some v) (hf : w.frozen? ⟨b, o, none⟩ = false) (hd : Data w b o G v xs) (hu : Src8 w u ys) (hl : xs.length + ys.length ≤ 1000000000000)
    (h : ∀ bs n cap w', w'.cell? ⟨b, o, none⟩ = some v → w'.frozen? ⟨b, o, none⟩ = false → BufGrown w b o G (xs ++ ys) (w'.setCell ⟨b, o, none⟩ (.slice bs n cap)) → wpList Tryd.prog ops Q rest (a.put op.dst (.slice bs n cap)) w') :
    wpList Tryd.prog ops Q (op :: rest) a w := by
  obtain ⟨v', w', G', hrun, h1, h2, h3, h4⟩ := run_append_buf op.type hr hd hu hl
  obtain ⟨bs, cap, rfl⟩ := h1.slice
  have hb := World.block_lt_of_cell? w _ hc
  have hne := hd.ne
  have hc' : w'.cell? ⟨b, o, none⟩ = some v := h3.at hc (by
    rintro (⟨_, h1, _⟩ | h)
    · omega
    · exact hne h)
  refine wpList_plain hgd fun K hK => ?_
  unfold Oper.wp execOp
  simp only [ho, resolve, invoke, builtin, Sem.run_bind, Sem.run_pure, Result.andThen_ok, List.map_toArray, List.map_cons, List.map_nil, hs, hx, hrun]
  exact hK _ _ (h _ _ _ _ hc' (h3.free hb hf) (BufGrown.of h2 hc hf hne h1 h3 h4))

end Go.Proofs
