import Derived.Test.Qxb6617334aOwnOwn
namespace Go.Proofs.Qxb6617334a.Own
open Go.RowKit
set_option linter.unusedSimpArgs false

/-- Where entry k's bytes begin in the buffer; the buffer's bytes. -/
def sm (E : Nat → Ent) : Nat → Nat
  | 0 => 0
  | k + 1 => sm E k + ((E k).vl + (E k).rl)
def all (E : Nat → Ent) : Nat → List Value
  | 0 => []
  | k + 1 => all E k ++ bcells (E k).vz ++ bcells (E k).rz

theorem sm_tot (E : Nat → Ent) (k : Nat) : sm E k ≤ tot E k := by
  induction k with
  | zero => exact Nat.le_refl _
  | succ k ih => simp only [sm, tot]; omega
theorem sm_lt {E : Nat → Ent} {i j : Nat} (h : i < j) : sm E i + ((E i).vl + (E i).rl) ≤ sm E j := by
  induction j with
  | zero => omega
  | succ j ih =>
    by_cases e : i = j
    · subst e; exact Nat.le_refl _
    · have := ih (by omega); simp only [sm]; omega

/-- Entry i behind the call: its bytes in the buffer g. -/
def E2 (E : Nat → Ent) (g : Nat) (i : Nat) : Ent := { E i with va := oA g (sm E i) (E i).vl, vc := (E i).vl, ra := oA g (sm E i + (E i).vl) (E i).rl, rc := (E i).rl }

theorem SliceAt.below {w' : World} {lim B : Nat} {a : Option Addr} {l : Nat} {z : List Int} {w0 : World} (h : SliceAt w0 lim a l z) (hb : Below B w0 w') (hl : lim ≤ B) : SliceAt w' lim a l z :=
  ⟨h.1, h.2.1, fun h0 => by
    obtain ⟨b, off, e, hb', hc⟩ := h.2.2 h0
    exact ⟨b, off, e, hb', fun j hj => (hb.cell (by show b < B; omega)).trans (hc j hj)⟩⟩

theorem SliceAt.touch {w w' : World} {lim g K : Nat} {a : Option Addr} {l : Nat} {z : List Int} (h : SliceAt w lim a l z) (ht : Touch w w' g K) (hg : lim ≤ g) (hK : lim ≤ K) : SliceAt w' lim a l z :=
  ⟨h.1, h.2.1, fun h0 => by
    obtain ⟨b, off, e, hb', hc⟩ := h.2.2 h0
    exact ⟨b, off, e, hb', fun j hj => ht.cell (hc j hj) (by show b ≠ g; omega) (by show b ≠ K; omega)⟩⟩

theorem make39 (c : Nat) (hc : c ≤ 1048576) : ∀ w : World, (Instr.makeSlice 39 (.int .i64 0) (.int .i64 (c : Int))).run Try.prog w = .ok (.slice (some ⟨w.heap.size, 0, none⟩) 0 c) (w.alloc (.cells (madeCells #[.int .u8 0] c) 5)) := fun w => by
  obtain ⟨i0, hi, hz0, hz1, hz2⟩ := info_parts info5
  have := run_make (P := Try.prog) w 39 5 i0 (.int .u8 0) Try.underlying39 hi hz0 .i64 .i64 0 (c : Int) (by decide) (by omega) (by rw [hz2]; omega) (by omega)
  rw [hz1, Int.toNat_natCast, Nat.mul_one] at this
  exact this

/-- One round of ownReplies, on worlds. -/
theorem round25 {E : Nat → Ent} {n k go g K c : Nat} {w wr w1 w2 : World} {f' : Nat → Value} (hR : wr.rowIs go 52 (n * 6) f') (hS : (∀ i, i < k → Six f' (i * 6) (E2 E g i)) ∧ ∀ i, k ≤ i → i < n → Six f' (i * 6) (E i)) (hlt : k < n)
    (ht1 : Touch wr w1 g K) (ht2 : Touch w1 w2 g K) (hk2 : Kept w2 K g (sm E k + (E k).vl + (E k).rl) c (all E k ++ bcells (E k).vz ++ bcells (E k).rz)) (hB : Below go w wr) (hg : go < g) (hK : go < K) :
    ∃ f'', ((w2.setCell ⟨go, k * 6 + 4, none⟩ (.slice (oA g (sm E k) (E k).vl) (E k).vl (E k).vl)).setCell ⟨go, k * 6 + 5, none⟩ (.slice (oA g (sm E k + (E k).vl) (E k).rl) (E k).rl (E k).rl)).rowIs go 52 (n * 6) f'' ∧
      ((∀ i, i < k + 1 → Six f'' (i * 6) (E2 E g i)) ∧ ∀ i, k + 1 ≤ i → i < n → Six f'' (i * 6) (E i)) ∧
      Kept ((w2.setCell ⟨go, k * 6 + 4, none⟩ (.slice (oA g (sm E k) (E k).vl) (E k).vl (E k).vl)).setCell ⟨go, k * 6 + 5, none⟩ (.slice (oA g (sm E k + (E k).vl) (E k).rl) (E k).rl (E k).rl)) K g (sm E (k + 1)) c (all E (k + 1)) ∧
      Below go w ((w2.setCell ⟨go, k * 6 + 4, none⟩ (.slice (oA g (sm E k) (E k).vl) (E k).vl (E k).vl)).setCell ⟨go, k * 6 + 5, none⟩ (.slice (oA g (sm E k + (E k).vl) (E k).rl) (E k).rl (E k).rl)) := by
  have ht := ht1.trans ht2
  have hgo := hR.lt
  have hR2 : w2.rowIs go 52 (n * 6) f' := hR.of_block (ht.block go hgo (by omega) (by omega))
  have key : ∀ j, (j ≠ k * 6 + 5 ∧ j ≠ k * 6 + 4) → (if j = k * 6 + 5 then Value.slice (oA g (sm E k + (E k).vl) (E k).rl) (E k).rl (E k).rl else if j = k * 6 + 4 then Value.slice (oA g (sm E k) (E k).vl) (E k).vl (E k).vl else f' j) = f' j := fun j hj => by rw [if_neg hj.1, if_neg hj.2]
  refine ⟨_, (hR2.set (k * 6 + 4) _).set (k * 6 + 5) _, ⟨fun i hi => ?_, fun i hi hi2 => ?_⟩, ⟨?_, ?_⟩, ?_⟩
  · by_cases e : i = k
    · subst e
      obtain ⟨a, b, c', d, _, _⟩ := hS.2 i (Nat.le_refl _) hlt
      refine ⟨?_, ?_, ?_, ?_, ?_, ?_⟩
      · exact (key _ (by omega)).trans a
      · exact (key _ (by omega)).trans b
      · exact (key _ (by omega)).trans c'
      · exact (key _ (by omega)).trans d
      · exact (if_neg (by omega)).trans (if_pos rfl)
      · exact if_pos rfl
    · obtain ⟨a, b, c', d, x, y⟩ := hS.1 i (by omega)
      refine ⟨?_, ?_, ?_, ?_, ?_, ?_⟩
      · exact (key _ (by omega)).trans a
      · exact (key _ (by omega)).trans b
      · exact (key _ (by omega)).trans c'
      · exact (key _ (by omega)).trans d
      · exact (key _ (by omega)).trans x
      · exact (key _ (by omega)).trans y
  · obtain ⟨a, b, c', d, x, y⟩ := hS.2 i (by omega) hi2
    refine ⟨?_, ?_, ?_, ?_, ?_, ?_⟩
    · exact (key _ (by omega)).trans a
    · exact (key _ (by omega)).trans b
    · exact (key _ (by omega)).trans c'
    · exact (key _ (by omega)).trans d
    · exact (key _ (by omega)).trans x
    · exact (key _ (by omega)).trans y
  · rw [Below.heap_setCell _ _ _ _ (by show K ≠ go; omega), Below.heap_setCell _ _ _ _ (by show K ≠ go; omega)]
    have := hk2.1
    rw [Nat.add_assoc] at this
    exact this
  · have := hk2.2
    rw [Nat.add_assoc] at this
    refine ownsRow_setCell_other (ownsRow_setCell_other this ?_ _) ?_ _
    · simp [Value.ownBlock]; omega
    · simp [Value.ownBlock]; omega
  · refine ((hB.trans ⟨ht.os, ht.tape, ht.output, ht.size, fun i hi => ht.block i (by omega) (by omega) (by omega)⟩).setCell (Nat.le_refl _) _).setCell (Nat.le_refl _) _

/-- The lists are as long as the slices say. -/
def Lens (E : Nat → Ent) (n : Nat) : Prop := ∀ i, i < n → (E i).vz.length = (E i).vl ∧ (E i).rz.length = (E i).rl

theorem all_length {E : Nat → Ent} {n : Nat} (h : Lens E n) (k : Nat) (hk : k ≤ n) : (all E k).length = sm E k := by
  induction k with
  | zero => rfl
  | succ k ih =>
    have := h k (by omega)
    simp only [all, sm, bcells, List.length_append, List.length_map, ih (by omega), this.1, this.2]
    omega

theorem all_prefix {E : Nat → Ent} {n : Nat} (h : Lens E n) {i j : Nat} (hij : i ≤ j) (hj : j ≤ n) {m : Nat} (hm : m < sm E i) : (all E j)[m]? = (all E i)[m]? := by
  induction j with
  | zero => obtain rfl : i = 0 := by omega
            rfl
  | succ j ih =>
    by_cases e : i = j + 1
    · subst e; rfl
    · rw [← ih (by omega) (by omega)]
      have hl := all_length h j (by omega)
      have hle : sm E i ≤ sm E j := by
        by_cases e2 : i = j
        · subst e2; exact Nat.le_refl _
        · have := sm_lt (E := E) (show i < j by omega); omega
      simp only [all, List.append_assoc]
      rw [List.getElem?_append_left (by omega)]

theorem all_v {E : Nat → Ent} {n : Nat} (h : Lens E n) {i j : Nat} (hi : i < n) (hj : j < (E i).vl) : (all E n)[sm E i + j]? = some (.int .u8 ((E i).vz.getD j 0)) := by
  have hl := all_length h i (by omega)
  have hz := h i hi
  rw [all_prefix h (show i + 1 ≤ n by omega) (Nat.le_refl _) (by simp only [sm]; omega)]
  simp only [all, List.append_assoc]
  rw [List.getElem?_append_right (by omega), List.getElem?_append_left (by simp [bcells]; omega)]
  rw [show sm E i + j - (all E i).length = j by omega]
  simp [bcells, List.getD, show j < (E i).vz.length by omega]

theorem all_r {E : Nat → Ent} {n : Nat} (h : Lens E n) {i j : Nat} (hi : i < n) (hj : j < (E i).rl) : (all E n)[sm E i + (E i).vl + j]? = some (.int .u8 ((E i).rz.getD j 0)) := by
  have hl := all_length h i (by omega)
  have hz := h i hi
  rw [all_prefix h (show i + 1 ≤ n by omega) (Nat.le_refl _) (by simp only [sm]; omega)]
  simp only [all, List.append_assoc]
  rw [List.getElem?_append_right (by omega), List.getElem?_append_right (by simp [bcells]; omega)]
  simp only [bcells, List.length_map]
  rw [show sm E i + (E i).vl + j - (all E i).length - (E i).vz.length = j by omega]
  simp [List.getD, show j < (E i).rz.length by omega]

/-- The buffer's slices hold the bytes. -/
theorem kept_slices {E : Nat → Ent} {n g K c : Nat} {w : World} (h : Lens E n) (hk : Kept w K g (sm E n) c (all E n)) (hm : sm E n ≤ 1048576) (i : Nat) (hi : i < n) :
    SliceAt w w.heap.size (E2 E g i).va (E i).vl (E i).vz ∧ SliceAt w w.heap.size (E2 E g i).ra (E i).rl (E i).rz := by
  have hle := sm_lt (E := E) hi
  have hg : g < w.heap.size := (hk.2.lt g rfl).2
  have hz := h i hi
  refine ⟨⟨hz.1, by unfold maxLen; omega, fun h0 => ⟨g, sm E i, if_neg (by omega), hg, fun j hj => ?_⟩⟩, ⟨hz.2, by unfold maxLen; omega, fun h0 => ⟨g, sm E i + (E i).vl, if_neg (by omega), hg, fun j hj => ?_⟩⟩⟩
  · rw [hk.2.cellAt _ (by omega)]; exact all_v h hi hj
  · rw [hk.2.cellAt _ (by omega)]; exact all_r h hi hj

end Go.Proofs.Qxb6617334a.Own
