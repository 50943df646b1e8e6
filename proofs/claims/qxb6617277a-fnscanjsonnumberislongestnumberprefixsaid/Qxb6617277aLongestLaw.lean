import Derived.Test.Qxb6617277aLongest
import Derived.Laws.CopyOwn
namespace Go.Proofs.Qxb6617277a.Scan
open Go.RowKit
set_option linter.unusedSimpArgs false

set_option maxHeartbeats 400000 in
theorem bytes18 (ao : Option Addr) (n cap : Nat) (w : World) (hn : n ≤ maxLen) :
    Calls Try.prog 18 #[.slice ao n cap] w fun e w' => e = .returned (.bool (decide (n ≤ 1048576))) ∧ w = w' := by
  unfold maxLen at hn
  by_cases h : 1048576 < n
  · go_enter Try.func18, Try.ntmps18
    go_wp2
    go_ret
    exact ⟨by simp; omega, rfl⟩
  · go_enter Try.func18, Try.ntmps18
    go_wp2
    go_ret
    exact ⟨by simp; omega, rfl⟩

def cellsB (Z : List Int) : List Value := Z.map (Value.int .u8)
def zerosB (n : Nat) : List Value := List.replicate n (.int .u8 0)
theorem cellsB_length (Z : List Int) : (cellsB Z).length = Z.length := by simp [cellsB]
theorem zerosB_length (n : Nat) : (zerosB n).length = n := by simp [zerosB]
theorem made_zerosB (n : Nat) : madeCells #[.int .u8 0] n = (zerosB n).toArray := by
  apply Array.ext'
  rw [toList_madeCells_one]
  rfl
theorem splice_all' {α : Type} (L cs : List α) (h : L.length = cs.length) : splice L 0 cs = cs := by simp [splice, ← h]

theorem news_of {Z : List Int} {a0 : Addr} {w : World} (h : 0 < Z.length → ∃ b off, some a0 = some ⟨b, off, none⟩ ∧ b < w.heap.size ∧ ∀ i, i < Z.length → w.cell? ⟨b, off + i, none⟩ = some (.int .u8 (Z.getD i 0))) (o : Obj) :
    ∀ j v, (cellsB Z)[j]? = some v → (w.alloc o).cell? (a0.add j) = some v := fun j v hv => by
  obtain ⟨hl, he⟩ := List.getElem?_eq_some_iff.1 hv
  have hj : j < Z.length := by simpa [cellsB] using hl
  obtain ⟨b, off, e, hb, hc⟩ := h (by omega)
  simp only [Option.some.injEq] at e
  subst e
  have e2 : (⟨b, off, none⟩ : Addr).add j = ⟨b, off + j, none⟩ := by simp [Addr.add]
  rw [e2, World.cell?_alloc_lt _ _ _ hb, hc j hj, ← he]
  simp [cellsB, List.getD, hj]

theorem at_row {Z : List Int} {B : Nat} {w : World} (h : w.heap[B]? = some (.cells (cellsB Z).toArray 5 (0, 0))) : BytesAt (fun i => Z.getD i 0) Z.length (some ⟨B, 0, none⟩) w := fun _ =>
  ⟨B, 0, rfl, fun i hi => by
    rw [Nat.zero_add, cell_of_row w B i _ 5 (0, 0) h]
    simp [cellsB, List.getD, hi]⟩

set_option maxHeartbeats 1000000 in
set_option maxRecDepth 100000 in
theorem law7_walk (Z : List Int) (ao : Option Addr) (cap : Nat) (w : World) (hn : Z.length ≤ maxLen) (hz : ∀ x ∈ Z, 0 ≤ x ∧ x ≤ 255)
    (hc : 0 < Z.length → ∃ b off, ao = some ⟨b, off, none⟩ ∧ b < w.heap.size ∧ ∀ i, i < Z.length → w.cell? ⟨b, off + i, none⟩ = some (.int .u8 (Z.getD i 0))) :
    Calls Try.prog 7 #[.slice ao Z.length cap] w fun e w' => e = .returned (.bool true) ∧ Below w.heap.size w w' := by
  have HN : Hid (Z.length ≤ maxLen) := hn
  have HC : Hid (0 < Z.length → ∃ b off, ao = some ⟨b, off, none⟩ ∧ b < w.heap.size ∧ ∀ i, i < Z.length → w.cell? ⟨b, off + i, none⟩ = some (.int .u8 (Z.getD i 0))) := hc
  have HG : Hid (Byte (fun i => Z.getD i 0) Z.length) := fun i hi => by
    refine hz _ ?_
    show Z.getD i 0 ∈ Z
    rw [List.getD_eq_getElem?_getD, List.getElem?_eq_getElem hi]
    exact List.getElem_mem hi
  clear hn hc hz
  have hnn := fun w => run_neq_slice_nil_any (P := Try.prog) w 24 5 ao Z.length cap 0 0 Try.underlying24
  go_enter Try.func7, Try.ntmps7
  go_wp2_with fail
  refine (bytes18 ao Z.length cap w HN.out).mono ?_
  rintro e w' ⟨rfl, rfl⟩
  by_cases h20 : Z.length ≤ 1048576
  case neg =>
    rw [decide_eq_false h20]
    go_wp2
    go_ret
    exact ⟨rfl, Below.refl _ _⟩
  case pos =>
  rw [decide_eq_true h20]
  obtain ⟨E, e1⟩ : ∃ E, scan (fun i => Z.getD i 0) Z.length = E := ⟨_, rfl⟩
  have E1 : Hid (scan (fun i => Z.getD i 0) Z.length = E) := e1
  have E2 : Hid (longest (fun i => Z.getD i 0) Z.length = E) := by rw [← e1]; exact (scan_longest _ _).symm
  clear e1
  cases ao with
  | none =>
    have HB : Hid (BytesAt (fun i => Z.getD i 0) Z.length none w) := fun h => by
      obtain ⟨b, off, e, _⟩ := HC.out h
      cases e
    go_wp2_with fail
    have c1 := scan11 (fun i => Z.getD i 0) Z.length none cap w (by omega) HB.out HG.out
    have c2 := longest19 (fun i => Z.getD i 0) Z.length none cap w h20 HB.out HG.out
    rw [E1.out] at c1
    rw [E2.out] at c2
    refine c1.mono ?_
    have C2 : Hid (Calls Try.prog 19 #[.slice none Z.length cap] w fun e w' => e = .returned (.int .i64 (E : Int)) ∧ w = w') := c2
    clear c1 c2
    rintro e w' ⟨rfl, rfl⟩
    go_wp2_with fail
    refine C2.out.mono ?_
    rintro e w' ⟨rfl, rfl⟩
    go_wp2
    go_ret
    exact ⟨by simp, Below.refl _ _⟩
  | some a0 =>
    have hmk := run_make_row' (P := Try.prog) 24 5 (.int .u8 0) 1 Try.underlying24 info5 rfl .i64 .i64 Z.length (by omega) (by omega)
    rw [made_zerosB] at hmk
    have HNW : Hid (∀ j v, (cellsB Z)[j]? = some v → (w.alloc (.cells (zerosB Z.length).toArray 5)).cell? (a0.add j) = some v) := news_of HC.out _
    have hsl := cellsB_length Z
    have hbl := zerosB_length Z.length
    go_wp2_with (refine wpList_copy_splice rfl (.tmp 15) (.tmp 16) 24 24 rfl 5 Try.underlying24 (by kernel_rfl) _ _ _ _ _ _ rfl rfl w.heap.size 0 (zerosB Z.length) 5 (heap_alloc_new w _) (cellsB Z) (by simp [hsl]) (fun _ => ⟨rfl, a0, rfl, HNW.out⟩) (by omega) (by intro v hv; obtain ⟨i, _, rfl⟩ := List.mem_map.1 hv; rfl) w.heap.size w ((Below.refl _ _).alloc (Nat.le_refl _) _) (Nat.le_refl _) ?_; intro w2 HG2 hB2)
    rw [splice_all' _ _ (by rw [hsl, hbl])] at HG2
    have HB : Hid (BytesAt (fun i => Z.getD i 0) Z.length (some ⟨w.heap.size, 0, none⟩) w2) := at_row HG2.out
    clear HG2 HNW hmk hsl hbl HC hnn
    have c1 := scan11 (fun i => Z.getD i 0) Z.length (some ⟨w.heap.size, 0, none⟩) Z.length w2 (by omega) HB.out HG.out
    have c2 := longest19 (fun i => Z.getD i 0) Z.length (some ⟨w.heap.size, 0, none⟩) Z.length w2 h20 HB.out HG.out
    rw [E1.out] at c1
    rw [E2.out] at c2
    refine c1.mono ?_
    have C2 : Hid (Calls Try.prog 19 #[.slice (some ⟨w.heap.size, 0, none⟩) Z.length Z.length] w2 fun e w' => e = .returned (.int .i64 (E : Int)) ∧ w2 = w') := c2
    clear c1 c2
    rintro e w' ⟨rfl, rfl⟩
    go_wp2_with fail
    refine C2.out.mono ?_
    rintro e w' ⟨rfl, rfl⟩
    go_wp2
    go_ret
    exact ⟨by simp, hB2⟩
end Go.Proofs.Qxb6617277a.Scan
