import Derived.Test.Qxb6617277aBufEdge
namespace Go.Proofs.Qxb6617277a.Buf
open Go.RowKit

/-- The cells of the first n texts. -/
def strs (S : Nat → ByteArray) (n : Nat) : List Value := (List.range n).map fun i => .string (S i)
/-- What make lays: n empty strings. -/
def blanks (n : Nat) : List Value := List.replicate n (.string ByteArray.empty)

theorem strs_length (S : Nat → ByteArray) (n : Nat) : (strs S n).length = n := by simp [strs]
theorem blanks_length (n : Nat) : (blanks n).length = n := by simp [blanks]

theorem strs_get {S : Nat → ByteArray} {n j : Nat} {u : Value} (h : (strs S n)[j]? = some u) : j < n ∧ u = .string (S j) := by
  obtain ⟨hl, he⟩ := List.getElem?_eq_some_iff.1 h
  have : j < n := by simpa [strs] using hl
  refine ⟨this, ?_⟩
  rw [← he]; simp [strs]

theorem splice_all {α : Type} (L cs : List α) (h : L.length = cs.length) : splice L 0 cs = cs := by
  simp [splice, ← h]

theorem made_blanks (n : Nat) : madeCells #[.string ByteArray.empty] n = (blanks n).toArray := by
  apply Array.ext'
  rw [toList_madeCells_one]
  rfl

theorem texts_row {S : Nat → ByteArray} {n B : Nat} {w : World} (h : w.heap[B]? = some (.cells (strs S n).toArray 9 (0, 0))) : ∀ i, i < n → w.cell? ⟨B, i, none⟩ = some (.string (S i)) := fun i hi => by
  rw [cell_of_row w B i _ 9 (0, 0) h]
  simp [strs, hi]

set_option maxHeartbeats 1000000 in
set_option maxRecDepth 100000 in
theorem law4_walk (S : Nat → ByteArray) (n : Nat) (q : Int) (b0 : Addr) (cap : Nat) (w : World) (hn : n ≤ maxLen) (hs : ∀ i, i < n → (S i).size ≤ maxLen) (ht : Texts S n (some b0) w) :
    Calls Try.prog 4 #[.slice (some b0) n cap, .int .u8 q] w fun e w' => e = .returned (.bool true) ∧ Below w.heap.size w w' := by
  have HT : Hid (Texts S n (some b0) w) := ht
  have HN : Hid (n ≤ maxLen) := hn
  have HS : Hid (∀ i, i < n → (S i).size ≤ maxLen) := hs
  clear ht hn hs
  have hnn := fun w => run_neq_slice_nil_any (P := Try.prog) w 29 9 (some b0) n cap 0 0 Try.underlying29
  go_enter Try.func4, Try.ntmps4
  go_wp2_with fail
  refine (bytes12 S n q (some b0) cap w HN.out HS.out HT.out).mono ?_
  rintro e w' ⟨⟨r, rfl, hr⟩, rfl⟩
  cases r
  · clear hr
    go_wp2
    go_ret
    exact ⟨rfl, Below.refl _ _⟩
  obtain ⟨hn1, hs1⟩ := hr rfl
  clear hr
  have HS1 : Hid (∀ i, i < n → (S i).size ≤ 1048576) := hs1
  clear hs1
  by_cases hbig : 4096 < n
  · go_wp2
    go_ret
    exact ⟨rfl, Below.refl _ _⟩
  have hmk := run_make_row' (P := Try.prog) 29 9 (.string ByteArray.empty) 16 Try.underlying29 info9 rfl .i64 .i64 n (by omega) (by omega)
  rw [made_blanks] at hmk
  have hnews : ∀ j v, (strs S n)[j]? = some v → (w.alloc (.cells (blanks n).toArray 9)).cell? (b0.add j) = some v := fun j v hv => by
    obtain ⟨hj, rfl⟩ := strs_get hv
    obtain ⟨b, off, e, hb, hc⟩ := HT.out (by omega)
    simp only [Option.some.injEq] at e
    subst e
    have e2 : (⟨b, off, none⟩ : Addr).add j = ⟨b, off + j, none⟩ := by simp [Addr.add]
    rw [e2, World.cell?_alloc_lt _ _ _ hb]
    exact hc j hj
  have HNW : Hid (∀ j v, (strs S n)[j]? = some v → (w.alloc (.cells (blanks n).toArray 9)).cell? (b0.add j) = some v) := hnews
  clear hnews
  have hsl := strs_length S n
  have hbl := blanks_length n
  go_wp2_with (refine wpList_copy_splice rfl (.tmp 27) (.tmp 28) 29 29 rfl 9 Try.underlying29 (by kernel_rfl) _ _ _ _ _ _ rfl rfl w.heap.size 0 (blanks n) 9 (heap_alloc_new w _) (strs S n) (by simp [hsl]) (fun _ => ⟨rfl, b0, rfl, HNW.out⟩) (by omega) (by intro v hv; obtain ⟨i, _, rfl⟩ := List.mem_map.1 hv; rfl) w.heap.size w ((Below.refl _ _).alloc (Nat.le_refl _) _) (Nat.le_refl _) ?_; intro w2 HG2 hB2)
  rw [splice_all _ _ (by rw [hsl, hbl])] at HG2
  have hcell := texts_row HG2.out
  have hw2 : w.heap.size < w2.heap.size := (Array.getElem?_eq_some_iff.1 HG2.out).1
  clear hsl hbl
  go_loop [6, 7] (fun z i => ∃ k : Nat, k ≤ n ∧ i = .int .i64 k ∧ z = .int .i64 (st S k) ∧ (st S k : Int) ≤ 65536) (fun _ i => n - (intOf i).toNat)
  case atStart => exact ⟨0, Nat.zero_le _, rfl, rfl, by simp [st]⟩
  case round =>
    obtain ⟨k, hk, rfl, rfl, htot⟩ := hrel
    by_cases hlt : k < n
    · have hcx := hcell k hlt
      have hsk := HS1.out k hlt
      have HC : Hid (∀ i, i < n → w2.cell? ⟨w.heap.size, i, none⟩ = some (.string (S i))) := hcell
      have HE : Hid (st S (k + 1) = st S k + ((S k).size + 1)) := rfl
      clear hcell
      by_cases h2 : (65536 : Int) < (st S k : Int) + ((S k).size + 1)
      · go_wp2
        go_ret
        exact ⟨rfl, hB2⟩
      · go_wp2
        go_round
        case rel => exact ⟨k + 1, by omega, by go_num, by rw [HE.out]; go_num, by rw [HE.out]; omega⟩
        case measure => simp [intOf]; omega
    · obtain rfl : k = n := by omega
      have HC : Hid (∀ i, i < k → w2.cell? ⟨w.heap.size, i, none⟩ = some (.string (S i))) := hcell
      clear hcell
      clear hmk hnn HNW HT HS HN
      go_wp2_with fail
      refine (zzInBuffer_all S k q (some ⟨w.heap.size, 0, none⟩) k w2 (by omega) (fun _ => ⟨w.heap.size, 0, rfl, hw2, fun i hi => by rw [Nat.zero_add]; exact HC.out i hi⟩)).mono ?_
      rintro e w3 ⟨g, rfl, hlaid, hB3⟩
      have HL : Hid (0 < k → Laid S q k w2.heap.size w3 g) := hlaid
      have HC3 : Hid (∀ i, i < k → w3.cell? ⟨w.heap.size, i, none⟩ = some (.string (S i))) := fun i hi => (hB3.cell (by exact hw2)).trans (HC.out i hi)
      clear hlaid HC HG2
      have hnil := fun w => Lib.run_eql_slice_nil (P := Try.prog) w 31 24 (some ⟨g, 0, none⟩) k k 0 0 Try.underlying31
      go_wp2
      go_loopw [9] (fun s9 wr => ∃ (i nq : Nat), i ≤ k ∧ s9 = .int .i64 i ∧ wr = w3.drewN nq) (fun s9 _ => k - (intOf s9).toNat)
      case atStart => exact ⟨0, 0, Nat.zero_le _, rfl, rfl⟩
      case round =>
        obtain ⟨i, nq, hik, rfl, rfl⟩ := hrel
        by_cases hlt : i < k
        · obtain ⟨_, bb, c, hbb, hrest, hbytes⟩ := HL.out (by omega)
          have HB : Hid (∀ j u, (lay S q k)[j]? = some u → w3.cell? ⟨bb, j, none⟩ = some u) := hbytes
          clear hbytes
          obtain ⟨L, hL⟩ : ∃ L, st S i + L = st S k := ⟨st S k - st S i, by have := st_le (S := S) hik; omega⟩
          have hr := hrest i hlt
          rw [show st S k - st S i = L by omega] at hr
          have HE : Hid (st S i + L = st S k) := hL
          have hLb : (L : Int) ≤ 65536 := by omega
          clear hL hrest
          obtain ⟨C, hC⟩ : ∃ C, C = c - st S i := ⟨_, rfl⟩
          rw [← hC] at hr
          clear hC
          go_wp2
          go_loopw [11, 12] (fun s11 s12 wr => ∃ (j d nq : Nat), i ≤ j ∧ j ≤ k ∧ s12 = .int .i64 j ∧ s11 = .int .i64 d ∧ Hid (st S i + d = st S j) ∧ wr = w3.drewN nq) (fun _ s12 _ => k - (intOf s12).toNat)
          case atStart => exact ⟨i, 0, nq, Nat.le_refl _, hik, rfl, rfl, rfl, rfl⟩
          case round =>
            obtain ⟨j, d, nq, hij, hjk, rfl, rfl, HD, rfl⟩ := hrel
            by_cases hj : j < k
            · have hcx := HC3.out j hj
              have hdL : d + ((S j).size + 1) ≤ L := by
                have h1 := st_lt (S := S) hj
                have h2 := HE.out
                have h3 := HD.out
                omega
              go_wp2
              go_loopw [11, 14] (fun s11 s14 wr => ∃ (m x nq : Nat), m ≤ (S j).size ∧ s14 = .int .i64 m ∧ s11 = .int .i64 x ∧ Hid (x = d + m) ∧ wr = w3.drewN nq) (fun _ s14 _ => (S j).size - (intOf s14).toNat)
              case atStart => exact ⟨0, d, nq, Nat.zero_le _, rfl, rfl, rfl, rfl⟩
              case round =>
                obtain ⟨m, x, nq, hmj, rfl, rfl, HX, rfl⟩ := hrel
                have hxL : x < L := by have := HX.out; omega
                by_cases hm : m < (S j).size
                · have hby : w3.cell? ⟨bb, st S i + x, none⟩ = some (.int .u8 ((S j)[m].toNat : Int)) := by
                    have := lay_byte S q hj hm
                    rw [← HD.out] at this
                    exact HB.out _ _ (by rw [HX.out, ← Nat.add_assoc]; exact this)
                  have hd : decide ((L : Int) ≤ (x : Int)) = false := by simp; omega
                  go_wp2
                  go_quiet (fail)
                  go_wp2
                  go_roundw
                  case rel => exact ⟨m + 1, x + 1, _, by omega, by go_num, by go_num, (by rw [HX.out]; rfl : x + 1 = d + (m + 1)), rfl⟩
                  case measure => simp [intOf]; omega
                · have hby : w3.cell? ⟨bb, st S i + x, none⟩ = some (.int .u8 q) := by
                    have := lay_sep S q hj
                    rw [← HD.out] at this
                    exact HB.out _ _ (by rw [HX.out, show m = (S j).size by omega, ← Nat.add_assoc]; exact this)
                  have hd : decide ((L : Int) ≤ (x : Int)) = false := by simp; omega
                  go_wp2
                  go_roundw
                  case rel => exact ⟨j + 1, x + 1, _, by omega, by omega, by go_num, by go_num, (by have h1 := HX.out; have h2 := HD.out; simp only [st]; omega : st S i + (x + 1) = st S (j + 1)), rfl⟩
                  case measure => simp [intOf]; omega
            · obtain rfl : j = k := by omega
              obtain rfl : d = L := by have h1 := HE.out; have h2 := HD.out; omega
              go_wp2
              go_roundw
              case rel => exact ⟨i + 1, _, by omega, by go_num, rfl⟩
              case measure => simp [intOf]; omega
        · go_wp2
          go_ret
          refine ⟨rfl, ?_⟩
          exact hB2.trans ((hB3.mono (Nat.le_of_lt hw2)).trans (below_drewN (Below.refl _ _) _))
set_option maxHeartbeats 1000000 in
theorem law4_nil (q : Int) (w : World) :
    Calls Try.prog 4 #[.slice none 0 0, .int .u8 q] w fun e w' => e = .returned (.bool true) ∧ Below w.heap.size w w' := by
  have hnn := fun w => run_neq_slice_nil_any (P := Try.prog) w 29 9 none 0 0 0 0 Try.underlying29
  go_enter Try.func4, Try.ntmps4
  go_wp2_with fail
  refine (bytes12 (fun _ => ByteArray.empty) 0 q none 0 w (by unfold maxLen; omega) (fun i hi => by omega) (fun h => by omega)).mono ?_
  rintro e w' ⟨⟨r, rfl, hr⟩, rfl⟩
  clear hr
  cases r
  · go_wp2
    go_ret
    exact ⟨rfl, Below.refl _ _⟩
  go_wp2_with fail
  refine wp_loop_rounds 1 ?_
  rw [rounds_succ]
  go_wp2_with fail
  refine (zzInBuffer_all (fun _ => ByteArray.empty) 0 q none 0 w (by simp [st]) (fun h => by omega)).mono ?_
  rintro e w3 ⟨g, rfl, hlaid, hB3⟩
  clear hlaid
  have hnil := fun w => Lib.run_eql_slice_nil (P := Try.prog) w 31 24 (some ⟨g, 0, none⟩) 0 0 0 0 Try.underlying31
  go_wp2
  go_rounds 1
  go_ret
  exact ⟨rfl, hB3⟩
end Go.Proofs.Qxb6617277a.Buf
