import Derived.Test.Qxb6617277aBufLaw4
import Derived.Lib.Builder
namespace Go.Proofs.Qxb6617277a.Buf
open Go.RowKit

set_option maxHeartbeats 2000000 in
set_option maxRecDepth 100000 in
theorem law5_walk (S : Nat → ByteArray) (n : Nat) (q : Int) (b0 : Addr) (cap : Nat) (w : World) (hn : n ≤ maxLen) (hs : ∀ i, i < n → (S i).size ≤ maxLen) (ht : Texts S n (some b0) w) :
    Calls Try.prog 5 #[.slice (some b0) n cap, .int .u8 q] w fun e w' => e = .returned (.bool true) ∧ Below w.heap.size w w' := by
  obtain ⟨i0, hi, _⟩ := info_parts info5
  have HT : Hid (Texts S n (some b0) w) := ht
  have HN : Hid (n ≤ maxLen) := hn
  have HS : Hid (∀ i, i < n → (S i).size ≤ maxLen) := hs
  clear ht hn hs
  have hnn := fun w => run_neq_slice_nil_any (P := Try.prog) w 29 9 (some b0) n cap 0 0 Try.underlying29
  go_enter Try.func5, Try.ntmps5
  go_wp2_with fail
  refine (bytes14 S n q (some b0) cap w HN.out HS.out HT.out).mono ?_
  rintro e w' ⟨⟨r, rfl, hr⟩, rfl⟩
  cases r
  · clear hr
    go_wp2
    go_ret
    exact ⟨rfl, Below.refl _ _⟩
  obtain ⟨hn1, hs1⟩ := hr rfl
  clear hr
  have HS1 : Hid (∀ i, i < n → (S i).size ≤ 1048576) := hs1
  clear hs1
  by_cases hbig : 65536 < n
  · go_wp2
    go_ret
    exact ⟨rfl, Below.refl _ _⟩
  have hmk := run_make_row' (P := Try.prog) 29 9 (.string ByteArray.empty) 16 Try.underlying29 info9 rfl .i64 .i64 n (by omega) (by omega)
  rw [made_blanks] at hmk
  have hnews : ∀ j v, (strs S n)[j]? = some v → (w.alloc (.cells (blanks n).toArray 9)).cell? (b0.add j) = some v := fun j v hv => by
    obtain ⟨hj, rfl⟩ := strs_get hv
    obtain ⟨b, off, e, hb, hc⟩ := HT.out (by omega)
    simp only [Option.some.injEq] at e
    subst e
    have e2 : (⟨b, off, none⟩ : Addr).add j = ⟨b, off + j, none⟩ := by simp [Addr.add]
    rw [e2, World.cell?_alloc_lt _ _ _ hb]
    exact hc j hj
  have HNW : Hid (∀ j v, (strs S n)[j]? = some v → (w.alloc (.cells (blanks n).toArray 9)).cell? (b0.add j) = some v) := hnews
  clear hnews
  have hsl := strs_length S n
  have hbl := blanks_length n
  go_wp2_with (refine wpList_copy_splice rfl (.tmp 28) (.tmp 29) 29 29 rfl 9 Try.underlying29 (by kernel_rfl) _ _ _ _ _ _ rfl rfl w.heap.size 0 (blanks n) 9 (heap_alloc_new w _) (strs S n) (by simp [hsl]) (fun _ => ⟨rfl, b0, rfl, HNW.out⟩) (by omega) (by intro v hv; obtain ⟨i, _, rfl⟩ := List.mem_map.1 hv; rfl) w.heap.size w ((Below.refl _ _).alloc (Nat.le_refl _) _) (Nat.le_refl _) ?_; intro w2 HG2 hB2)
  rw [splice_all _ _ (by rw [hsl, hbl])] at HG2
  have hcell := texts_row HG2.out
  have hw2 : w.heap.size < w2.heap.size := (Array.getElem?_eq_some_iff.1 HG2.out).1
  clear hsl hbl
  go_loop [6, 7] (fun z i => ∃ k : Nat, k ≤ n ∧ i = .int .i64 k ∧ z = .int .i64 (st S k) ∧ (st S k : Int) ≤ 1048576) (fun _ i => n - (intOf i).toNat)
  case atStart => exact ⟨0, Nat.zero_le _, rfl, rfl, by simp [st]⟩
  case round =>
    obtain ⟨k, hk, rfl, rfl, htot⟩ := hrel
    by_cases hlt : k < n
    · have hcx := hcell k hlt
      have hsk := HS1.out k hlt
      have HC : Hid (∀ i, i < n → w2.cell? ⟨w.heap.size, i, none⟩ = some (.string (S i))) := hcell
      have HE : Hid (st S (k + 1) = st S k + ((S k).size + 1)) := rfl
      clear hcell
      by_cases h2 : (1048576 : Int) < (st S k : Int) + ((S k).size + 1)
      · go_wp2
        go_ret
        exact ⟨rfl, hB2⟩
      · go_wp2
        go_round
        case rel => exact ⟨k + 1, by omega, by go_num, by rw [HE.out]; go_num, by rw [HE.out]; omega⟩
        case measure => simp [intOf]; omega
    · obtain rfl : k = n := by omega
      have HC : Hid (∀ i, i < k → w2.cell? ⟨w.heap.size, i, none⟩ = some (.string (S i))) := hcell
      clear hcell
      clear hmk hnn HNW HT HS HN
      go_wp2_with fail
      refine (zzInBuffer_all S k q (some ⟨w.heap.size, 0, none⟩) k w2 (by omega) (fun _ => ⟨w.heap.size, 0, rfl, hw2, fun i hi => by rw [Nat.zero_add]; exact HC.out i hi⟩)).mono ?_
      rintro e w3 ⟨g, rfl, hlaid, hB3⟩
      have HL : Hid (0 < k → Laid S q k w2.heap.size w3 g) := hlaid
      have HC3 : Hid (∀ i, i < k → w3.cell? ⟨w.heap.size, i, none⟩ = some (.string (S i))) := fun i hi => (hB3.cell (by exact hw2)).trans (HC.out i hi)
      clear hlaid HC HG2
      go_wp2
      go_loopw [10] (fun s10 wr => ∃ (i nq : Nat), i ≤ k ∧ s10 = .int .i64 i ∧ wr = w3.drewN nq) (fun s10 _ => k - (intOf s10).toNat)
      case atStart => exact ⟨0, 0, Nat.zero_le _, rfl, rfl⟩
      case round =>
        obtain ⟨i, nq, hik, rfl, rfl⟩ := hrel
        by_cases hlt : i < k
        · obtain ⟨_, bb, c, hbb, hrest, hbytes⟩ := HL.out (by omega)
          have HB : Hid (∀ j u, (lay S q k)[j]? = some u → w3.cell? ⟨bb, j, none⟩ = some u) := hbytes
          clear hbytes
          obtain ⟨L, hL⟩ : ∃ L, st S i + L = st S k := ⟨st S k - st S i, by have := st_le (S := S) hik; omega⟩
          have hr := hrest i hlt
          rw [show st S k - st S i = L by omega] at hr
          have hLb : (L : Int) ≤ 1048576 := by omega
          have hcx := HC3.out i hlt
          have hdL : (S i).size + 1 ≤ L := by
            have h1 := st_lt (S := S) hlt
            omega
          clear hL hrest
          obtain ⟨C, hC⟩ : ∃ C, C = c - st S i := ⟨_, rfl⟩
          rw [← hC] at hr
          clear hC
          go_wp2
          go_loopw [13] (fun s13 wr => ∃ (m nq : Nat), m ≤ (S i).size ∧ s13 = .int .i64 m ∧ wr = w3.drewN nq) (fun s13 _ => (S i).size - (intOf s13).toNat)
          case atStart => exact ⟨0, nq, Nat.zero_le _, rfl, rfl⟩
          case round =>
            obtain ⟨m, nq, hmj, rfl, rfl⟩ := hrel
            by_cases hm : m < (S i).size
            · have hby : w3.cell? ⟨bb, st S i + m, none⟩ = some (.int .u8 ((S i)[m].toNat : Int)) := HB.out _ _ (lay_byte S q hlt hm)
              go_wp2
              go_quiet (fail)
              go_wp2
              go_roundw
              case rel => exact ⟨m + 1, _, by omega, by go_num, rfl⟩
              case measure => simp [intOf]; omega
            · have hby : w3.cell? ⟨bb, st S i + (S i).size, none⟩ = some (.int .u8 q) := HB.out _ _ (lay_sep S q hlt)
              go_wp2
              go_roundw
              case rel => exact ⟨i + 1, _, by omega, by go_num, rfl⟩
              case measure => simp [intOf]; omega
        · obtain rfl : i = k := by omega
          by_cases h0 : 0 < i
          · obtain ⟨_, bb, c, hbb, hrest, hbytes⟩ := HL.out h0
            clear hbytes HL
            obtain ⟨j, rfl⟩ : ∃ j, i = j + 1 := ⟨i - 1, by omega⟩
            have hl := hrest j (by omega)
            rw [show st S (j + 1) - st S j = (S j).size + 1 by simp only [st]; omega] at hl
            have htx := HC3.out j (by omega)
            have HR : Hid (∀ i, i < j + 1 → w3.cell? ⟨g, i, none⟩ = some (.slice (some ⟨bb, st S i, none⟩) (st S (j + 1) - st S i) (c - st S i))) := hrest
            clear hrest
            have hsz := HS1.out j (by omega)
            have hgd : decide (0 < (j : Int) + 1) = true := by simp
            go_wp2
            go_quiet (fail)
            go_wp2
            clear hl htx hsz hgd
            go_loopw [14] (fun s14 wr => ∃ (i nq : Nat), i ≤ j ∧ s14 = .int .i64 i ∧ wr = w3.drewN nq) (fun s14 _ => j - (intOf s14).toNat)
            case atStart => exact ⟨0, _, Nat.zero_le _, rfl, World.drewN_drewN _ _ _⟩
            case round =>
              obtain ⟨i, nq, hij, rfl, rfl⟩ := hrel
              by_cases hlt : i < j
              · have hra := HR.out i (by omega)
                have hrb := HR.out (i + 1) (by omega)
                have htx := HC3.out i (by omega)
                have hsz := HS1.out i (by omega)
                have h1 := st_lt (S := S) (show i + 1 < j + 1 by omega)
                have h2 : st S (i + 1) = st S i + ((S i).size + 1) := rfl
                obtain ⟨M, hM⟩ : ∃ M, st S (j + 1) = st S i + ((S i).size + 1) + M := ⟨st S (j + 1) - (st S i + ((S i).size + 1)), by omega⟩
                have hMb : (M : Int) ≤ 1048576 := by omega
                have hM0 : 0 < M := by omega
                rw [show st S (j + 1) - st S i = (S i).size + 1 + M by omega] at hra
                rw [show st S (j + 1) - st S (i + 1) = M by omega, h2] at hrb
                generalize c - st S i = C1 at hra
                generalize c - (st S i + ((S i).size + 1)) = C2 at hrb
                clear h1 h2 hM
                have hpp := fun w a => Lib.run_neq_ptr_same (P := Try.prog) (tp := 33) (te := 5) (j := i0) w a Try.underlying33 hi
                go_wp2
                go_quiet (fail)
                go_wp2
                go_quiet (fail)
                go_wp2
                go_roundw
                case rel => exact ⟨i + 1, _, by omega, by go_num, rfl⟩
                case measure => simp [intOf]; omega
              · go_wp2
                go_ret
                exact ⟨rfl, hB2.trans ((hB3.mono (Nat.le_of_lt hw2)).trans (below_drewN (Below.refl _ _) _))⟩
          · obtain rfl : i = 0 := by omega
            have hgd : decide ((0 : Int) < 0) = false := by simp
            go_wp2
            go_quiet (fail)
            go_wp2
            go_rounds 1
            go_ret
            exact ⟨rfl, hB2.trans ((hB3.mono (Nat.le_of_lt hw2)).trans (below_drewN (Below.refl _ _) _))⟩

set_option maxHeartbeats 1000000 in
theorem law5_nil (q : Int) (w : World) :
    Calls Try.prog 5 #[.slice none 0 0, .int .u8 q] w fun e w' => e = .returned (.bool true) ∧ Below w.heap.size w w' := by
  have hnn := fun w => run_neq_slice_nil_any (P := Try.prog) w 29 9 none 0 0 0 0 Try.underlying29
  go_enter Try.func5, Try.ntmps5
  go_wp2_with fail
  refine (bytes14 (fun _ => ByteArray.empty) 0 q none 0 w (by unfold maxLen; omega) (fun i hi => by omega) (fun h => by omega)).mono ?_
  rintro e w' ⟨⟨r, rfl, hr⟩, rfl⟩
  clear hr
  cases r
  · go_wp2
    go_ret
    exact ⟨rfl, Below.refl _ _⟩
  go_wp2_with fail
  refine wp_loop_rounds 1 ?_
  rw [rounds_succ]
  go_wp2_with fail
  refine (zzInBuffer_all (fun _ => ByteArray.empty) 0 q none 0 w (by simp [st]) (fun h => by omega)).mono ?_
  rintro e w3 ⟨g, rfl, hlaid, hB3⟩
  clear hlaid
  have hgd : decide ((0 : Int) < 0) = false := by simp
  go_wp2
  go_rounds 1
  go_quiet (fail)
  go_wp2
  go_rounds 1
  go_ret
  exact ⟨rfl, below_drewN hB3 _⟩
end Go.Proofs.Qxb6617277a.Buf
