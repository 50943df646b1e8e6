import Derived.Test.Qxb6617277aBufWalk
namespace Go.Proofs.Qxb6617277a.Buf
open Go.RowKit

/-- A slice of strings as the walks are told of it: where it has an element it has an address, and its cells hold the strings. -/
def Texts (S : Nat → ByteArray) (n : Nat) (ao : Option Addr) (w : World) : Prop :=
  0 < n → ∃ b off, ao = some ⟨b, off, none⟩ ∧ b < w.heap.size ∧ ∀ i, i < n → w.cell? ⟨b, off + i, none⟩ = some (.string (S i))

set_option maxHeartbeats 400000 in
theorem inBuffer_none (q : Int) (ao : Option Addr) (cap : Nat) (w : World) :
    Calls Try.prog 21 #[.slice ao 0 cap, .int .u8 q] w fun e w' => ∃ g, e = .returned (.slice (some ⟨g, 0, none⟩) 0 0) ∧ Below w.heap.size w w' := by
  have hmk := run_make_row' (P := Try.prog) 42 3 (.int .i64 0) 8 Try.underlying42 info3 rfl .i64 .i64 0 (by omega) (by omega)
  have hmk2 := run_make_row' (P := Try.prog) 31 24 (.slice none 0 0) 24 Try.underlying31 info24 rfl .i64 .i64 0 (by omega) (by omega)
  simp only [Int.natCast_zero] at hmk hmk2
  go_enter Try.func21, Try.ntmps21
  go_wp2
  go_rounds 1
  go_rounds 1
  go_ret
  exact ⟨_, rfl, by go_grown⟩

/-- inBuffer, at every number of texts. -/
theorem inBuffer_all (S : Nat → ByteArray) (n : Nat) (q : Int) (ao : Option Addr) (cap : Nat) (w : World) (htot : st S n ≤ 1048576) (ht : Texts S n ao w) :
    Calls Try.prog 21 #[.slice ao n cap, .int .u8 q] w fun e w' => ∃ g, e = .returned (.slice (some ⟨g, 0, none⟩) n n) ∧ (0 < n → Laid S q n w.heap.size w' g) ∧ Below w.heap.size w w' := by
  rcases Nat.eq_zero_or_pos n with rfl | hn
  · exact (inBuffer_none q ao cap w).mono fun e w' ⟨g, he, hb⟩ => ⟨g, he, fun h => absurd h (by omega), hb⟩
  · obtain ⟨b, off, rfl, hb, hc⟩ := ht hn
    exact (inBuffer_any S n q b off cap w hn htot hc hb).mono fun e w' ⟨g, he, hl, hb⟩ => ⟨g, he, fun _ => hl, hb⟩

set_option maxHeartbeats 400000 in
/-- ZZinBuffer passes on. -/
theorem zzInBuffer_all (S : Nat → ByteArray) (n : Nat) (q : Int) (ao : Option Addr) (cap : Nat) (w : World) (htot : st S n ≤ 1048576) (ht : Texts S n ao w) :
    Calls Try.prog 13 #[.slice ao n cap, .int .u8 q] w fun e w' => ∃ g, e = .returned (.slice (some ⟨g, 0, none⟩) n n) ∧ (0 < n → Laid S q n w.heap.size w' g) ∧ Below w.heap.size w w' := by
  have H : Hid (Texts S n ao w) := ht
  clear ht
  go_enter Try.func13, Try.ntmps13
  go_wp2_with fail
  refine (inBuffer_all S n q ao cap w htot H.out).mono ?_
  rintro e w' ⟨g, rfl, hl, hb⟩
  have H2 : Hid (0 < n → Laid S q n w.heap.size w' g) := hl
  clear hl
  go_wp2
  go_ret
  exact ⟨g, rfl, H2.out, hb⟩

/-- What the bound on total length answers: where it says yes every text is short, and so is their number. -/
def Short (S : Nat → ByteArray) (n : Nat) (e : Ending) : Prop := ∃ r : Bool, e = .returned (.bool r) ∧ (r = true → n ≤ 1048576 ∧ ∀ i, i < n → (S i).size ≤ 1048576)

set_option maxHeartbeats 400000 in
theorem bytes12 (S : Nat → ByteArray) (n : Nat) (q : Int) (ao : Option Addr) (cap : Nat) (w : World) (hn : n ≤ maxLen) (hs : ∀ i, i < n → (S i).size ≤ maxLen) (ht : Texts S n ao w) :
    Calls Try.prog 12 #[.slice ao n cap, .int .u8 q] w fun e w' => Short S n e ∧ w = w' := by
  unfold maxLen at hn hs
  rcases Nat.eq_zero_or_pos n with rfl | h0
  · go_enter Try.func12, Try.ntmps12
    go_wp2
    go_rounds 1
    go_ret
    exact ⟨⟨true, rfl, fun _ => ⟨by omega, fun i hi => by omega⟩⟩, rfl⟩
  obtain ⟨b, off, rfl, hb, hc⟩ := ht h0
  clear ht
  by_cases hbig : 1048576 < n
  · go_enter Try.func12, Try.ntmps12
    go_wp2
    go_ret
    exact ⟨⟨false, rfl, fun h => by cases h⟩, rfl⟩
  go_enter Try.func12, Try.ntmps12
  go_wp2
  go_loop [5, 6] (fun z i => ∃ (k : Nat) (s : Int), k ≤ n ∧ i = .int .i64 k ∧ z = .int .i64 s ∧ 0 ≤ s ∧ s ≤ 1048576 ∧ ∀ i, i < k → (S i).size ≤ 1048576) (fun _ i => n - (intOf i).toNat)
  case atStart => exact ⟨0, n, Nat.zero_le _, rfl, by go_num, by omega, by omega, fun i hi => by omega⟩
  case round =>
    obtain ⟨k, s, hk, rfl, rfl, hs0, hs1, hall⟩ := hrel
    have HA : Hid (∀ i, i < k → (S i).size ≤ 1048576) := hall
    clear hall
    by_cases hlt : k < n
    · have hcx := hc k hlt
      have hsk := hs k hlt
      have HC : Hid (∀ i, i < n → w.cell? ⟨b, off + i, none⟩ = some (.string (S i))) := hc
      have HS : Hid (∀ i, i < n → (S i).size ≤ 9223372036854775807) := hs
      clear hc hs
      by_cases h1 : 1048576 < (S k).size
      · go_wp2
        go_ret
        exact ⟨⟨false, rfl, fun h => by cases h⟩, rfl⟩
      by_cases h2 : 1048576 < s + (S k).size
      · go_wp2
        go_ret
        exact ⟨⟨false, rfl, fun h => by cases h⟩, rfl⟩
      · go_wp2
        go_round
        case rel =>
          refine ⟨k + 1, s + (S k).size, by omega, by go_num, by go_num, by omega, by omega, fun i hi => ?_⟩
          by_cases e : i = k
          · subst e; omega
          · exact HA.out i (by omega)
        case measure => simp [intOf]; omega
    · go_wp2
      go_ret
      exact ⟨⟨true, rfl, fun _ => ⟨by omega, fun i hi => HA.out i (by omega)⟩⟩, rfl⟩

set_option maxHeartbeats 400000 in
theorem bytes14 (S : Nat → ByteArray) (n : Nat) (q : Int) (ao : Option Addr) (cap : Nat) (w : World) (hn : n ≤ maxLen) (hs : ∀ i, i < n → (S i).size ≤ maxLen) (ht : Texts S n ao w) :
    Calls Try.prog 14 #[.slice ao n cap, .int .u8 q] w fun e w' => Short S n e ∧ w = w' := by
  unfold maxLen at hn hs
  rcases Nat.eq_zero_or_pos n with rfl | h0
  · go_enter Try.func14, Try.ntmps14
    go_wp2
    go_rounds 1
    go_ret
    exact ⟨⟨true, rfl, fun _ => ⟨by omega, fun i hi => by omega⟩⟩, rfl⟩
  obtain ⟨b, off, rfl, hb, hc⟩ := ht h0
  clear ht
  by_cases hbig : 1048576 < n
  · go_enter Try.func14, Try.ntmps14
    go_wp2
    go_ret
    exact ⟨⟨false, rfl, fun h => by cases h⟩, rfl⟩
  go_enter Try.func14, Try.ntmps14
  go_wp2
  go_loop [5, 6] (fun z i => ∃ (k : Nat) (s : Int), k ≤ n ∧ i = .int .i64 k ∧ z = .int .i64 s ∧ 0 ≤ s ∧ s ≤ 1048576 ∧ ∀ i, i < k → (S i).size ≤ 1048576) (fun _ i => n - (intOf i).toNat)
  case atStart => exact ⟨0, n, Nat.zero_le _, rfl, by go_num, by omega, by omega, fun i hi => by omega⟩
  case round =>
    obtain ⟨k, s, hk, rfl, rfl, hs0, hs1, hall⟩ := hrel
    have HA : Hid (∀ i, i < k → (S i).size ≤ 1048576) := hall
    clear hall
    by_cases hlt : k < n
    · have hcx := hc k hlt
      have hsk := hs k hlt
      have HC : Hid (∀ i, i < n → w.cell? ⟨b, off + i, none⟩ = some (.string (S i))) := hc
      have HS : Hid (∀ i, i < n → (S i).size ≤ 9223372036854775807) := hs
      clear hc hs
      by_cases h1 : 1048576 < (S k).size
      · go_wp2
        go_ret
        exact ⟨⟨false, rfl, fun h => by cases h⟩, rfl⟩
      by_cases h2 : 1048576 < s + (S k).size
      · go_wp2
        go_ret
        exact ⟨⟨false, rfl, fun h => by cases h⟩, rfl⟩
      · go_wp2
        go_round
        case rel =>
          refine ⟨k + 1, s + (S k).size, by omega, by go_num, by go_num, by omega, by omega, fun i hi => ?_⟩
          by_cases e : i = k
          · subst e; omega
          · exact HA.out i (by omega)
        case measure => simp [intOf]; omega
    · go_wp2
      go_ret
      exact ⟨⟨true, rfl, fun _ => ⟨by omega, fun i hi => HA.out i (by omega)⟩⟩, rfl⟩
end Go.Proofs.Qxb6617277a.Buf
