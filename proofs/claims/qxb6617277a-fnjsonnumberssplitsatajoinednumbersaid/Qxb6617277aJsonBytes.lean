import Derived.Test.Qxb6617277aJson
namespace Go.Proofs.Qxb6617277a.Json
open Go.RowKit Go.Proofs.Qxb6617277a.Scan
set_option linter.unusedSimpArgs false

def Small (L : List ByteArray) : Prop := L.length ≤ 1048576 ∧ ∀ i, i < L.length → (L.getD i ByteArray.empty).size ≤ 1048576
def Short2 (A C : List ByteArray) (e : Ending) : Prop := ∃ r : Bool, e = .returned (.bool r) ∧ (r = true → Small A ∧ Small C)

theorem upTo_next {L : List ByteArray} {k : Nat} (h : ∀ i, i < k → (L.getD i ByteArray.empty).size ≤ 1048576) {s : ByteArray} (es : L.getD k ByteArray.empty = s) (hs : s.size ≤ 1048576) : ∀ i, i < k + 1 → (L.getD i ByteArray.empty).size ≤ 1048576 := fun i hi => by
  by_cases e : i = k
  · subst e; rw [es]; exact hs
  · exact h i (by omega)

set_option maxHeartbeats 1000000 in
set_option maxRecDepth 100000 in
theorem bytes15 (A C : List ByteArray) (a1 : Bool) (a2 : Int) (aoA aoC : Option Addr) (capA capC limA limC : Nat) (w : World) (hA : A.length ≤ maxLen) (hC : C.length ≤ maxLen)
    (sA : ∀ i, i < A.length → (A.getD i ByteArray.empty).size ≤ maxLen) (sC : ∀ i, i < C.length → (C.getD i ByteArray.empty).size ≤ maxLen) (HA : Holds A aoA limA w) (HC : Holds C aoC limC w) :
    Calls Try.prog 15 #[.slice aoA A.length capA, .bool a1, .int .u64 a2, .slice aoC C.length capC] w fun e w' => Short2 A C e ∧ w = w' := by
  unfold maxLen at hA hC
  have SA : Hid (∀ i, i < A.length → (A.getD i ByteArray.empty).size ≤ 9223372036854775807) := sA
  have SC : Hid (∀ i, i < C.length → (C.getD i ByteArray.empty).size ≤ 9223372036854775807) := sC
  have QA : Hid (Holds A aoA limA w) := HA
  have QC : Hid (Holds C aoC limC w) := HC
  clear sA sC HA HC
  by_cases h1 : 1048576 < A.length
  · go_enter Try.func15, Try.ntmps15
    go_wp2
    go_ret
    exact ⟨⟨false, rfl, fun h => by cases h⟩, rfl⟩
  go_enter Try.func15, Try.ntmps15
  go_wp2
  go_loop [9, 10] (fun z s => ∃ (k : Nat) (n : Int), k ≤ A.length ∧ s = .int .i64 k ∧ z = .int .i64 n ∧ 0 ≤ n ∧ n ≤ 1048576 ∧ Hid (∀ i, i < k → (A.getD i ByteArray.empty).size ≤ 1048576)) (fun _ s => A.length - (intOf s).toNat)
  case atStart => exact ⟨0, A.length, Nat.zero_le _, rfl, by go_num, by omega, by omega, fun i hi => by omega⟩
  case round =>
    obtain ⟨k, n, hk, rfl, rfl, hn0, hn1, HK⟩ := hrel
    by_cases hlt : k < A.length
    · obtain ⟨b, off, rfl, _, hc⟩ := QA.out (by omega)
      have hcx := hc k hlt
      have hsk := SA.out k hlt
      clear hc
      obtain ⟨s, es⟩ : ∃ s, A.getD k ByteArray.empty = s := ⟨_, rfl⟩
      rw [es] at hcx hsk
      have ES : Hid (A.getD k ByteArray.empty = s) := es
      clear es
      by_cases h2 : 1048576 < s.size
      · go_wp2
        go_ret
        exact ⟨⟨false, rfl, fun h => by cases h⟩, rfl⟩
      by_cases h3 : 1048576 < n + s.size
      · go_wp2
        go_ret
        exact ⟨⟨false, rfl, fun h => by cases h⟩, rfl⟩
      · go_wp2
        go_round
        case rel => exact ⟨k + 1, n + s.size, by omega, by go_num, by go_num, by omega, by omega, upTo_next HK.out ES.out (by omega)⟩
        case measure => simp [intOf]; omega
    · obtain rfl : k = A.length := by omega
      by_cases h2 : 1048576 < C.length
      · go_wp2
        go_ret
        exact ⟨⟨false, rfl, fun h => by cases h⟩, rfl⟩
      by_cases h3 : 1048576 < n + C.length
      · go_wp2
        go_ret
        exact ⟨⟨false, rfl, fun h => by cases h⟩, rfl⟩
      go_wp2
      go_loop [9, 11] (fun z s => ∃ (k : Nat) (n : Int), k ≤ C.length ∧ s = .int .i64 k ∧ z = .int .i64 n ∧ 0 ≤ n ∧ n ≤ 1048576 ∧ Hid (∀ i, i < k → (C.getD i ByteArray.empty).size ≤ 1048576)) (fun _ s => C.length - (intOf s).toNat)
      case atStart => exact ⟨0, n + C.length, Nat.zero_le _, rfl, by go_num, by omega, by omega, fun i hi => by omega⟩
      case round =>
        obtain ⟨k, n, hk, rfl, rfl, hn0, hn1, HK2⟩ := hrel
        by_cases hlt : k < C.length
        · obtain ⟨b, off, rfl, _, hc⟩ := QC.out (by omega)
          have hcx := hc k hlt
          have hsk := SC.out k hlt
          clear hc
          obtain ⟨s, es⟩ : ∃ s, C.getD k ByteArray.empty = s := ⟨_, rfl⟩
          rw [es] at hcx hsk
          have ES : Hid (C.getD k ByteArray.empty = s) := es
          clear es
          by_cases h2 : 1048576 < s.size
          · go_wp2
            go_ret
            exact ⟨⟨false, rfl, fun h => by cases h⟩, rfl⟩
          by_cases h3 : 1048576 < n + s.size
          · go_wp2
            go_ret
            exact ⟨⟨false, rfl, fun h => by cases h⟩, rfl⟩
          · go_wp2
            go_round
            case rel => exact ⟨k + 1, n + s.size, by omega, by go_num, by go_num, by omega, by omega, upTo_next HK2.out ES.out (by omega)⟩
            case measure => simp [intOf]; omega
        · obtain rfl : k = C.length := by omega
          go_wp2
          go_ret
          exact ⟨⟨true, rfl, fun _ => ⟨⟨by omega, HK.out⟩, ⟨by omega, HK2.out⟩⟩⟩, rfl⟩
end Go.Proofs.Qxb6617277a.Json
