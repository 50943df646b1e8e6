import Derived.Test.Qxb6617277aScan
namespace Go.Proofs.Qxb6617277a.Scan
open Go.RowKit
set_option linter.unusedSimpArgs false

/-- A slice of bytes as the walks are told of it: where it has an element it has an address, and its cells hold the bytes. -/
def BytesAt (g : Nat → Int) (n : Nat) (ao : Option Addr) (w : World) : Prop := 0 < n → ∃ b off, ao = some ⟨b, off, none⟩ ∧ Bytes g n b off w

theorem scan_zero (g : Nat → Int) : scan g 0 = 0 := by simp [scan, i0, minusB, zeroB, posB]

set_option maxHeartbeats 400000 in
theorem scan_none (ao : Option Addr) (cap : Nat) (w : World) : Calls Try.prog 20 #[.slice ao 0 cap] w fun e w' => e = .returned (.int .i64 0) ∧ w = w' := by
  go_enter Try.func20, Try.ntmps20
  go_wp2
  go_ret
  exact ⟨rfl, rfl⟩

theorem scan20 (g : Nat → Int) (n : Nat) (ao : Option Addr) (cap : Nat) (w : World) (hn : n ≤ 140737488355328) (hc : BytesAt g n ao w) (hg : Byte g n) :
    Calls Try.prog 20 #[.slice ao n cap] w fun e w' => e = .returned (.int .i64 ((scan g n : Nat) : Int)) ∧ w = w' := by
  rcases Nat.eq_zero_or_pos n with rfl | h0
  · rw [scan_zero]
    exact scan_none ao cap w
  · obtain ⟨b, off, rfl, hb⟩ := hc h0
    exact scan_some g n b off cap w hn h0 hb hg

set_option maxHeartbeats 400000 in
/-- ZZscanJSONNumber passes on. -/
theorem scan11 (g : Nat → Int) (n : Nat) (ao : Option Addr) (cap : Nat) (w : World) (hn : n ≤ 140737488355328) (hc : BytesAt g n ao w) (hg : Byte g n) :
    Calls Try.prog 11 #[.slice ao n cap] w fun e w' => e = .returned (.int .i64 ((scan g n : Nat) : Int)) ∧ w = w' := by
  have HC : Hid (BytesAt g n ao w) := hc
  have HG : Hid (Byte g n) := hg
  have HN : Hid (n ≤ 140737488355328) := hn
  clear hc hg hn
  go_enter Try.func11, Try.ntmps11
  go_wp2_with fail
  refine (scan20 g n ao cap w HN.out HC.out HG.out).mono ?_
  rintro e w' ⟨rfl, rfl⟩
  go_wp2
  go_ret
  exact ⟨rfl, rfl⟩

theorem zzIsDigit_any (x : Int) (w : World) (h0 : 0 ≤ x) (h1 : x ≤ 255) : Calls Try.prog 9 #[.int .u8 x] w fun e w' => e = .returned (.bool (dig x)) ∧ w = w' := by
  by_cases a : 48 ≤ x
  · by_cases b : x ≤ 57
    · have H : Hid (dig x = true) := dig_yes a b
      go_enter Try.func9, Try.ntmps9
      go_wp2
      go_ret
      exact ⟨by rw [H.out]; simp [a, b], rfl⟩
    · have H : Hid (dig x = false) := dig_no (by omega)
      go_enter Try.func9, Try.ntmps9
      go_wp2
      go_ret
      exact ⟨by rw [H.out]; simp [a, b], rfl⟩
  · have H : Hid (dig x = false) := dig_no (by omega)
    go_enter Try.func9, Try.ntmps9
    go_wp2
    go_ret
    exact ⟨by rw [H.out]; simp [a], rfl⟩
end Go.Proofs.Qxb6617277a.Scan
