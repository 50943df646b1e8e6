import Derived.Test.Qxb6617277aAutoWalk
namespace Go.Proofs.Qxb6617277a.Scan
open Go.RowKit
set_option linter.unusedSimpArgs false

set_option maxHeartbeats 1000000 in
set_option maxRecDepth 100000 in
theorem longest19 (g : Nat → Int) (n : Nat) (ao : Option Addr) (cap : Nat) (w : World) (hn : n ≤ 1048576) (hc : BytesAt g n ao w) (hg : Byte g n) :
    Calls Try.prog 19 #[.slice ao n cap] w fun e w' => e = .returned (.int .i64 ((longest g n : Nat) : Int)) ∧ w = w' := by
  obtain ⟨E, hE⟩ : ∃ E, longest g n = E := ⟨_, rfl⟩
  rw [hE]
  have HC : Hid (BytesAt g n ao w) := hc
  have HG : Hid (Byte g n) := hg
  have HE : Hid (G g n 0 0 0 = E) := hE
  clear hc hg hE
  go_enter Try.func19, Try.ntmps19
  go_wp2
  go_loop [3, 4, 5] (fun s3 s4 s5 => ∃ (k l : Nat) (q : Int), k ≤ n ∧ s5 = .int .i64 k ∧ s3 = .int .i64 q ∧ s4 = .int .i64 l ∧ 0 ≤ q ∧ q ≤ 8 ∧ Hid (G g n q l k = E)) (fun _ _ s5 => n - (intOf s5).toNat)
  case atStart => exact ⟨0, 0, 0, Nat.zero_le _, rfl, rfl, rfl, by omega, by omega, HE⟩
  case round =>
    obtain ⟨k, l, q, hk, rfl, rfl, rfl, hq0, hq1, HK⟩ := hrel
    by_cases hlt : k < n
    · obtain ⟨b, off, rfl, hb⟩ := HC.out (by omega)
      have hcx := hb k hlt
      obtain ⟨g0, g1⟩ := HG.out k hlt
      clear hb
      obtain ⟨q', eq'⟩ : ∃ q', q' = step q (g k) := ⟨_, rfl⟩
      have CS : Hid (Calls Try.prog 22 #[.int .i64 q, .int .u8 (g k)] w fun e w' => e = .returned (.int .i64 q') ∧ w = w') := by rw [eq']; exact walk_step q (g k) w ⟨hq0, hq1⟩ g0 g1
      have hr : q' = -1 ∨ (1 ≤ q' ∧ q' ≤ 8) := by rw [eq']; exact step_range q (g k)
      have EQ : Hid (step q (g k) = q') := eq'.symm
      clear eq'
      rcases hr with rfl | ⟨r0, r1⟩
      · have HL : Hid (l = E) := by rw [← HK.out]; exact (G_dead g l EQ.out).symm
        go_wp2_with (go_at_call 22; refine CS.out.mono ?_; rintro e w' ⟨rfl, rfl⟩)
        go_ret
        exact ⟨by rw [← HL.out]; rfl, rfl⟩
      · have HK2 : Hid (G g n q' (if acc q' then k + 1 else l) (k + 1) = E) := by rw [← HK.out]; exact (G_step g l hlt EQ.out (by omega)).symm
        have CA : Hid (Calls Try.prog 23 #[.int .i64 q'] w fun e w' => e = .returned (.bool (acc q')) ∧ w = w') := walk_acc q' w ⟨by omega, r1⟩
        have hne : (q' == -1) = false := by simp; omega
        cases ha : acc q'
        · rw [ha] at HK2 CA
          clear ha
          go_wp2_with (first | (go_at_call 22; refine CS.out.mono ?_; rintro e w' ⟨rfl, rfl⟩) | (go_at_call 23; refine CA.out.mono ?_; rintro e w' ⟨rfl, rfl⟩))
          go_round
          case rel => exact ⟨k + 1, l, q', by omega, by go_num, rfl, rfl, by omega, r1, HK2⟩
          case measure => simp [intOf]; omega
        · rw [ha] at HK2 CA
          clear ha
          go_wp2_with (first | (go_at_call 22; refine CS.out.mono ?_; rintro e w' ⟨rfl, rfl⟩) | (go_at_call 23; refine CA.out.mono ?_; rintro e w' ⟨rfl, rfl⟩))
          go_round
          case rel => exact ⟨k + 1, k + 1, q', by omega, by go_num, rfl, by go_num, by omega, r1, HK2⟩
          case measure => simp [intOf]; omega
    · have HL : Hid (l = E) := by rw [← HK.out]; exact (G_end g q l (by omega)).symm
      go_wp2
      go_ret
      exact ⟨by rw [← HL.out]; rfl, rfl⟩
end Go.Proofs.Qxb6617277a.Scan
