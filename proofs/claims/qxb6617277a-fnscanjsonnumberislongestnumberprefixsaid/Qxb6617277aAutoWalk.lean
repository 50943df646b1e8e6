import Derived.Test.Qxb6617277aScanAll
import Derived.Test.Qxb6617277aAuto
namespace Go.Proofs.Qxb6617277a.Scan
open Go.RowKit
set_option linter.unusedSimpArgs false
set_option linter.unusedVariables false

set_option maxHeartbeats 400000 in
theorem walk_step0 (c : Int) (w : World) (h0 : 0 ≤ c) (h1 : c ≤ 255) : Calls Try.prog 22 #[.int .i64 0, .int .u8 c] w fun e w' => e = .returned (.int .i64 (step0 c)) ∧ w = w' := by
  by_cases a : c = 45
  · have a' : (c == 45) = true := by simp [a]
    have H : Hid (step0 c = 1) := by show step0 c = 1; unfold step0; rw [if_pos a]
    clear a
    go_enter Try.func22, Try.ntmps22
    go_wp2
    go_ret
    exact ⟨by rw [H.out]; rfl, rfl⟩
  have a' : (c == 45) = false := by simp [a]
  by_cases b : c = 48
  · have b' : (c == 48) = true := by simp [b]
    have H : Hid (step0 c = 2) := by show step0 c = 2; unfold step0; rw [if_neg a, if_pos b]
    clear a b
    go_enter Try.func22, Try.ntmps22
    go_wp2
    go_ret
    exact ⟨by rw [H.out]; rfl, rfl⟩
  have b' : (c == 48) = false := by simp [b]
  by_cases ra : 49 ≤ c
  · by_cases rb : c ≤ 57
    · have H : Hid (step0 c = 3) := by show step0 c = 3; unfold step0; rw [if_neg a, if_neg b, if_pos ⟨ra, rb⟩]
      clear a b
      go_enter Try.func22, Try.ntmps22
      go_wp2
      go_ret
      exact ⟨by rw [H.out]; rfl, rfl⟩
    · have H : Hid (step0 c = -1) := by show step0 c = -1; unfold step0; rw [if_neg a, if_neg b, if_neg (fun h => rb h.2)]
      clear a b
      go_enter Try.func22, Try.ntmps22
      go_wp2
      go_ret
      exact ⟨by rw [H.out]; rfl, rfl⟩
  · have H : Hid (step0 c = -1) := by show step0 c = -1; unfold step0; rw [if_neg a, if_neg b, if_neg (fun h => ra h.1)]
    clear a b
    go_enter Try.func22, Try.ntmps22
    go_wp2
    go_ret
    exact ⟨by rw [H.out]; rfl, rfl⟩

set_option maxHeartbeats 400000 in
theorem walk_step1 (c : Int) (w : World) (h0 : 0 ≤ c) (h1 : c ≤ 255) : Calls Try.prog 22 #[.int .i64 1, .int .u8 c] w fun e w' => e = .returned (.int .i64 (step1 c)) ∧ w = w' := by
  by_cases b : c = 48
  · have b' : (c == 48) = true := by simp [b]
    have H : Hid (step1 c = 2) := by show step1 c = 2; unfold step1; rw [if_pos b]
    clear b
    go_enter Try.func22, Try.ntmps22
    go_wp2
    go_ret
    exact ⟨by rw [H.out]; rfl, rfl⟩
  have b' : (c == 48) = false := by simp [b]
  by_cases ra : 49 ≤ c
  · by_cases rb : c ≤ 57
    · have H : Hid (step1 c = 3) := by show step1 c = 3; unfold step1; rw [if_neg b, if_pos ⟨ra, rb⟩]
      clear b
      go_enter Try.func22, Try.ntmps22
      go_wp2
      go_ret
      exact ⟨by rw [H.out]; rfl, rfl⟩
    · have H : Hid (step1 c = -1) := by show step1 c = -1; unfold step1; rw [if_neg b, if_neg (fun h => rb h.2)]
      clear b
      go_enter Try.func22, Try.ntmps22
      go_wp2
      go_ret
      exact ⟨by rw [H.out]; rfl, rfl⟩
  · have H : Hid (step1 c = -1) := by show step1 c = -1; unfold step1; rw [if_neg b, if_neg (fun h => ra h.1)]
    clear b
    go_enter Try.func22, Try.ntmps22
    go_wp2
    go_ret
    exact ⟨by rw [H.out]; rfl, rfl⟩

set_option maxHeartbeats 400000 in
theorem walk_step2 (c : Int) (w : World) (h0 : 0 ≤ c) (h1 : c ≤ 255) : Calls Try.prog 22 #[.int .i64 2, .int .u8 c] w fun e w' => e = .returned (.int .i64 (step2 c)) ∧ w = w' := by
  by_cases a : c = 46
  · have a' : (c == 46) = true := by simp [a]
    have H : Hid (step2 c = 4) := by show step2 c = 4; unfold step2; rw [if_pos a]
    clear a
    go_enter Try.func22, Try.ntmps22
    go_wp2
    go_ret
    exact ⟨by rw [H.out]; rfl, rfl⟩
  have a' : (c == 46) = false := by simp [a]
  by_cases e1 : c = 101
  · have e1' : (c == 101) = true := by simp [e1]
    have H : Hid (step2 c = 6) := by show step2 c = 6; unfold step2; rw [if_neg a, if_pos (.inl e1)]
    clear a e1
    go_enter Try.func22, Try.ntmps22
    go_wp2
    go_ret
    exact ⟨by rw [H.out]; rfl, rfl⟩
  have e1' : (c == 101) = false := by simp [e1]
  by_cases e2 : c = 69
  · have e2' : (c == 69) = true := by simp [e2]
    have H : Hid (step2 c = 6) := by show step2 c = 6; unfold step2; rw [if_neg a, if_pos (.inr e2)]
    clear a e1 e2
    go_enter Try.func22, Try.ntmps22
    go_wp2
    go_ret
    exact ⟨by rw [H.out]; rfl, rfl⟩
  have e2' : (c == 69) = false := by simp [e2]
  have H : Hid (step2 c = -1) := by show step2 c = -1; unfold step2; rw [if_neg a, if_neg (fun h => h.elim e1 e2)]
  clear a e1 e2
  go_enter Try.func22, Try.ntmps22
  go_wp2
  go_ret
  exact ⟨by rw [H.out]; rfl, rfl⟩

set_option maxHeartbeats 400000 in
theorem walk_step3 (c : Int) (w : World) (h0 : 0 ≤ c) (h1 : c ≤ 255) : Calls Try.prog 22 #[.int .i64 3, .int .u8 c] w fun e w' => e = .returned (.int .i64 (step3 c)) ∧ w = w' := by
  by_cases hd : dig c = true
  · have H : Hid (step3 c = 3) := by show step3 c = 3; unfold step3; rw [if_pos hd]
    go_enter Try.func22, Try.ntmps22
    go_wp2_with (go_at_call 9; refine (zzIsDigit_any _ _ h0 h1).mono ?_; rintro e w' ⟨rfl, rfl⟩)
    go_ret
    exact ⟨by rw [H.out]; rfl, rfl⟩
  have hdf : dig c = false := by simpa using hd
  clear hd
  by_cases a : c = 46
  · have a' : (c == 46) = true := by simp [a]
    have H : Hid (step3 c = 4) := by show step3 c = 4; unfold step3; rw [if_neg (by rw [hdf]; decide), if_pos a]
    clear a
    go_enter Try.func22, Try.ntmps22
    go_wp2_with (go_at_call 9; refine (zzIsDigit_any _ _ h0 h1).mono ?_; rintro e w' ⟨rfl, rfl⟩)
    go_ret
    exact ⟨by rw [H.out]; rfl, rfl⟩
  have a' : (c == 46) = false := by simp [a]
  by_cases e1 : c = 101
  · have e1' : (c == 101) = true := by simp [e1]
    have H : Hid (step3 c = 6) := by show step3 c = 6; unfold step3; rw [if_neg (by rw [hdf]; decide), if_neg a, if_pos (.inl e1)]
    clear a e1
    go_enter Try.func22, Try.ntmps22
    go_wp2_with (go_at_call 9; refine (zzIsDigit_any _ _ h0 h1).mono ?_; rintro e w' ⟨rfl, rfl⟩)
    go_ret
    exact ⟨by rw [H.out]; rfl, rfl⟩
  have e1' : (c == 101) = false := by simp [e1]
  by_cases e2 : c = 69
  · have e2' : (c == 69) = true := by simp [e2]
    have H : Hid (step3 c = 6) := by show step3 c = 6; unfold step3; rw [if_neg (by rw [hdf]; decide), if_neg a, if_pos (.inr e2)]
    clear a e1 e2
    go_enter Try.func22, Try.ntmps22
    go_wp2_with (go_at_call 9; refine (zzIsDigit_any _ _ h0 h1).mono ?_; rintro e w' ⟨rfl, rfl⟩)
    go_ret
    exact ⟨by rw [H.out]; rfl, rfl⟩
  have e2' : (c == 69) = false := by simp [e2]
  have H : Hid (step3 c = -1) := by show step3 c = -1; unfold step3; rw [if_neg (by rw [hdf]; decide), if_neg a, if_neg (fun h => h.elim e1 e2)]
  clear a e1 e2
  go_enter Try.func22, Try.ntmps22
  go_wp2_with (go_at_call 9; refine (zzIsDigit_any _ _ h0 h1).mono ?_; rintro e w' ⟨rfl, rfl⟩)
  go_ret
  exact ⟨by rw [H.out]; rfl, rfl⟩

set_option maxHeartbeats 400000 in
theorem walk_step4 (c : Int) (w : World) (h0 : 0 ≤ c) (h1 : c ≤ 255) : Calls Try.prog 22 #[.int .i64 4, .int .u8 c] w fun e w' => e = .returned (.int .i64 (step4 c)) ∧ w = w' := by
  by_cases hd : dig c = true
  · have H : Hid (step4 c = 5) := by show step4 c = 5; unfold step4; rw [if_pos hd]
    go_enter Try.func22, Try.ntmps22
    go_wp2_with (go_at_call 9; refine (zzIsDigit_any _ _ h0 h1).mono ?_; rintro e w' ⟨rfl, rfl⟩)
    go_ret
    exact ⟨by rw [H.out]; rfl, rfl⟩
  have hdf : dig c = false := by simpa using hd
  clear hd
  have H : Hid (step4 c = -1) := by show step4 c = -1; unfold step4; rw [if_neg (by rw [hdf]; decide)]
  go_enter Try.func22, Try.ntmps22
  go_wp2_with (go_at_call 9; refine (zzIsDigit_any _ _ h0 h1).mono ?_; rintro e w' ⟨rfl, rfl⟩)
  go_ret
  exact ⟨by rw [H.out]; rfl, rfl⟩

set_option maxHeartbeats 400000 in
theorem walk_step5 (c : Int) (w : World) (h0 : 0 ≤ c) (h1 : c ≤ 255) : Calls Try.prog 22 #[.int .i64 5, .int .u8 c] w fun e w' => e = .returned (.int .i64 (step5 c)) ∧ w = w' := by
  by_cases hd : dig c = true
  · have H : Hid (step5 c = 5) := by show step5 c = 5; unfold step5; rw [if_pos hd]
    go_enter Try.func22, Try.ntmps22
    go_wp2_with (go_at_call 9; refine (zzIsDigit_any _ _ h0 h1).mono ?_; rintro e w' ⟨rfl, rfl⟩)
    go_ret
    exact ⟨by rw [H.out]; rfl, rfl⟩
  have hdf : dig c = false := by simpa using hd
  clear hd
  by_cases e1 : c = 101
  · have e1' : (c == 101) = true := by simp [e1]
    have H : Hid (step5 c = 6) := by show step5 c = 6; unfold step5; rw [if_neg (by rw [hdf]; decide), if_pos (.inl e1)]
    clear e1
    go_enter Try.func22, Try.ntmps22
    go_wp2_with (go_at_call 9; refine (zzIsDigit_any _ _ h0 h1).mono ?_; rintro e w' ⟨rfl, rfl⟩)
    go_ret
    exact ⟨by rw [H.out]; rfl, rfl⟩
  have e1' : (c == 101) = false := by simp [e1]
  by_cases e2 : c = 69
  · have e2' : (c == 69) = true := by simp [e2]
    have H : Hid (step5 c = 6) := by show step5 c = 6; unfold step5; rw [if_neg (by rw [hdf]; decide), if_pos (.inr e2)]
    clear e1 e2
    go_enter Try.func22, Try.ntmps22
    go_wp2_with (go_at_call 9; refine (zzIsDigit_any _ _ h0 h1).mono ?_; rintro e w' ⟨rfl, rfl⟩)
    go_ret
    exact ⟨by rw [H.out]; rfl, rfl⟩
  have e2' : (c == 69) = false := by simp [e2]
  have H : Hid (step5 c = -1) := by show step5 c = -1; unfold step5; rw [if_neg (by rw [hdf]; decide), if_neg (fun h => h.elim e1 e2)]
  clear e1 e2
  go_enter Try.func22, Try.ntmps22
  go_wp2_with (go_at_call 9; refine (zzIsDigit_any _ _ h0 h1).mono ?_; rintro e w' ⟨rfl, rfl⟩)
  go_ret
  exact ⟨by rw [H.out]; rfl, rfl⟩

set_option maxHeartbeats 400000 in
theorem walk_step6 (c : Int) (w : World) (h0 : 0 ≤ c) (h1 : c ≤ 255) : Calls Try.prog 22 #[.int .i64 6, .int .u8 c] w fun e w' => e = .returned (.int .i64 (step6 c)) ∧ w = w' := by
  by_cases e1 : c = 43
  · have e1' : (c == 43) = true := by simp [e1]
    have H : Hid (step6 c = 7) := by show step6 c = 7; unfold step6; rw [if_pos (.inl e1)]
    clear e1
    go_enter Try.func22, Try.ntmps22
    go_wp2_with (go_at_call 9; refine (zzIsDigit_any _ _ h0 h1).mono ?_; rintro e w' ⟨rfl, rfl⟩)
    go_ret
    exact ⟨by rw [H.out]; rfl, rfl⟩
  have e1' : (c == 43) = false := by simp [e1]
  by_cases e2 : c = 45
  · have e2' : (c == 45) = true := by simp [e2]
    have H : Hid (step6 c = 7) := by show step6 c = 7; unfold step6; rw [if_pos (.inr e2)]
    clear e1 e2
    go_enter Try.func22, Try.ntmps22
    go_wp2_with (go_at_call 9; refine (zzIsDigit_any _ _ h0 h1).mono ?_; rintro e w' ⟨rfl, rfl⟩)
    go_ret
    exact ⟨by rw [H.out]; rfl, rfl⟩
  have e2' : (c == 45) = false := by simp [e2]
  by_cases hd : dig c = true
  · have H : Hid (step6 c = 8) := by show step6 c = 8; unfold step6; rw [if_neg (fun h => h.elim e1 e2), if_pos hd]
    clear e1 e2
    go_enter Try.func22, Try.ntmps22
    go_wp2_with (go_at_call 9; refine (zzIsDigit_any _ _ h0 h1).mono ?_; rintro e w' ⟨rfl, rfl⟩)
    go_ret
    exact ⟨by rw [H.out]; rfl, rfl⟩
  have hdf : dig c = false := by simpa using hd
  clear hd
  have H : Hid (step6 c = -1) := by show step6 c = -1; unfold step6; rw [if_neg (fun h => h.elim e1 e2), if_neg (by rw [hdf]; decide)]
  clear e1 e2
  go_enter Try.func22, Try.ntmps22
  go_wp2_with (go_at_call 9; refine (zzIsDigit_any _ _ h0 h1).mono ?_; rintro e w' ⟨rfl, rfl⟩)
  go_ret
  exact ⟨by rw [H.out]; rfl, rfl⟩

set_option maxHeartbeats 400000 in
theorem walk_step7 (c : Int) (w : World) (h0 : 0 ≤ c) (h1 : c ≤ 255) : Calls Try.prog 22 #[.int .i64 7, .int .u8 c] w fun e w' => e = .returned (.int .i64 (step7 c)) ∧ w = w' := by
  by_cases hd : dig c = true
  · have H : Hid (step7 c = 8) := by show step7 c = 8; unfold step7; rw [if_pos hd]
    go_enter Try.func22, Try.ntmps22
    go_wp2_with (go_at_call 9; refine (zzIsDigit_any _ _ h0 h1).mono ?_; rintro e w' ⟨rfl, rfl⟩)
    go_ret
    exact ⟨by rw [H.out]; rfl, rfl⟩
  have hdf : dig c = false := by simpa using hd
  clear hd
  have H : Hid (step7 c = -1) := by show step7 c = -1; unfold step7; rw [if_neg (by rw [hdf]; decide)]
  go_enter Try.func22, Try.ntmps22
  go_wp2_with (go_at_call 9; refine (zzIsDigit_any _ _ h0 h1).mono ?_; rintro e w' ⟨rfl, rfl⟩)
  go_ret
  exact ⟨by rw [H.out]; rfl, rfl⟩

set_option maxHeartbeats 400000 in
theorem walk_step8 (c : Int) (w : World) (h0 : 0 ≤ c) (h1 : c ≤ 255) : Calls Try.prog 22 #[.int .i64 8, .int .u8 c] w fun e w' => e = .returned (.int .i64 (step7 c)) ∧ w = w' := by
  by_cases hd : dig c = true
  · have H : Hid (step7 c = 8) := by show step7 c = 8; unfold step7; rw [if_pos hd]
    go_enter Try.func22, Try.ntmps22
    go_wp2_with (go_at_call 9; refine (zzIsDigit_any _ _ h0 h1).mono ?_; rintro e w' ⟨rfl, rfl⟩)
    go_ret
    exact ⟨by rw [H.out]; rfl, rfl⟩
  have hdf : dig c = false := by simpa using hd
  clear hd
  have H : Hid (step7 c = -1) := by show step7 c = -1; unfold step7; rw [if_neg (by rw [hdf]; decide)]
  go_enter Try.func22, Try.ntmps22
  go_wp2_with (go_at_call 9; refine (zzIsDigit_any _ _ h0 h1).mono ?_; rintro e w' ⟨rfl, rfl⟩)
  go_ret
  exact ⟨by rw [H.out]; rfl, rfl⟩


theorem walk_step (q c : Int) (w : World) (hq : 0 ≤ q ∧ q ≤ 8) (h0 : 0 ≤ c) (h1 : c ≤ 255) : Calls Try.prog 22 #[.int .i64 q, .int .u8 c] w fun e w' => e = .returned (.int .i64 (step q c)) ∧ w = w' := by
  rcases (show q = 0 ∨ q = 1 ∨ q = 2 ∨ q = 3 ∨ q = 4 ∨ q = 5 ∨ q = 6 ∨ q = 7 ∨ q = 8 by omega) with rfl | rfl | rfl | rfl | rfl | rfl | rfl | rfl | rfl
  · exact walk_step0 c w h0 h1
  · exact walk_step1 c w h0 h1
  · exact walk_step2 c w h0 h1
  · exact walk_step3 c w h0 h1
  · exact walk_step4 c w h0 h1
  · exact walk_step5 c w h0 h1
  · exact walk_step6 c w h0 h1
  · exact walk_step7 c w h0 h1
  · exact walk_step8 c w h0 h1

set_option maxHeartbeats 400000 in
theorem walk_acc (q : Int) (w : World) (hq : 0 ≤ q ∧ q ≤ 8) : Calls Try.prog 23 #[.int .i64 q] w fun e w' => e = .returned (.bool (acc q)) ∧ w = w' := by
  rcases (show q = 0 ∨ q = 1 ∨ q = 2 ∨ q = 3 ∨ q = 4 ∨ q = 5 ∨ q = 6 ∨ q = 7 ∨ q = 8 by omega) with rfl | rfl | rfl | rfl | rfl | rfl | rfl | rfl | rfl
  all_goals
    go_enter Try.func23, Try.ntmps23
    go_wp2
    go_ret
    exact ⟨rfl, rfl⟩
end Go.Proofs.Qxb6617277a.Scan
