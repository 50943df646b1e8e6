import Derived.Test.Qxb6617334aVerLaw4
namespace Go.Proofs.Qxb6617334a.Ver
open Go.RowKit
set_option linter.unusedSimpArgs false

/-- borrowOut, below256, plainly. -/
def bor (x y z : Int) : Int := if x < y then 1 else if z = 1 ∧ x = y then 1 else 0
def belowB (a0 a1 a2 a3 b0 b1 b2 b3 : Int) : Bool := bor a0 b0 (bor a1 b1 (bor a2 b2 (bor a3 b3 0))) == 1

set_option maxHeartbeats 400000 in
theorem bor_any (x y z : Int) (w : World) : Calls Try.prog 21 #[.int .u64 x, .int .u64 y, .int .u64 z] w fun e w' => e = .returned (.int .u64 (bor x y z)) ∧ w = w' := by
  by_cases h : x < y
  · have H : Hid (bor x y z = 1) := by show _ = _; simp [bor, h]
    go_enter Try.func21, Try.ntmps21
    go_wp2
    go_ret
    exact ⟨by rw [H.out]; rfl, rfl⟩
  by_cases hz : z = 1
  · subst hz
    by_cases e : x = y
    · subst e
      have H : Hid (bor x x 1 = 1) := by show _ = _; simp [bor]
      go_enter Try.func21, Try.ntmps21
      go_wp2
      go_ret
      exact ⟨by rw [H.out]; rfl, rfl⟩
    · have H : Hid (bor x y 1 = 0) := by show _ = _; simp [bor, h, e]
      have e' : (x == y) = false := by simp [e]
      clear e
      go_enter Try.func21, Try.ntmps21
      go_wp2
      go_ret
      exact ⟨by rw [H.out]; rfl, rfl⟩
  · have H : Hid (bor x y z = 0) := by show _ = _; simp [bor, h, hz]
    have hz' : (z == 1) = false := by simp [hz]
    clear hz
    go_enter Try.func21, Try.ntmps21
    go_wp2
    go_ret
    exact ⟨by rw [H.out]; rfl, rfl⟩

set_option maxHeartbeats 400000 in
theorem below_any (a0 a1 a2 a3 b0 b1 b2 b3 : Int) (w : World) :
    Calls Try.prog 9 #[.int .u64 a0, .int .u64 a1, .int .u64 a2, .int .u64 a3, .int .u64 b0, .int .u64 b1, .int .u64 b2, .int .u64 b3] w fun e w' => e = .returned (.bool (belowB a0 a1 a2 a3 b0 b1 b2 b3)) ∧ w = w' := by
  go_enter Try.func9, Try.ntmps9
  go_wp2_with fail
  refine (bor_any _ _ _ _).mono ?_
  rintro e w' ⟨rfl, rfl⟩
  go_wp2_with fail
  refine (bor_any _ _ _ _).mono ?_
  rintro e w' ⟨rfl, rfl⟩
  go_wp2_with fail
  refine (bor_any _ _ _ _).mono ?_
  rintro e w' ⟨rfl, rfl⟩
  go_wp2_with fail
  refine (bor_any _ _ _ _).mono ?_
  rintro e w' ⟨rfl, rfl⟩
  go_wp2
  go_ret
  exact ⟨rfl, rfl⟩

/-- THE PLAIN LAW: Less is the borrow. -/
theorem less_below (a0 a1 a2 a3 b0 b1 b2 b3 : Int) : lessB a0 a1 a2 a3 b0 b1 b2 b3 = belowB a0 a1 a2 a3 b0 b1 b2 b3 := by
  have key : ∀ x y z : Int, (z = 0 ∨ z = 1) → (bor x y z = 1 ↔ (x < y ∨ (x = y ∧ z = 1))) ∧ (bor x y z = 0 ∨ bor x y z = 1) := fun x y z _ => by
    unfold bor
    by_cases h : x < y
    · simp [h]
    · by_cases h2 : z = 1 ∧ x = y
      · rw [if_neg h, if_pos h2]; simp [h2.1, h2.2]
      · rw [if_neg h, if_neg h2]
        refine ⟨⟨fun e => by simp at e, fun e => ?_⟩, .inl rfl⟩
        rcases e with e | e
        · exact absurd e h
        · exact absurd ⟨e.2, e.1⟩ h2
  have k3 := key a3 b3 0 (.inl rfl)
  have k2 := key a2 b2 _ k3.2
  have k1 := key a1 b1 _ k2.2
  have k0 := key a0 b0 _ k1.2
  rw [Bool.eq_iff_iff]
  unfold belowB
  rw [beq_iff_eq, k0.1, k1.1, k2.1, k3.1]
  unfold lessB
  by_cases h0 : a0 = b0
  · rw [if_pos h0]
    by_cases h1 : a1 = b1
    · rw [if_pos h1]
      by_cases h2 : a2 = b2
      · rw [if_pos h2]; simp; omega
      · rw [if_neg h2]; simp; omega
    · rw [if_neg h1]; simp; omega
  · rw [if_neg h0]; simp; omega

theorem below_is {a0 a1 a2 a3 b0 b1 b2 b3 : Int} {r : Bool} (h : lessB a0 a1 a2 a3 b0 b1 b2 b3 = r) (w : World) :
    Calls Try.prog 9 #[.int .u64 a0, .int .u64 a1, .int .u64 a2, .int .u64 a3, .int .u64 b0, .int .u64 b1, .int .u64 b2, .int .u64 b3] w fun e w' => e = .returned (.bool r) ∧ w = w' := by
  rw [← h, less_below]; exact below_any a0 a1 a2 a3 b0 b1 b2 b3 w

set_option maxHeartbeats 1000000 in
theorem law3_walk (a0 a1 a2 a3 b0 b1 b2 b3 : Int) (w : World) :
    Calls Try.prog 3 #[.int .u64 a0, .int .u64 a1, .int .u64 a2, .int .u64 a3, .int .u64 b0, .int .u64 b1, .int .u64 b2, .int .u64 b3] w fun e w' => e = .returned (.bool true) ∧ Grown w w' := by
  obtain ⟨r1, e1⟩ : ∃ r, lessB a0 a1 a2 a3 b0 b1 b2 b3 = r := ⟨_, rfl⟩
  obtain ⟨r2, e2⟩ : ∃ r, lessB b0 b1 b2 b3 a0 a1 a2 a3 = r := ⟨_, rfl⟩
  have E1 : Hid (lessB a0 a1 a2 a3 b0 b1 b2 b3 = r1) := e1
  have E2 : Hid (lessB b0 b1 b2 b3 a0 a1 a2 a3 = r2) := e2
  clear e1 e2
  cases r1
  all_goals
    go_enter Try.func3, Try.ntmps3
    go_wp2_with fail
    refine (mk_any _ _ _ _ _).mono ?_
    rintro e w1 ⟨rfl, x1, rfl⟩
    go_wp2_with fail
    refine (mk_any _ _ _ _ _).mono ?_
    rintro e w1 ⟨rfl, x2, rfl⟩
    go_wp2_with fail
    refine (less_is E1.out _).mono ?_
    rintro e w1 ⟨rfl, y1, y2, rfl⟩
    go_wp2_with fail
    refine (below_is E1.out _).mono ?_
    rintro e w1 ⟨rfl, rfl⟩
    go_wp2_with fail
    refine (less_is E2.out _).mono ?_
    rintro e w1 ⟨rfl, y3, y4, rfl⟩
    go_wp2_with fail
    refine (below_is E2.out _).mono ?_
    rintro e w1 ⟨rfl, rfl⟩
    go_wp2
    go_ret
    exact ⟨by simp, by go_grown⟩
end Go.Proofs.Qxb6617334a.Ver
