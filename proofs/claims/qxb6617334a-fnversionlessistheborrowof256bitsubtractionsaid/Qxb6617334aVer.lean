import Derived.Test.Qxb6617334aRows
import Derived.WalkKit
import Derived.WalkSpells
import Derived.WalkLawsBesides
import Derived.Handy
import Derived.Deep.RegionHeld3
import Derived.RowKit3
namespace Go.Proofs.Qxb6617334a.Ver
open Go.RowKit
set_option linter.unusedSimpArgs false

/-- Version.Less, plainly. -/
def lessB (a0 a1 a2 a3 b0 b1 b2 b3 : Int) : Bool :=
  if a0 = b0 then (if a1 = b1 then (if a2 = b2 then decide (a3 < b3) else decide (a2 < b2)) else decide (a1 < b1)) else decide (a0 < b0)

theorem mk_any (a b c d : Int) (w : World) : Calls Try.prog 7 #[.int .u64 a, .int .u64 b, .int .u64 c, .int .u64 d] w fun e w' =>
    e = .returned (.agg #[.int .u64 a, .int .u64 b, .int .u64 c, .int .u64 d]) ∧ ∃ x : Array Value, w' = w.alloc (.cells x 24) := by
  go_enter Try.func7, Try.ntmps7
  go_wp2
  simp [bodyPost, results, Try.results7, go_sem]
  exact ⟨_, rfl⟩

set_option maxHeartbeats 400000 in
theorem less_any (a0 a1 a2 a3 b0 b1 b2 b3 : Int) (w : World) :
    Calls Try.prog 8 #[.agg #[.int .u64 a0, .int .u64 a1, .int .u64 a2, .int .u64 a3], .agg #[.int .u64 b0, .int .u64 b1, .int .u64 b2, .int .u64 b3]] w fun e w' =>
      e = .returned (.bool (lessB a0 a1 a2 a3 b0 b1 b2 b3)) ∧ ∃ x y : Array Value, w' = (w.alloc (.cells x 24)).alloc (.cells y 24) := by
  by_cases h0 : a0 = b0
  · subst h0
    by_cases h1 : a1 = b1
    · subst h1
      by_cases h2 : a2 = b2
      · subst h2
        have H : Hid (lessB a0 a1 a2 a3 a0 a1 a2 b3 = decide (a3 < b3)) := by show _ = _; simp [lessB]
        go_enter Try.func8, Try.ntmps8
        go_wp2
        go_ret
        exact ⟨by rw [H.out]; rfl, _, _, rfl⟩
      · have H : Hid (lessB a0 a1 a2 a3 a0 a1 b2 b3 = decide (a2 < b2)) := by show _ = _; simp [lessB, h2]
        have h2' : (a2 != b2) = true := by simp [h2]
        clear h2
        go_enter Try.func8, Try.ntmps8
        go_wp2
        go_ret
        exact ⟨by rw [H.out]; rfl, _, _, rfl⟩
    · have H : Hid (lessB a0 a1 a2 a3 a0 b1 b2 b3 = decide (a1 < b1)) := by show _ = _; simp [lessB, h1]
      have h1' : (a1 != b1) = true := by simp [h1]
      clear h1
      go_enter Try.func8, Try.ntmps8
      go_wp2
      go_ret
      exact ⟨by rw [H.out]; rfl, _, _, rfl⟩
  · have H : Hid (lessB a0 a1 a2 a3 b0 b1 b2 b3 = decide (a0 < b0)) := by show _ = _; simp [lessB, h0]
    have h0' : (a0 != b0) = true := by simp [h0]
    clear h0
    go_enter Try.func8, Try.ntmps8
    go_wp2
    go_ret
    exact ⟨by rw [H.out]; rfl, _, _, rfl⟩
end Go.Proofs.Qxb6617334a.Ver
