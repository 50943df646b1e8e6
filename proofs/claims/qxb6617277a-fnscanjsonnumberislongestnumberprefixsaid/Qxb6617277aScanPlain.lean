import GoSem.Core.Value
namespace Go.Proofs.Qxb6617277a.Scan

/-- A decimal digit. -/
def dig (x : Int) : Bool := decide (48 ≤ x) && decide (x ≤ 57)

theorem dig_iff (x : Int) : dig x = true ↔ 48 ≤ x ∧ x ≤ 57 := by simp [dig]
theorem dig_yes {x : Int} (h0 : 48 ≤ x) (h1 : x ≤ 57) : dig x = true := (dig_iff x).2 ⟨h0, h1⟩
theorem dig_no {x : Int} (h : x < 48 ∨ 57 < x) : dig x = false := by
  cases hd : dig x
  · rfl
  · have := (dig_iff x).1 hd; omega

/-- Where the digits from i on end, at most f of them. -/
def run (g : Nat → Int) : Nat → Nat → Nat
  | 0, i => i
  | f + 1, i => if dig (g i) then run g f (i + 1) else i

def dEnd (g : Nat → Int) (n i : Nat) : Nat := run g (n - i) i

theorem dEnd_end (g : Nat → Int) {n i : Nat} (h : n ≤ i) : dEnd g n i = i := by
  unfold dEnd
  rw [show n - i = 0 by omega]
  rfl
theorem dEnd_step (g : Nat → Int) {n i : Nat} (h : i < n) (hd : dig (g i) = true) : dEnd g n i = dEnd g n (i + 1) := by
  unfold dEnd
  rw [show n - i = (n - (i + 1)) + 1 by omega]
  simp [run, hd]
theorem dEnd_stop (g : Nat → Int) {n i : Nat} (hd : dig (g i) = false) : dEnd g n i = i := by
  by_cases h : i < n
  · unfold dEnd
    rw [show n - i = (n - (i + 1)) + 1 by omega]
    simp [run, hd]
  · exact dEnd_end g (by omega)

theorem run_le (g : Nat → Int) (f i : Nat) : i ≤ run g f i ∧ run g f i ≤ i + f := by
  induction f generalizing i with
  | zero => exact ⟨Nat.le_refl _, Nat.le_refl _⟩
  | succ f ih =>
    simp only [run]
    split
    · have := ih (i + 1); omega
    · omega
theorem dEnd_ge (g : Nat → Int) (n i : Nat) : i ≤ dEnd g n i := (run_le g _ _).1
theorem dEnd_le (g : Nat → Int) {n i : Nat} (h : i ≤ n) : dEnd g n i ≤ n := by
  have := (run_le g (n - i) i).2
  unfold dEnd; omega

/-- The tests of the scan. -/
def minusB (g : Nat → Int) (n : Nat) : Bool := decide (0 < n) && (g 0 == 45)
def zeroB (g : Nat → Int) (n i : Nat) : Bool := decide (i < n) && (g i == 48)
def posB (g : Nat → Int) (n i : Nat) : Bool := decide (i < n) && (decide (49 ≤ g i) && decide (g i ≤ 57))
def fracB (g : Nat → Int) (n i : Nat) : Bool := decide (i + 1 < n) && ((g i == 46) && dig (g (i + 1)))
def expB (g : Nat → Int) (n i : Nat) : Bool := decide (i < n) && ((g i == 101) || (g i == 69))
def signB (g : Nat → Int) (n i : Nat) : Bool := decide (i < n) && ((g i == 43) || (g i == 45))
def digB (g : Nat → Int) (n i : Nat) : Bool := decide (i < n) && dig (g i)

theorem minusB_in (g : Nat → Int) {n : Nat} (h : 0 < n) : minusB g n = (g 0 == 45) := by simp [minusB, h]
theorem zeroB_in (g : Nat → Int) {n i : Nat} (h : i < n) : zeroB g n i = (g i == 48) := by simp [zeroB, h]
theorem zeroB_out (g : Nat → Int) {n i : Nat} (h : ¬ i < n) : zeroB g n i = false := by simp [zeroB, h]
theorem posB_in (g : Nat → Int) {n i : Nat} (h : i < n) : posB g n i = (decide (49 ≤ g i) && decide (g i ≤ 57)) := by simp [posB, h]
theorem posB_out (g : Nat → Int) {n i : Nat} (h : ¬ i < n) : posB g n i = false := by simp [posB, h]
theorem fracB_in (g : Nat → Int) {n i : Nat} (h : i + 1 < n) : fracB g n i = ((g i == 46) && dig (g (i + 1))) := by simp [fracB, h]
theorem fracB_dot (g : Nat → Int) {n i : Nat} (h : i + 1 < n) (hz : g i = 46) : fracB g n i = dig (g (i + 1)) := by simp [fracB, h, hz]
theorem fracB_none (g : Nat → Int) {n i : Nat} (hz : g i ≠ 46) : fracB g n i = false := by simp [fracB, hz]
theorem fracB_out (g : Nat → Int) {n i : Nat} (h : ¬ i + 1 < n) : fracB g n i = false := by simp [fracB, h]
theorem expB_in (g : Nat → Int) {n i : Nat} (h : i < n) : expB g n i = ((g i == 101) || (g i == 69)) := by simp [expB, h]
theorem expB_out (g : Nat → Int) {n i : Nat} (h : ¬ i < n) : expB g n i = false := by simp [expB, h]
theorem signB_in (g : Nat → Int) {n i : Nat} (h : i < n) : signB g n i = ((g i == 43) || (g i == 45)) := by simp [signB, h]
theorem signB_out (g : Nat → Int) {n i : Nat} (h : ¬ i < n) : signB g n i = false := by simp [signB, h]
theorem digB_in (g : Nat → Int) {n i : Nat} (h : i < n) : digB g n i = dig (g i) := by simp [digB, h]
theorem digB_out (g : Nat → Int) {n i : Nat} (h : ¬ i < n) : digB g n i = false := by simp [digB, h]

/-- The scan's steps: behind the sign; behind a fraction; behind an exponent's sign; behind an exponent. -/
def i0 (g : Nat → Int) (n : Nat) : Nat := if minusB g n then 1 else 0
def frac (g : Nat → Int) (n i : Nat) : Nat := if fracB g n i then dEnd g n (i + 2) else i
def signE (g : Nat → Int) (n j : Nat) : Nat := if signB g n j then j + 1 else j
def expo (g : Nat → Int) (n i : Nat) : Nat := if expB g n i then (if digB g n (signE g n (i + 1)) then dEnd g n (signE g n (i + 1) + 1) else i) else i
def tailE (g : Nat → Int) (n i : Nat) : Nat := expo g n (frac g n i)
/-- scanJSONNumber over the bytes g 0, .., g (n - 1). -/
def scan (g : Nat → Int) (n : Nat) : Nat :=
  if zeroB g n (i0 g n) then tailE g n (i0 g n + 1) else if posB g n (i0 g n) then tailE g n (dEnd g n (i0 g n + 1)) else 0

theorem i0_le (g : Nat → Int) (n : Nat) : i0 g n ≤ n := by
  unfold i0 minusB
  split
  · rename_i h; simp at h; omega
  · omega
theorem frac_le (g : Nat → Int) {n i : Nat} (h : i ≤ n) : frac g n i ≤ n := by
  unfold frac
  split
  · rename_i h; simp [fracB] at h; exact dEnd_le g (by omega)
  · exact h
theorem signE_le (g : Nat → Int) {n i : Nat} (h : i ≤ n) : signE g n i ≤ n := by
  unfold signE
  split
  · rename_i h; simp [signB] at h; omega
  · exact h

/-- The text of a whole number: digits, no needless zero ahead. -/
structure IsNum (ds : List Int) : Prop where
  pos : 0 < ds.length
  le : ds.length ≤ 20
  digit : ∀ x ∈ ds, 48 ≤ x ∧ x ≤ 57
  lead : ds.length = 1 ∨ 49 ≤ ds.getD 0 0

end Go.Proofs.Qxb6617277a.Scan
