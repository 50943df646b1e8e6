import Derived.Test.Qxb6617277aScanPlain
namespace Go.Proofs.Qxb6617277a.Scan

/-- One move of the automaton, state by state. -/
def step0 (c : Int) : Int := if c = 45 then 1 else if c = 48 then 2 else if 49 ≤ c ∧ c ≤ 57 then 3 else -1
def step1 (c : Int) : Int := if c = 48 then 2 else if 49 ≤ c ∧ c ≤ 57 then 3 else -1
def step2 (c : Int) : Int := if c = 46 then 4 else if c = 101 ∨ c = 69 then 6 else -1
def step3 (c : Int) : Int := if dig c then 3 else if c = 46 then 4 else if c = 101 ∨ c = 69 then 6 else -1
def step4 (c : Int) : Int := if dig c then 5 else -1
def step5 (c : Int) : Int := if dig c then 5 else if c = 101 ∨ c = 69 then 6 else -1
def step6 (c : Int) : Int := if c = 43 ∨ c = 45 then 7 else if dig c then 8 else -1
def step7 (c : Int) : Int := if dig c then 8 else -1
def step (q c : Int) : Int :=
  if q = 0 then step0 c else if q = 1 then step1 c else if q = 2 then step2 c else if q = 3 then step3 c else if q = 4 then step4 c else if q = 5 then step5 c else if q = 6 then step6 c else if q = 7 then step7 c else if q = 8 then step7 c else -1
def acc (q : Int) : Bool := (q == 2) || ((q == 3) || ((q == 5) || (q == 8)))

theorem step_range (q c : Int) : step q c = -1 ∨ (1 ≤ step q c ∧ step q c ≤ 8) := by
  unfold step step0 step1 step2 step3 step4 step5 step6 step7
  repeat' split
  all_goals omega

/-- The automaton run from place i on, at most f bytes; the last place where it stood in an accepting state. -/
def go (g : Nat → Int) : Nat → Int → Nat → Nat → Nat
  | 0, _, last, _ => last
  | f + 1, q, last, i => if step q (g i) = -1 then last else go g f (step q (g i)) (if acc (step q (g i)) then i + 1 else last) (i + 1)

def G (g : Nat → Int) (n : Nat) (q : Int) (last i : Nat) : Nat := go g (n - i) q last i

theorem G_end (g : Nat → Int) {n i : Nat} (q : Int) (last : Nat) (h : n ≤ i) : G g n q last i = last := by
  unfold G
  rw [show n - i = 0 by omega]
  rfl
theorem G_dead (g : Nat → Int) {n i : Nat} {q : Int} (last : Nat) (hs : step q (g i) = -1) : G g n q last i = last := by
  by_cases h : i < n
  · unfold G
    rw [show n - i = (n - (i + 1)) + 1 by omega]
    simp [go, hs]
  · exact G_end g q last (by omega)
theorem G_step (g : Nat → Int) {n i : Nat} {q q' : Int} (last : Nat) (h : i < n) (hs : step q (g i) = q') (hq : q' ≠ -1) : G g n q last i = G g n q' (if acc q' then i + 1 else last) (i + 1) := by
  unfold G
  rw [show n - i = (n - (i + 1)) + 1 by omega]
  simp only [go]
  rw [hs, if_neg hq]

/-- zzLongestNumberPrefix over the bytes g 0, .., g (n - 1). -/
def longest (g : Nat → Int) (n : Nat) : Nat := G g n 0 0 0

section
variable (g : Nat → Int) (n : Nat)

/-- An exponent's digits. -/
theorem G8 (i : Nat) : G g n 8 i i = dEnd g n i := by
  obtain ⟨m, hm⟩ : ∃ m, m = n - i := ⟨_, rfl⟩
  induction m generalizing i with
  | zero => rw [G_end g 8 i (by omega), dEnd_end g (by omega)]
  | succ m ih =>
    cases hd : dig (g i)
    · rw [G_dead g i (by simp [step, step7, hd]), dEnd_stop g hd]
    · rw [G_step g (q' := 8) i (by omega) (by simp [step, step7, hd]) (by decide), dEnd_step g (by omega) hd]
      exact ih (i + 1) (by omega)

theorem G7 (l j : Nat) : G g n 7 l j = if digB g n j then dEnd g n (j + 1) else l := by
  by_cases h : j < n
  · rw [digB_in g h]
    cases hd : dig (g j)
    · rw [G_dead g l (by simp [step, step7, hd])]
      simp
    · rw [G_step g (q' := 8) l h (by simp [step, step7, hd]) (by decide)]
      simpa [acc] using G8 g n (j + 1)
  · rw [G_end g 7 l (by omega), digB_out g h]
    simp

theorem G6 (l j : Nat) : G g n 6 l j = if digB g n (signE g n j) then dEnd g n (signE g n j + 1) else l := by
  by_cases h : j < n
  · by_cases hs : g j = 43 ∨ g j = 45
    · have hb : signB g n j = true := by rw [signB_in g h]; simpa using hs
      rw [G_step g (q' := 7) l h (by simp [step, step6, hs]) (by decide)]
      have e : signE g n j = j + 1 := by simp [signE, hb]
      rw [e]
      simpa [acc] using G7 g n l (j + 1)
    · have hb : signB g n j = false := by rw [signB_in g h]; simpa using hs
      have e : signE g n j = j := by simp [signE, hb]
      rw [e, digB_in g h]
      cases hd : dig (g j)
      · rw [G_dead g l (by simp [step, step6, hs, hd])]
        simp
      · rw [G_step g (q' := 8) l h (by simp [step, step6, hs, hd]) (by decide)]
        simpa [acc] using G8 g n (j + 1)
  · have hb : signB g n j = false := signB_out g h
    have e : signE g n j = j := by simp [signE, hb]
    rw [G_end g 6 l (by omega), e, digB_out g h]
    simp

/-- At an 'e' behind an accepting place. -/
theorem expo_e {i : Nat} (h : i < n) (he : g i = 101 ∨ g i = 69) : expo g n i = G g n 6 i (i + 1) := by
  have hb : expB g n i = true := by rw [expB_in g h]; simpa using he
  rw [G6]
  simp [expo, hb]
theorem expo_no {i : Nat} (he : ¬ (g i = 101 ∨ g i = 69)) : expo g n i = i := by
  have hb : expB g n i = false := by
    simp only [not_or] at he
    simp [expB, he.1, he.2]
  simp [expo, hb]
theorem expo_end {i : Nat} (h : ¬ i < n) : expo g n i = i := by simp [expo, expB_out g h]

theorem not_e_of_dig {x : Int} (h : dig x = true) : ¬ (x = 101 ∨ x = 69) := by have := (dig_iff x).1 h; omega
theorem not_dig_of_e {x : Int} (h : x = 101 ∨ x = 69) : dig x = false := dig_no (by omega)

theorem G5 (i : Nat) : G g n 5 i i = expo g n (dEnd g n i) := by
  obtain ⟨m, hm⟩ : ∃ m, m = n - i := ⟨_, rfl⟩
  induction m generalizing i with
  | zero => rw [G_end g 5 i (by omega), dEnd_end g (by omega), expo_end g n (by omega)]
  | succ m ih =>
    cases hd : dig (g i)
    · rw [dEnd_stop g hd]
      by_cases he : g i = 101 ∨ g i = 69
      · rw [G_step g (q' := 6) i (by omega) (by simp [step, step5, hd, he]) (by decide), expo_e g n (by omega) he]
        simp [acc]
      · rw [G_dead g i (by simp [step, step5, hd, he]), expo_no g n he]
    · rw [G_step g (q' := 5) i (by omega) (by simp [step, step5, hd]) (by decide), dEnd_step g (by omega) hd]
      simpa [acc] using ih (i + 1) (by omega)

theorem G4 (l i : Nat) : G g n 4 l i = if digB g n i then expo g n (dEnd g n (i + 1)) else l := by
  by_cases h : i < n
  · rw [digB_in g h]
    cases hd : dig (g i)
    · rw [G_dead g l (by simp [step, step4, hd])]
      simp
    · rw [G_step g (q' := 5) l h (by simp [step, step4, hd]) (by decide)]
      simpa [acc] using G5 g n (i + 1)
  · rw [G_end g 4 l (by omega), digB_out g h]
    simp

/-- At a dot behind the whole part. -/
theorem tail_dot {i : Nat} (_h : i < n) (hz : g i = 46) : tailE g n i = G g n 4 i (i + 1) := by
  rw [G4]
  by_cases h1 : i + 1 < n
  · rw [digB_in g h1]
    cases hd : dig (g (i + 1))
    · have hb : fracB g n i = false := by rw [fracB_dot g h1 hz]; exact hd
      simp only [tailE, frac, hb]
      simp
      exact expo_no g n (by omega)
    · have hb : fracB g n i = true := by rw [fracB_dot g h1 hz]; exact hd
      simp [tailE, frac, hb]
  · have hb : fracB g n i = false := fracB_out g h1
    rw [digB_out g h1]
    simp only [tailE, frac, hb]
    simp
    exact expo_no g n (by omega)
theorem tail_nodot {i : Nat} (hz : g i ≠ 46) : tailE g n i = expo g n i := by
  simp [tailE, frac, fracB_none g hz]

theorem G2 (i : Nat) : G g n 2 i i = tailE g n i := by
  by_cases h : i < n
  · by_cases hz : g i = 46
    · rw [G_step g (q' := 4) i h (by simp [step, step2, hz]) (by decide), tail_dot g n h hz]
      simp [acc]
    · rw [tail_nodot g n hz]
      by_cases he : g i = 101 ∨ g i = 69
      · rw [G_step g (q' := 6) i h (by simp [step, step2, hz, he]) (by decide), expo_e g n h he]
        simp [acc]
      · rw [G_dead g i (by simp [step, step2, hz, he]), expo_no g n he]
  · rw [G_end g 2 i (by omega)]
    have hb : fracB g n i = false := fracB_out g (by omega)
    simp only [tailE, frac, hb]
    simp
    exact (expo_end g n h).symm

theorem G3 (i : Nat) : G g n 3 i i = tailE g n (dEnd g n i) := by
  obtain ⟨m, hm⟩ : ∃ m, m = n - i := ⟨_, rfl⟩
  induction m generalizing i with
  | zero =>
    rw [G_end g 3 i (by omega), dEnd_end g (by omega)]
    have hb : fracB g n i = false := fracB_out g (by omega)
    simp only [tailE, frac, hb]
    simp
    exact (expo_end g n (by omega)).symm
  | succ m ih =>
    cases hd : dig (g i)
    · rw [dEnd_stop g hd]
      by_cases hz : g i = 46
      · rw [G_step g (q' := 4) i (by omega) (by rw [hz]; rfl) (by decide), tail_dot g n (by omega) hz]
        simp [acc]
      · rw [tail_nodot g n hz]
        by_cases he : g i = 101 ∨ g i = 69
        · rw [G_step g (q' := 6) i (by omega) (by simp [step, step3, hd, hz, he]) (by decide), expo_e g n (by omega) he]
          simp [acc]
        · rw [G_dead g i (by simp [step, step3, hd, hz, he]), expo_no g n he]
    · rw [G_step g (q' := 3) i (by omega) (by simp [step, step3, hd]) (by decide), dEnd_step g (by omega) hd]
      simpa [acc] using ih (i + 1) (by omega)

/-- The whole part from place i on, nothing accepted yet. -/
theorem whole_zero {i : Nat} {q : Int} (h : i < n) (hs : step q (g i) = 2) : G g n q 0 i = tailE g n (i + 1) := by
  rw [G_step g (q' := 2) 0 h hs (by decide)]
  simpa [acc] using G2 g n (i + 1)
theorem whole_pos {i : Nat} {q : Int} (h : i < n) (hs : step q (g i) = 3) : G g n q 0 i = tailE g n (dEnd g n (i + 1)) := by
  rw [G_step g (q' := 3) 0 h hs (by decide)]
  simpa [acc] using G3 g n (i + 1)

/-- THE PLAIN LAW: the scan finds the longest prefix that the automaton accepts. -/
theorem scan_longest : scan g n = longest g n := by
  unfold longest scan
  by_cases h0 : 0 < n
  · by_cases hm : g 0 = 45
    · have hb : minusB g n = true := by rw [minusB_in g h0, hm]; rfl
      have e : i0 g n = 1 := by simp [i0, hb]
      rw [e, G_step g (q' := 1) 0 h0 (by simp [step, step0, hm]) (by decide)]
      show _ = G g n 1 (if acc 1 then 0 + 1 else 0) (0 + 1)
      have ha : (if acc 1 then 0 + 1 else 0) = 0 := by decide
      rw [ha, Nat.zero_add]
      by_cases h1 : 1 < n
      · by_cases hz : g 1 = 48
        · rw [if_pos (by rw [zeroB_in g h1, hz]; rfl)]
          exact (whole_zero g n h1 (by simp [step, step1, hz])).symm
        · rw [if_neg (by rw [zeroB_in g h1]; simp [hz])]
          by_cases hp : 49 ≤ g 1 ∧ g 1 ≤ 57
          · rw [if_pos (by rw [posB_in g h1]; simp [hp.1, hp.2])]
            exact (whole_pos g n h1 (by simp [step, step1, hz, hp])).symm
          · rw [if_neg (by rw [posB_in g h1]; simpa using hp)]
            exact (G_dead g 0 (by simp [step, step1, hz, hp])).symm
      · rw [if_neg (by rw [zeroB_out g h1]; simp), if_neg (by rw [posB_out g h1]; simp)]
        exact (G_end g 1 0 (by omega)).symm
    · have hb : minusB g n = false := by rw [minusB_in g h0]; simpa using hm
      have e : i0 g n = 0 := by simp [i0, hb]
      rw [e]
      by_cases hz : g 0 = 48
      · rw [if_pos (by rw [zeroB_in g h0, hz]; rfl)]
        exact (whole_zero g n h0 (by simp [step, step0, hz])).symm
      · rw [if_neg (by rw [zeroB_in g h0]; simp [hz])]
        by_cases hp : 49 ≤ g 0 ∧ g 0 ≤ 57
        · rw [if_pos (by rw [posB_in g h0]; simp [hp.1, hp.2])]
          exact (whole_pos g n h0 (by simp [step, step0, hm, hz, hp])).symm
        · rw [if_neg (by rw [posB_in g h0]; simpa using hp)]
          exact (G_dead g 0 (by simp [step, step0, hm, hz, hp])).symm
  · have hb : minusB g n = false := by simp [minusB, h0]
    have e : i0 g n = 0 := by simp [i0, hb]
    rw [e, if_neg (by rw [zeroB_out g h0]; simp), if_neg (by rw [posB_out g h0]; simp)]
    exact (G_end g 0 0 (by omega)).symm
end
end Go.Proofs.Qxb6617277a.Scan
