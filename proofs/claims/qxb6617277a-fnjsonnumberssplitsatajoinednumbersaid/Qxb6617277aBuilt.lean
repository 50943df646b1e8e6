import Derived.Test.Qxb6617277aScanPlain
namespace Go.Proofs.Qxb6617277a.Scan

/-- The bytes l lie from place p on. -/
def Lies (g : Nat → Int) (p : Nat) (l : List Int) : Prop := ∀ i, i < l.length → g (p + i) = l.getD i 0

theorem lies_all (L : List Int) : Lies (fun i => L.getD i 0) 0 L := fun i _ => by simp
theorem Lies.left {g : Nat → Int} {p : Nat} {a b : List Int} (h : Lies g p (a ++ b)) : Lies g p a := fun i hi => by
  rw [h i (by simp; omega)]
  simp [List.getD, List.getElem?_append_left hi]
theorem Lies.right {g : Nat → Int} {p : Nat} {a b : List Int} (h : Lies g p (a ++ b)) : Lies g (p + a.length) b := fun i hi => by
  have := h (a.length + i) (by simp; omega)
  rw [Nat.add_assoc, this]
  simp [List.getD, List.getElem?_append_right]

theorem dEnd_run {g : Nat → Int} {n p : Nat} {D : List Int} (hl : Lies g p D) (hd : ∀ x ∈ D, 48 ≤ x ∧ x ≤ 57) (hn : p + D.length ≤ n) (hs : dig (g (p + D.length)) = false) (j : Nat) (hj : j ≤ D.length) : dEnd g n (p + j) = p + D.length := by
  obtain ⟨m, hm⟩ : ∃ m, m = D.length - j := ⟨_, rfl⟩
  induction m generalizing j with
  | zero =>
    obtain rfl : j = D.length := by omega
    exact dEnd_stop g hs
  | succ m ih =>
    have hlt : j < D.length := by omega
    have e := hl j hlt
    have hx : D.getD j 0 ∈ D := by
      rw [List.getD_eq_getElem?_getD, List.getElem?_eq_getElem hlt]
      exact List.getElem_mem hlt
    have := hd _ hx
    rw [dEnd_step g (by omega) (by rw [e]; exact dig_yes this.1 this.2), Nat.add_assoc]
    exact ih (j + 1) (by omega) (by omega)

/-- What may stand behind a number: no digit, no '.', no 'e', no 'E'. -/
def Ends (x : Int) : Prop := dig x = false ∧ x ≠ 46 ∧ x ≠ 101 ∧ x ≠ 69

/-- A fraction, an exponent, each or nothing. -/
def IsFrac (F : List Int) : Prop := F = [] ∨ ∃ D, F = 46 :: D ∧ IsNum D
def IsExp (X : List Int) : Prop := X = [] ∨ ∃ e sg D, X = e :: (sg ++ D) ∧ (e = 69 ∨ e = 101) ∧ (sg = [] ∨ sg = [45] ∨ sg = [43]) ∧ IsNum D
def IsSign (s : List Int) : Prop := s = [] ∨ s = [45]

theorem num_head {D : List Int} (h : IsNum D) : 48 ≤ D.getD 0 0 ∧ D.getD 0 0 ≤ 57 := by
  have hp := h.pos
  have hx : D.getD 0 0 ∈ D := by
    rw [List.getD_eq_getElem?_getD, List.getElem?_eq_getElem hp]
    exact List.getElem_mem hp
  exact h.digit _ hx

theorem exp_head {X : List Int} (h : IsExp X) {x : Int} (hx : Ends x) {y : Int} (hy : y = if X = [] then x else X.getD 0 0) : dig y = false ∧ y ≠ 46 := by
  rcases h with rfl | ⟨e, sg, D, rfl, he, _⟩
  · simp at hy; subst hy; exact ⟨hx.1, hx.2.1⟩
  · simp at hy
    subst hy
    rcases he with rfl | rfl
    · exact ⟨rfl, by decide⟩
    · exact ⟨rfl, by decide⟩

theorem expo_built {g : Nat → Int} {n p : Nat} {X : List Int} (hX : IsExp X) (hl : Lies g p X) (hn : p + X.length ≤ n) (he : Ends (g (p + X.length))) : expo g n p = p + X.length := by
  rcases hX with rfl | ⟨e, sg, D, rfl, hee, hsg, hD⟩
  · have hb : expB g n p = false := by
      obtain ⟨_, _, h1, h2⟩ := he
      simp only [List.length_nil, Nat.add_zero] at h1 h2
      simp [expB, h1, h2]
    unfold expo
    rw [hb]
    simp
  · have hle : (e :: (sg ++ D)).length = 1 + (sg.length + D.length) := by simp; omega
    rw [hle] at hn he ⊢
    have h0 : g p = e := by simpa using hl 0 (by simp)
    have hDp := hD.pos
    have hlD : Lies g (p + 1 + sg.length) D := by
      have h1 : Lies g p ([e] ++ (sg ++ D)) := hl
      exact h1.right.right
    have hls : Lies g (p + 1) sg := by
      have h1 : Lies g p ([e] ++ (sg ++ D)) := hl
      exact h1.right.left
    have hhead : 48 ≤ g (p + 1 + sg.length) ∧ g (p + 1 + sg.length) ≤ 57 := by
      have := hlD 0 hDp
      rw [Nat.add_zero] at this
      rw [this]
      exact num_head hD
    have hb : expB g n p = true := by
      rw [expB_in g (by omega), h0]
      rcases hee with rfl | rfl <;> rfl
    have hse : signE g n (p + 1) = p + 1 + sg.length := by
      rcases hsg with rfl | rfl | rfl
      · have : signB g n (p + 1) = false := by
          simp only [List.length_nil, Nat.add_zero] at hhead
          have h1 : g (p + 1) ≠ 43 := by omega
          have h2 : g (p + 1) ≠ 45 := by omega
          simp [signB, h1, h2]
        simp [signE, this]
      · have h1 : g (p + 1) = 45 := by simpa using hls 0 (by simp)
        have : signB g n (p + 1) = true := by rw [signB_in g (by omega), h1]; rfl
        simp [signE, this]
      · have h1 : g (p + 1) = 43 := by simpa using hls 0 (by simp)
        have : signB g n (p + 1) = true := by rw [signB_in g (by omega), h1]; rfl
        simp [signE, this]
    have hdb : digB g n (p + 1 + sg.length) = true := by
      rw [digB_in g (by omega)]
      exact dig_yes hhead.1 hhead.2
    have hr := dEnd_run (n := n) hlD hD.digit (by omega) (by rw [Nat.add_assoc p 1, Nat.add_assoc p, Nat.add_assoc 1]; exact he.1) 1 hDp
    unfold expo
    rw [hb, hse, hdb]
    simp only [if_true]
    rw [hr]
    omega

theorem frac_built {g : Nat → Int} {n p : Nat} {F : List Int} (hF : IsFrac F) (hl : Lies g p F) (hn : p + F.length ≤ n) (hd : dig (g (p + F.length)) = false) (h46 : g (p + F.length) ≠ 46) : frac g n p = p + F.length := by
  rcases hF with rfl | ⟨D, rfl, hD⟩
  · have hb : fracB g n p = false := fracB_none g (by simpa using h46)
    unfold frac
    rw [hb]
    simp
  · have hle : (46 :: D).length = 1 + D.length := by simp; omega
    rw [hle] at hn hd ⊢
    have h0 : g p = 46 := by simpa using hl 0 (by simp)
    have hDp := hD.pos
    have hlD : Lies g (p + 1) D := by
      have h1 : Lies g p ([46] ++ D) := hl
      exact h1.right
    have hhead : 48 ≤ g (p + 1) ∧ g (p + 1) ≤ 57 := by
      have := hlD 0 hDp
      rw [Nat.add_zero] at this
      rw [this]
      exact num_head hD
    have hb : fracB g n p = true := by
      rw [fracB_dot g (by omega) h0]
      exact dig_yes hhead.1 hhead.2
    have hr := dEnd_run (n := n) hlD hD.digit (by omega) (by rw [Nat.add_assoc]; exact hd) 1 hDp
    unfold frac
    rw [hb]
    simp only [if_true]
    rw [show p + 2 = p + 1 + 1 by omega, hr]
    omega

/-- A built number, whatever follows that cannot belong to it, is found whole. -/
theorem scan_built {s W F X T : List Int} (hs : IsSign s) (hW : IsNum W) (hF : IsFrac F) (hX : IsExp X) (hT : Ends (T.getD 0 0)) :
    scan (fun i => (s ++ (W ++ (F ++ (X ++ T)))).getD i 0) (s ++ (W ++ (F ++ (X ++ T)))).length = s.length + (W.length + (F.length + X.length)) := by
  obtain ⟨g, hg⟩ : ∃ g, g = fun i => (s ++ (W ++ (F ++ (X ++ T)))).getD i 0 := ⟨_, rfl⟩
  obtain ⟨n, hn⟩ : ∃ n, n = (s ++ (W ++ (F ++ (X ++ T)))).length := ⟨_, rfl⟩
  have hall : Lies g 0 (s ++ (W ++ (F ++ (X ++ T)))) := by rw [hg]; exact lies_all _
  rw [← hg, ← hn]
  have hn' : n = s.length + (W.length + (F.length + (X.length + T.length))) := by rw [hn]; simp
  have l0 := hall.left
  have r0 := hall.right
  rw [Nat.zero_add] at r0
  have l1 := r0.left
  have r1 := r0.right
  have l2 := r1.left
  have r2 := r1.right
  have l3 := r2.left
  have r3 := r2.right
  have hWp := hW.pos
  have hhead : g s.length = W.getD 0 0 := by simpa using l1 0 hWp
  have hhd := num_head hW
  -- behind the exponent
  have eT : g (s.length + W.length + F.length + X.length) = T.getD 0 0 := by
    by_cases h : T.length = 0
    · have : T = [] := List.eq_nil_of_length_eq_zero h
      subst this
      rw [hg]
      simp only [List.getD]
      rw [List.getElem?_eq_none (by simp; omega)]
      rfl
    · simpa using r3 0 (by omega)
  have hE : Ends (g (s.length + W.length + F.length + X.length)) := by rw [eT]; exact hT
  -- behind the fraction
  have eX : g (s.length + W.length + F.length) = if X = [] then g (s.length + W.length + F.length + X.length) else X.getD 0 0 := by
    by_cases h : X = []
    · subst h; simp
    · rw [if_neg h]
      have : 0 < X.length := List.length_pos_iff.2 h
      simpa using l3 0 this
  have hX' := exp_head hX hE eX
  -- behind the whole part
  have hF' : dig (g (s.length + W.length)) = false := by
    rcases hF with rfl | ⟨D, rfl, hD⟩
    · simpa using hX'.1
    · have : g (s.length + W.length) = 46 := by simpa using l2 0 (by simp)
      rw [this]; rfl
  have hi0 : i0 g n = s.length := by
    rcases hs with rfl | rfl
    · have : minusB g n = false := by
        simp only [List.length_nil] at hhead
        have h1 : g 0 ≠ 45 := by omega
        simp [minusB, h1]
      simp [i0, this]
    · have h1 : g 0 = 45 := by simpa using l0 0 (by simp)
      have : minusB g n = true := by rw [minusB_in g (by simp at hn'; omega), h1]; rfl
      simp [i0, this]
  have htail : tailE g n (s.length + W.length) = s.length + (W.length + (F.length + X.length)) := by
    unfold tailE
    rw [frac_built hF l2 (by omega) hX'.1 hX'.2, expo_built hX l3 (by omega) hE]
    omega
  unfold scan
  rw [hi0]
  by_cases hz : W.getD 0 0 = 48
  · have hl1 : W.length = 1 := by rcases hW.lead with h | h <;> omega
    rw [if_pos (by rw [zeroB_in g (by omega), hhead, hz]; rfl)]
    rw [hl1] at htail ⊢
    exact htail
  · have hz' : ¬ g s.length = 48 := by rw [hhead]; exact hz
    rw [if_neg (by rw [zeroB_in g (by omega)]; simp [hz']), if_pos (by rw [posB_in g (by omega), hhead, decide_eq_true (by omega), decide_eq_true (by omega)]; rfl)]
    rw [dEnd_run l1 hW.digit (by omega) hF' 1 hWp]
    exact htail

/-- A built number is made of bytes. -/
theorem built_bytes {s W F X : List Int} (hs : IsSign s) (hW : IsNum W) (hF : IsFrac F) (hX : IsExp X) : ∀ x ∈ s ++ (W ++ (F ++ X)), 0 ≤ x ∧ x ≤ 255 := by
  intro x hx
  simp only [List.mem_append] at hx
  rcases hx with hx | hx | hx | hx
  · rcases hs with rfl | rfl
    · cases hx
    · simp at hx; omega
  · have := hW.digit x hx; omega
  · rcases hF with rfl | ⟨D, rfl, hD⟩
    · cases hx
    · rcases List.mem_cons.1 hx with rfl | hx
      · omega
      · have := hD.digit x hx; omega
  · rcases hX with rfl | ⟨e, sg, D, rfl, he, hsg, hD⟩
    · cases hx
    · rcases List.mem_cons.1 hx with rfl | hx
      · omega
      · rcases List.mem_append.1 hx with hx | hx
        · rcases hsg with rfl | rfl | rfl
          · cases hx
          · simp at hx; omega
          · simp at hx; omega
        · have := hD.digit x hx; omega

/-- Alone it is found whole. -/
theorem scan_alone {s W F X : List Int} (hs : IsSign s) (hW : IsNum W) (hF : IsFrac F) (hX : IsExp X) :
    scan (fun i => (s ++ (W ++ (F ++ X))).getD i 0) (s ++ (W ++ (F ++ X))).length = (s ++ (W ++ (F ++ X))).length := by
  have h := scan_built (T := []) hs hW hF hX ⟨rfl, by decide, by decide, by decide⟩
  rw [List.append_nil] at h
  rw [h]
  simp

/-- With a tail behind it too. -/
theorem scan_tail {s W F X T : List Int} (hs : IsSign s) (hW : IsNum W) (hF : IsFrac F) (hX : IsExp X) (hT : Ends (T.getD 0 0)) :
    scan (fun i => ((s ++ (W ++ (F ++ X))) ++ T).getD i 0) ((s ++ (W ++ (F ++ X))) ++ T).length = (s ++ (W ++ (F ++ X))).length := by
  have h := scan_built hs hW hF hX hT
  have e : (s ++ (W ++ (F ++ X))) ++ T = s ++ (W ++ (F ++ (X ++ T))) := by simp
  rw [e, h]
  simp

end Go.Proofs.Qxb6617277a.Scan
