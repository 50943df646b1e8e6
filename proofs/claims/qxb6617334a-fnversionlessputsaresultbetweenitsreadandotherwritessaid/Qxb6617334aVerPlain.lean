import Derived.Test.Qxb6617334aVer
namespace Go.Proofs.Qxb6617334a.Ver

theorem less_read (c cl b s : Int) (hb : 0 ≤ b) (hs : 0 ≤ s) : lessB c cl 0 0 c cl b s = (b != 0 || s != 0) := by
  unfold lessB
  simp only [if_true]
  by_cases h : 0 = b
  · subst h
    rw [if_pos rfl]
    by_cases h2 : s = 0
    · subst h2; rfl
    · have : (s != 0) = true := by simp [h2]
      rw [this, decide_eq_true (by omega)]; rfl
  · rw [if_neg h]
    have : (b != 0) = true := by simp; omega
    rw [this, decide_eq_true (by omega)]; rfl

theorem less_back (c cl b s : Int) (hb : 0 ≤ b) (hs : 0 ≤ s) : lessB c cl b s c cl 0 0 = false := by
  unfold lessB
  simp only [if_true]
  by_cases h : b = 0
  · subst h
    rw [if_pos rfl]
    exact decide_eq_false (by omega)
  · rw [if_neg h]
    exact decide_eq_false (by omega)

theorem less_far {c cl pc pcl : Int} (h : ¬ (pc = c ∧ pcl = cl)) (b s b' s' pb ps : Int) : lessB c cl b s pc pcl pb ps = lessB c cl b' s' pc pcl pb ps ∧ lessB pc pcl pb ps c cl b s = lessB pc pcl pb ps c cl b' s' := by
  unfold lessB
  by_cases h1 : c = pc
  · have h2 : ¬ cl = pcl := fun e => h ⟨h1.symm, e.symm⟩
    have h3 : ¬ pcl = cl := fun e => h2 e.symm
    simp only [if_pos h1, if_pos h1.symm, if_neg h2, if_neg h3, and_self]
  · have h2 : ¬ pc = c := fun e => h1 e.symm
    simp only [if_neg h1, if_neg h2, and_self]

theorem less_other {c cl pc pcl : Int} (h : ¬ (pc = c ∧ pcl = cl)) (b s pb ps : Int) : lessB pc pcl pb ps c cl b s = !lessB c cl b s pc pcl pb ps := by
  unfold lessB
  by_cases h1 : c = pc
  · have h2 : ¬ cl = pcl := fun e => h ⟨h1.symm, e.symm⟩
    have h3 : ¬ pcl = cl := fun e => h2 e.symm
    simp only [if_pos h1, if_pos h1.symm, if_neg h2, if_neg h3]
    by_cases h4 : cl < pcl
    · rw [decide_eq_true h4, decide_eq_false (by omega)]; rfl
    · rw [decide_eq_false h4, decide_eq_true (by omega)]; rfl
  · have h2 : ¬ pc = c := fun e => h1 e.symm
    simp only [if_neg h1, if_neg h2]
    by_cases h4 : c < pc
    · rw [decide_eq_true h4, decide_eq_false (by omega)]; rfl
    · rw [decide_eq_false h4, decide_eq_true (by omega)]; rfl
end Go.Proofs.Qxb6617334a.Ver
