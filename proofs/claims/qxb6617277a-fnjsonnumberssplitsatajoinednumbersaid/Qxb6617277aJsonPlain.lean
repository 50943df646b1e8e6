import Derived.Test.Qxb6617277aBuilt
namespace Go.Proofs.Qxb6617277a.Json
open Go.Proofs.Qxb6617277a.Scan


/-- A whole number with a lone dot behind it: the scan stops ahead of the dot. -/
theorem scan_dot {s W : List Int} (hs : IsSign s) (hW : IsNum W) :
    scan (fun i => ((s ++ W) ++ [46]).getD i 0) ((s ++ W) ++ [46]).length = (s ++ W).length := by
  obtain ⟨g, hg⟩ : ∃ g, g = fun i => ((s ++ W) ++ [46]).getD i (0 : Int) := ⟨_, rfl⟩
  obtain ⟨n, hn⟩ : ∃ n, n = ((s ++ W) ++ [(46 : Int)]).length := ⟨_, rfl⟩
  have hall : Lies g 0 (s ++ (W ++ [46])) := by rw [hg, List.append_assoc]; exact lies_all _
  rw [← hg, ← hn]
  have hn' : n = s.length + (W.length + 1) := by rw [hn]; simp
  have l0 := hall.left
  have r0 := hall.right
  rw [Nat.zero_add] at r0
  have l1 := r0.left
  have r1 := r0.right
  have hWp := hW.pos
  have hhead : g s.length = W.getD 0 0 := by simpa using l1 0 hWp
  have hhd := num_head hW
  have hdot : g (s.length + W.length) = 46 := by simpa using r1 0 (by simp)
  have hi0 : i0 g n = s.length := by
    rcases hs with rfl | rfl
    · have : minusB g n = false := by
        simp only [List.length_nil] at hhead
        have h1 : g 0 ≠ 45 := by omega
        simp [minusB, h1]
      simp [i0, this]
    · have h1 : g 0 = 45 := by simpa using l0 0 (by simp)
      have : minusB g n = true := by rw [minusB_in g (by simp at hn'; omega), h1]; rfl
      simp [i0, this]
  have htail : tailE g n (s.length + W.length) = (s ++ W).length := by
    have hb : fracB g n (s.length + W.length) = false := fracB_out g (by omega)
    have he : expB g n (s.length + W.length) = false := by simp [expB, hdot]
    simp [tailE, frac, hb, expo, he]
  unfold scan
  rw [hi0]
  by_cases hz : W.getD 0 0 = 48
  · have hl1 : W.length = 1 := by rcases hW.lead with h | h <;> omega
    rw [if_pos (by rw [zeroB_in g (by omega), hhead, hz]; rfl)]
    rw [hl1] at htail
    exact htail
  · have hz' : ¬ g s.length = 48 := by rw [hhead]; exact hz
    rw [if_neg (by rw [zeroB_in g (by omega)]; simp [hz']), if_pos (by rw [posB_in g (by omega), hhead, decide_eq_true (by omega), decide_eq_true (by omega)]; rfl)]
    rw [dEnd_run l1 hW.digit (by omega) (by rw [hdot]; rfl) 1 hWp]
    exact htail

/-- A string's bytes. -/
def bl (s : ByteArray) : List Int := s.data.toList.map fun b => (b.toNat : Int)
def bts (s : ByteArray) (i : Nat) : Int := (bl s).getD i 0

theorem bl_length (s : ByteArray) : (bl s).length = s.size := by
  rw [bl, List.length_map, Array.length_toList]; rfl
theorem bl_byte (s : ByteArray) : ∀ x ∈ bl s, 0 ≤ x ∧ x ≤ 255 := by
  intro x hx
  obtain ⟨b, _, rfl⟩ := List.mem_map.1 hx
  have := b.toNat_lt
  omega
theorem bts_byte (s : ByteArray) (i : Nat) (h : i < s.size) : 0 ≤ bts s i ∧ bts s i ≤ 255 := by
  refine bl_byte s _ ?_
  have hl : i < (bl s).length := by rw [bl_length]; exact h
  unfold bts
  rw [List.getD_eq_getElem?_getD, List.getElem?_eq_getElem hl]
  exact List.getElem_mem hl

/-- Is the whole string a JSON number? (The empty string is let through by the program's test.) -/
def isNum (s : ByteArray) : Bool := scan (bts s) s.size == s.size
def F (L : List ByteArray) : List ByteArray := L.filter isNum

theorem F_snoc_yes {L : List ByteArray} {k : Nat} (h : k < L.length) {s : ByteArray} (hs : L.getD k ByteArray.empty = s) (hn : isNum s = true) : F (L.take (k + 1)) = F (L.take k) ++ [s] := by
  rw [List.take_succ_eq_append_getElem h]
  have : L[k] = s := by rw [← hs]; simp [List.getD, h]
  rw [this]
  simp [F, hn]
theorem F_snoc_no {L : List ByteArray} {k : Nat} (h : k < L.length) {s : ByteArray} (hs : L.getD k ByteArray.empty = s) (hn : isNum s = false) : F (L.take (k + 1)) = F (L.take k) := by
  rw [List.take_succ_eq_append_getElem h]
  have : L[k] = s := by rw [← hs]; simp [List.getD, h]
  rw [this]
  simp [F, hn]
theorem F_le (L : List ByteArray) : (F L).length ≤ L.length := List.length_filter_le _ _
theorem F_F (L : List ByteArray) : F (F L) = F L := by simp [F]
theorem F_split {A B : List ByteArray} {num junk : ByteArray} (h1 : isNum num = true) (h2 : isNum junk = false) : F (A ++ (num :: junk :: B)) = F A ++ (num :: F B) := by
  simp [F, h1, h2]

theorem take_snoc_b (L : List ByteArray) {k : Nat} (h : k < L.length) {s : ByteArray} (hs : L.getD k ByteArray.empty = s) : L.take (k + 1) = L.take k ++ [s] := by
  rw [List.take_succ_eq_append_getElem h]
  have : L[k] = s := by rw [← hs]; simp [List.getD, h]
  rw [this]

/-- The text of a whole number with a sign, as a string, is a JSON number; with a dot behind it is none. -/
theorem isNum_of {s W : List Int} {num : ByteArray} (hs : IsSign s) (hW : IsNum W) (hb : bl num = s ++ W) : isNum num = true := by
  have h := scan_alone hs hW (F := []) (X := []) (.inl rfl) (.inl rfl)
  simp only [List.append_nil] at h
  rw [← hb, bl_length] at h
  have e : (fun i => (bl num).getD i 0) = bts num := rfl
  rw [e] at h
  unfold isNum
  rw [h]
  simp

theorem isNum_dot {s W : List Int} {junk : ByteArray} (hs : IsSign s) (hW : IsNum W) (hb : bl junk = (s ++ W) ++ [46]) : isNum junk = false := by
  have hl : junk.size = (s ++ W).length + 1 := by rw [← bl_length, hb]; simp; omega
  have key : scan (bts junk) junk.size ≠ junk.size := by
    have e : bts junk = fun i => ((s ++ W) ++ [46]).getD i 0 := by funext i; unfold bts; rw [hb]
    have hsz : junk.size = ((s ++ W) ++ [46]).length := by rw [← bl_length, hb]
    intro h
    -- the scan stops ahead of the dot
    have := scan_dot hs hW
    rw [← e, ← hsz, h] at this
    omega
  unfold isNum
  simpa using key
end Go.Proofs.Qxb6617277a.Json
