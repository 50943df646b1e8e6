import Derived.Lib.AppendStr
namespace Go.Proofs.Qxb6617277a.Buf

/-- Where text k begins in the layout: every text before it and one separator each. -/
def st (S : Nat → ByteArray) : Nat → Nat
  | 0 => 0
  | k + 1 => st S k + ((S k).size + 1)

/-- The layout of the first k texts, as cells. -/
def lay (S : Nat → ByteArray) (q : Int) : Nat → List Value
  | 0 => []
  | k + 1 => lay S q k ++ Lib.strCells (S k) ++ [.int .u8 q]

theorem lay_length (S : Nat → ByteArray) (q : Int) (k : Nat) : (lay S q k).length = st S k := by
  induction k with
  | zero => rfl
  | succ k ih => simp [lay, st, ih, Lib.strCells_length]

theorem st_lt {S : Nat → ByteArray} {i j : Nat} (h : i < j) : st S i + ((S i).size + 1) ≤ st S j := by
  induction j with
  | zero => omega
  | succ j ih =>
    by_cases e : i = j
    · subst e; simp [st]
    · have := ih (by omega); simp [st]; omega

theorem st_le {S : Nat → ByteArray} {i j : Nat} (h : i ≤ j) : st S i ≤ st S j := by
  by_cases e : i = j
  · subst e; exact Nat.le_refl _
  · have := st_lt (S := S) (show i < j by omega); omega

theorem st_ge (S : Nat → ByteArray) (k : Nat) : k ≤ st S k := by
  induction k with
  | zero => exact Nat.le_refl _
  | succ k ih => simp [st]; omega

theorem lay_take (S : Nat → ByteArray) (q : Int) {i j : Nat} (h : i ≤ j) {m : Nat} (hm : m < st S i) : (lay S q j)[m]? = (lay S q i)[m]? := by
  induction j with
  | zero => obtain rfl : i = 0 := by omega
            rfl
  | succ j ih =>
    by_cases e : i = j + 1
    · subst e; rfl
    · rw [← ih (by omega)]
      have hl := lay_length S q j
      have hle := st_le (S := S) (show i ≤ j by omega)
      simp only [lay, List.append_assoc]
      rw [List.getElem?_append_left (by omega)]

theorem strCells_get (s : ByteArray) (m : Nat) (h : m < s.size) : (Lib.strCells s)[m]? = some (.int .u8 (s[m].toNat : Int)) := by
  have h' : m < s.data.toList.length := by simpa using h
  simp only [Lib.strCells, List.getElem?_map, List.getElem?_eq_getElem h', Option.map_some]
  rfl

/-- Inside text i: its bytes. -/
theorem lay_byte (S : Nat → ByteArray) (q : Int) {i n : Nat} (hi : i < n) {m : Nat} (hm : m < (S i).size) : (lay S q n)[st S i + m]? = some (.int .u8 ((S i)[m].toNat : Int)) := by
  rw [lay_take S q (show i + 1 ≤ n by omega) (by simp [st]; omega)]
  have hl := lay_length S q i
  simp only [lay, List.append_assoc]
  rw [List.getElem?_append_right (by omega), List.getElem?_append_left (by simp [Lib.strCells_length]; omega)]
  rw [show st S i + m - (lay S q i).length = m by omega, strCells_get _ _ hm]

/-- Behind text i: the separator. -/
theorem lay_sep (S : Nat → ByteArray) (q : Int) {i n : Nat} (hi : i < n) : (lay S q n)[st S i + (S i).size]? = some (.int .u8 q) := by
  rw [lay_take S q (show i + 1 ≤ n by omega) (by simp [st])]
  have hl := lay_length S q i
  simp only [lay, List.append_assoc]
  rw [List.getElem?_append_right (by omega), List.getElem?_append_right (by simp [Lib.strCells_length]; omega)]
  simp only [Lib.strCells_length]
  rw [show st S i + (S i).size - (lay S q i).length - (S i).size = 0 by omega]
  rfl

end Go.Proofs.Qxb6617277a.Buf
