import Derived.Test.Qxb6617277aBase
import Derived.Test.Qxb6617277aBufPlain
namespace Go.Proofs.Qxb6617277a.Buf
open Go.RowKit

theorem own_shape {w : World} {base : Nat} {e : TypeId} {size n : Nat} {v : Value} {xs : List Value} (h : w.ownsRow base e size v n xs) : ∃ ao c, v = .slice ao n c := by
  rcases h.2 with ⟨rfl, rfl⟩ | ⟨g, c, cur, rfl, _⟩
  · exact ⟨_, _, rfl⟩
  · exact ⟨_, _, rfl⟩

theorem rowIs_grown {w w' : World} {b : Nat} {t : TypeId} {n : Nat} {f : Nat → Value} {row : Option Nat} (h : w.rowIs b t n f) (hg : w.grownBy w' row) (hne : some b ≠ row) : w'.rowIs b t n f :=
  h.of_block (hg.block b h.lt hne)

theorem own_ne {w : World} {base : Nat} {e : TypeId} {size n : Nat} {v : Value} {xs : List Value} (h : w.ownsRow base e size v n xs) {k : Nat} (hk : k < base) : some k ≠ v.ownBlock := fun e => by
  have := (h.lt k e.symm).1
  omega

/-- One round of the first loop, on worlds. -/
theorem round1 {S : Nat → ByteArray} {q : Int} {n k B : Nat} {w wr w1 w2 : World} {v v1 v2 : Value} {o : Obj} (hB : B = w.heap.size) (hown0 : (wr.setCell ⟨B, k, none⟩ (.int .i64 (st S k))).ownsRow (B + 1) 5 1 v (st S k) (lay S q k))
    (hrow : wr.rowIs B 3 n (fun j => .int .i64 (if j < k then (st S j : Int) else 0))) (hnx : Below B w wr)
    (hown1 : w1.ownsRow (B + 1) 5 1 v1 (st S k + (S k).size) (lay S q k ++ Lib.strCells (S k))) (hgrow1 : (wr.setCell ⟨B, k, none⟩ (.int .i64 (st S k))).grownBy w1 v.ownBlock)
    (hown2 : w2.ownsRow (B + 1) 5 1 v2 (st S k + (S k).size + 1) (lay S q k ++ Lib.strCells (S k) ++ [.int .u8 q])) (hgrow2 : (w1.alloc o).grownBy w2 v1.ownBlock) :
    w2.ownsRow (B + 1) 5 1 v2 (st S (k + 1)) (lay S q (k + 1)) ∧ w2.rowIs B 3 n (fun j => .int .i64 (if j < k + 1 then (st S j : Int) else 0)) ∧ Below B w w2 := by
  have hsz := hnx.size
  have hlt := hrow.lt
  have hs1 := hgrow1.size
  simp only [World.size_setCell] at hs1
  refine ⟨hown2, ?_, ?_⟩
  · have h1 := rowIs_grown ((rowIs_grown (hrow.set k (.int .i64 (st S k))) hgrow1 (own_ne hown0 (by omega))).alloc o) hgrow2 (own_ne hown1 (by omega))
    refine h1.congr fun j _ => ?_
    by_cases e : j = k
    · subst e; simp
    · simp only [if_neg e]
      by_cases e2 : j < k
      · rw [if_pos e2, if_pos (by omega)]
      · rw [if_neg e2, if_neg (by omega)]
  · have b1 := (hnx.setCell (p := ⟨B, k, none⟩) (Nat.le_refl _) (.int .i64 (st S k))).grown hgrow1 (by simp; omega) (fun x hx => by have := (hown0.lt x hx).1; omega)
    exact (b1.alloc (by omega) o).grown hgrow2 (by simp; omega) (fun x hx => by have := (hown1.lt x hx).1; omega)

/-- What inBuffer leaves: a row g of n slices, all views of one row bb that holds the layout. -/
def Laid (S : Nat → ByteArray) (q : Int) (n : Nat) (B : Nat) (w' : World) (g : Nat) : Prop :=
  B ≤ g ∧ ∃ bb c, B ≤ bb ∧ (∀ i, i < n → w'.cell? ⟨g, i, none⟩ = some (.slice (some ⟨bb, st S i, none⟩) (st S n - st S i) (c - st S i))) ∧
    ∀ j u, (lay S q n)[j]? = some u → w'.cell? ⟨bb, j, none⟩ = some u

set_option maxHeartbeats 400000 in
theorem inBuffer_any (S : Nat → ByteArray) (n : Nat) (q : Int) (b off cap : Nat) (w : World) (hn : 0 < n) (htot : st S n ≤ 1048576)
    (hcell : ∀ i, i < n → w.cell? ⟨b, off + i, none⟩ = some (.string (S i))) (hb : b < w.heap.size) :
    Calls Try.prog 21 #[.slice (some ⟨b, off, none⟩) n cap, .int .u8 q] w fun e w' => ∃ g, e = .returned (.slice (some ⟨g, 0, none⟩) n n) ∧ Laid S q n w.heap.size w' g ∧ Below w.heap.size w w' := by
  have hnb : n ≤ 1048576 := Nat.le_trans (st_ge S n) htot
  have hmk := run_make_row' (P := Try.prog) 42 3 (.int .i64 0) 8 Try.underlying42 info3 rfl .i64 .i64 n (by omega) (by omega)
  have hmk2 := run_make_row' (P := Try.prog) 31 24 (.slice none 0 0) 24 Try.underlying31 info24 rfl .i64 .i64 n (by omega) (by omega)
  obtain ⟨i0, hi, hz0, hz1, hz2⟩ := info_parts info5
  go_enter Try.func21, Try.ntmps21
  go_wp2
  go_loopw [6, 17] (fun v i wr => ∃ k : Nat, k ≤ n ∧ i = .int .i64 k ∧ wr.ownsRow (w.heap.size + 1) 5 1 v (st S k) (lay S q k) ∧ wr.rowIs w.heap.size 3 n (fun j => .int .i64 (if j < k then (st S j : Int) else 0)) ∧ Below w.heap.size w wr)
    (fun _ i _ => n - (intOf i).toNat)
  case atStart =>
    refine ⟨0, Nat.zero_le _, rfl, World.ownsRow_nil _ _ _ _, ?_, ?_⟩
    · exact (World.rowIs_made w (.int .i64 0) n 3).congr fun j _ => by simp
    · exact (Below.refl _ _).alloc (Nat.le_refl _) _
  case round =>
    obtain ⟨k, hk, rfl, hown, hrow, hnx⟩ := hrel
    obtain ⟨ao, c, rfl⟩ := own_shape hown
    have hsk := st_le (S := S) hk
    by_cases hlt : k < n
    · have hcx : wr.cell? ⟨b, off + k, none⟩ = some (.string (S k)) := (hnx.cell (by exact hb)).trans (hcell k hlt)
      have hcs := hrow.cell hlt
      have hfs := hrow.frozen k
      have hown0 := ownsRow_setCell_below hown (a := ⟨w.heap.size, k, none⟩) (by simp) (.int .i64 (st S k))
      have hnx0 := hnx.setCell (p := ⟨w.heap.size, k, none⟩) (Nat.le_refl _) (.int .i64 (st S k))
      have hsz := hnx.size
      have hst : st S k + ((S k).size + 1) ≤ st S n := st_lt hlt
      go_wp2_with (first
        | (at_builtin; refine Lib.wpList_append_own_string _ rfl (.tmp 27) (.tmp 28) 24 9 rfl (w.heap.size + 1) 5 i0 Try.underlying24 Try.underlying9 hi hz0 hz1 hz2 _ _ _ rfl hown0 (S k) rfl (by unfold maxLen; omega) (by omega) (by simp; have := hrow.lt; omega) ?_; intro v1 w1 hown1 hgrow1 _)
        | (at_builtin; refine wpList_append_own _ rfl (.tmp 29) (.tmp 31) 24 rfl (w.heap.size + 1) 5 i0 (.int .u8 0) 1 1 Try.underlying24 hi hz0 hz1 hz2 rfl (by decide) _ _ _ rfl (hown1.alloc _) ⟨w1.heap.size, 0, none⟩ 1 1 [.int .u8 q] rfl rfl (cell_one_new _ _ _) (by intro u hu; simp at hu; subst hu; rfl) (by unfold maxLen; omega) (by omega) (by simp; have := hgrow1.size; simp at this; have := hrow.lt; omega) ?_; intro v2 w2 hown2 hgrow2 _))
      have R := round1 rfl hown0 hrow hnx hown1 hgrow1 hown2 hgrow2
      clear hown0 hown1 hgrow1 hown2 hgrow2 hrow hnx0
      go_roundw
      case rel => exact ⟨k + 1, by omega, by go_num, R.1, R.2.1, R.2.2⟩
      case measure => simp [intOf]; omega
    · obtain rfl : k = n := by omega
      have hgt := st_lt (S := S) hn
      rcases hown.2 with ⟨_, h0⟩ | ⟨bb, c', cur, hv, hbb, hcur, hlc, hcm, hcs, htk⟩
      · omega
      simp only [Value.slice.injEq] at hv
      obtain ⟨hv1, _, hv2⟩ := hv
      subst hv1 hv2
      obtain ⟨wo, rfl⟩ : ∃ wo : World, wo = wr := ⟨_, rfl⟩
      have hbsz : bb < wo.heap.size := (Array.getElem?_eq_some_iff.1 hcur).1
      have hHo : Hid (wo.ownsRow (w.heap.size + 1) 5 1 (.slice (some ⟨bb, 0, none⟩) (st S k) c) (st S k) (lay S q k)) := hown
      clear hown hcs htk hcur hcm
      go_wp2
      go_loopw [39] (fun i wx => ∃ m : Nat, m ≤ k ∧ i = .int .i64 m ∧ wx.rowIs wo.heap.size 24 k (fun j => if j < m then .slice (some ⟨bb, st S j, none⟩) (st S k - st S j) (c - st S j) else .slice none 0 0) ∧ Below wo.heap.size wo wx)
        (fun i _ => k - (intOf i).toNat)
      case atStart =>
        exact ⟨0, Nat.zero_le _, rfl, (World.rowIs_made wo (.slice none 0 0) k 24).congr fun j _ => by simp, (Below.refl _ _).alloc (Nat.le_refl _) _⟩
      case round =>
        obtain ⟨m, hm, rfl, hrow2, hnx2⟩ := hrel
        by_cases hlt : m < k
        · have hsm := st_lt (S := S) hlt
          have hcm : wr.cell? ⟨w.heap.size, m, none⟩ = some (.int .i64 (st S m)) := by
            rw [hnx2.cell (by exact hrow.lt), hrow.cell hlt, if_pos hlt]
          have hcs := hrow2.cell hlt
          have hfs := hrow2.frozen m
          go_wp2
          go_roundw
          case rel =>
            refine ⟨m + 1, by omega, by go_num, (hrow2.set m _).congr fun j _ => ?_, hnx2.setCell (Nat.le_refl _) _⟩
            by_cases e : j = m
            · subst e; simp
            · simp only [if_neg e]
              by_cases e2 : j < m
              · rw [if_pos e2, if_pos (by omega)]
              · rw [if_neg e2, if_neg (by omega)]
          case measure => simp [intOf]; omega
        · go_wp2
          go_ret
          obtain rfl : m = k := by omega
          have hown := hHo.out
          refine ⟨wo.heap.size, rfl, ⟨hnx.size, bb, c, by omega, fun i hi => ?_, fun j u hu => ?_⟩, hnx.trans (hnx2.mono hnx.size)⟩
          · rw [hrow2.cell hi, if_pos hi]
          · rw [hnx2.cell (by exact hbsz), hown.cellAt j (by
              have := (List.getElem?_eq_some_iff.1 hu).1
              rw [lay_length] at this
              omega), hu]
end Go.Proofs.Qxb6617277a.Buf
