import Derived.Test.Qxb6617277aScanAll
import Derived.Test.Qxb6617277aDigs
import Derived.Test.Qxb6617277aBuilt
namespace Go.Proofs.Qxb6617277a.Scan
open Go.RowKit
set_option linter.unusedSimpArgs false

/-- The value v owns the bytes l. -/
def Owns (B : Nat) (l : List Int) (v : Value) (w : World) : Prop := w.ownsRow B 5 1 v l.length (l.map (Value.int .u8))

theorem Owns.shape {B : Nat} {l : List Int} {v : Value} {w : World} (h : Owns B l v w) : ∃ ao c, v = .slice ao l.length c := own_shape' h

/-- One byte more. -/
theorem owns_byte {B : Nat} {l : List Int} {v v2 : Value} {w wr w2 : World} {y : Int} {o : Obj} (hB0 : B ≤ w.heap.size) (h : Owns B l v wr) (hB : Below B w wr)
    (hown2 : w2.ownsRow B 5 1 v2 (l.length + 1) (l.map (Value.int .u8) ++ [.int .u8 y])) (hgrow2 : (wr.alloc o).grownBy w2 v.ownBlock) : Owns B (l ++ [y]) v2 w2 ∧ Below B w w2 := by
  have hs := hB.size
  refine ⟨?_, (hB.alloc (by omega) o).grown hgrow2 (by simp; omega) (fun x hx => (World.ownsRow.lt h x hx).1)⟩
  unfold Owns
  rw [List.map_append, List.length_append]
  exact hown2

theorem owns_digs {B : Nat} {l ds : List Int} {v2 : Value} {w2 : World} (h : w2.ownsRow B 5 1 v2 (l.length + ds.length) (l.map (Value.int .u8) ++ ds.map (Value.int .u8))) : Owns B (l ++ ds) v2 w2 := by
  unfold Owns
  rw [List.map_append, List.length_append]
  exact h

theorem getD_mem {l : List Int} {i : Nat} (h : i < l.length) : l.getD i 0 ∈ l := by
  rw [List.getD_eq_getElem?_getD, List.getElem?_eq_getElem h]
  exact List.getElem_mem h

/-- What a value that owns bytes, at least one, looks like. -/
theorem Owns.cells {B : Nat} {l : List Int} {v : Value} {w : World} (h : Owns B l v w) (h0 : 0 < l.length) :
    ∃ g c, v = .slice (some ⟨g, 0, none⟩) l.length c ∧ B ≤ g ∧ g < w.heap.size ∧ ∀ i, i < l.length → w.cell? ⟨g, i, none⟩ = some (.int .u8 (l.getD i 0)) := by
  have hown : w.ownsRow B 5 1 v l.length (l.map (Value.int .u8)) := h
  rcases hown.2 with ⟨_, h1⟩ | ⟨g, c, cur, rfl, hb, hg, _⟩
  · omega
  · refine ⟨g, c, rfl, hb, (Array.getElem?_eq_some_iff.1 hg).1, fun i hi => ?_⟩
    rw [hown.cellAt i (by omega)]
    simp [List.getD, hi]

set_option maxHeartbeats 400000 in
theorem bytes8 (a0 : Bool) (a1 : Int) (a2 : Bool) (a3 : Int) (a4 a5 : Bool) (a6 a7 : Int) (ao : Option Addr) (n cap : Nat) (w : World) (hn : n ≤ maxLen) :
    Calls Try.prog 8 #[.bool a0, .int .u64 a1, .bool a2, .int .u64 a3, .bool a4, .bool a5, .int .i8 a6, .int .u64 a7, .slice ao n cap] w fun e w' => e = .returned (.bool (decide (n ≤ 1048576))) ∧ w = w' := by
  unfold maxLen at hn
  by_cases h : 1048576 < n
  · go_enter Try.func8, Try.ntmps8
    go_wp2
    go_ret
    exact ⟨by simp; omega, rfl⟩
  · go_enter Try.func8, Try.ntmps8
    go_wp2
    go_ret
    exact ⟨by simp; omega, rfl⟩

set_option maxHeartbeats 2000000 in
set_option maxRecDepth 100000 in
theorem law3_walk (neg : Bool) (whole : Nat) (hasFrac : Bool) (fr : Nat) (hasExp upperE : Bool) (sgn : Int) (ex : Nat) (ao : Option Addr) (t cap : Nat) (Z : List Int) (w : World)
    (hw1 : Word whole) (hw2 : Word fr) (hw3 : Word ex) (ht : t ≤ maxLen) (hZ : Z.length = t) (hz : ∀ x ∈ Z, 0 ≤ x ∧ x ≤ 255) (hc : 0 < t → ∃ b off, ao = some ⟨b, off, none⟩ ∧ b < w.heap.size ∧ ∀ i, i < t → w.cell? ⟨b, off + i, none⟩ = some (.int .u8 (Z.getD i 0))) :
    Calls Try.prog 3 #[.bool neg, .int .u64 (whole : Int), .bool hasFrac, .int .u64 (fr : Int), .bool hasExp, .bool upperE, .int .i8 sgn, .int .u64 (ex : Int), .slice ao t cap] w fun e w' => e = .returned (.bool true) ∧ Below w.heap.size w w' := by
  obtain ⟨i0, hi, hz0, hz1, hz2⟩ := info_parts info5
  have HC : Hid (0 < t → ∃ b off, ao = some ⟨b, off, none⟩ ∧ b < w.heap.size ∧ ∀ i, i < t → w.cell? ⟨b, off + i, none⟩ = some (.int .u8 (Z.getD i 0))) := hc
  have HZ : Hid (Z.length = t) := hZ
  have Hz : Hid (∀ x ∈ Z, 0 ≤ x ∧ x ≤ 255) := hz
  have HT : Hid (t ≤ maxLen) := ht
  clear hc hZ hz ht
  go_enter Try.func3, Try.ntmps3
  go_wp2_with fail
  refine (bytes8 neg whole hasFrac fr hasExp upperE sgn ex ao t cap w HT.out).mono ?_
  rintro e w' ⟨rfl, rfl⟩
  by_cases h20 : t ≤ 1048576
  case neg =>
    rw [decide_eq_false h20]
    go_wp2
    go_ret
    exact ⟨rfl, Below.refl _ _⟩
  case pos =>
  rw [decide_eq_true h20]
  go_upto_if 41 with fail
  go_cut [] (fun wx => w = wx ∧ Hid (Ends (Z.getD 0 0)))
  case first =>
    rcases Nat.eq_zero_or_pos t with rfl | h0
    · have HE : Hid (Ends (Z.getD 0 0)) := by
        have : Z = [] := List.eq_nil_of_length_eq_zero HZ.out
        subst this
        exact ⟨rfl, by decide, by decide, by decide⟩
      go_wp2
      go_meet
      case rel => exact ⟨rfl, HE⟩
    · obtain ⟨b, off, rfl, hb, hc⟩ := HC.out h0
      obtain ⟨y, hy⟩ : ∃ y, y = Z.getD 0 0 := ⟨_, rfl⟩
      have hcx : w.cell? ⟨b, off, none⟩ = some (.int .u8 y) := by rw [hy]; simpa using hc 0 h0
      obtain ⟨y0, y1⟩ : 0 ≤ y ∧ y ≤ 255 := by
        rw [hy]
        have hl : 0 < Z.length := by rw [HZ.out]; exact h0
        refine Hz.out _ ?_
        rw [List.getD_eq_getElem?_getD, List.getElem?_eq_getElem hl]
        exact List.getElem_mem hl
      have HY : Hid (y = Z.getD 0 0) := hy
      clear hy hc
      cases hd : dig y
      case true =>
        go_wp2_with (go_at_call 9; refine (zzIsDigit_any _ _ y0 y1).mono ?_; rintro e w' ⟨rfl, rfl⟩)
        go_ret
        exact ⟨rfl, Below.refl _ _⟩
      case false =>
      by_cases h1 : y = 46
      · have h1' : (y == 46) = true := by simp [h1]
        clear h1
        go_wp2_with (go_at_call 9; refine (zzIsDigit_any _ _ y0 y1).mono ?_; rintro e w' ⟨rfl, rfl⟩)
        go_ret
        exact ⟨rfl, Below.refl _ _⟩
      have h1' : (y == 46) = false := by simp [h1]
      by_cases h2 : y = 101
      · have h2' : (y == 101) = true := by simp [h2]
        clear h1 h2
        go_wp2_with (go_at_call 9; refine (zzIsDigit_any _ _ y0 y1).mono ?_; rintro e w' ⟨rfl, rfl⟩)
        go_ret
        exact ⟨rfl, Below.refl _ _⟩
      have h2' : (y == 101) = false := by simp [h2]
      by_cases h3 : y = 69
      · have h3' : (y == 69) = true := by simp [h3]
        clear h1 h2 h3
        go_wp2_with (go_at_call 9; refine (zzIsDigit_any _ _ y0 y1).mono ?_; rintro e w' ⟨rfl, rfl⟩)
        go_ret
        exact ⟨rfl, Below.refl _ _⟩
      have h3' : (y == 69) = false := by simp [h3]
      have HE : Hid (Ends (Z.getD 0 0)) := by rw [← HY.out]; exact ⟨hd, h1, h2, h3⟩
      clear h1 h2 h3
      go_wp2_with (go_at_call 9; refine (zzIsDigit_any _ _ y0 y1).mono ?_; rintro e w' ⟨rfl, rfl⟩)
      go_meet
      case rel => exact ⟨rfl, HE⟩
  case rest =>
  obtain ⟨rfl, HE⟩ := hcut
  have hmk : ∀ w : World, (Instr.makeSlice 24 (.int .i64 0) (.int .i64 64)).run Try.prog w = .ok (.slice (some ⟨w.heap.size, 0, none⟩) 0 64) (w.alloc (.cells (madeCells #[.int .u8 0] 64) 5)) := fun w => by
    have := run_make (P := Try.prog) w 24 5 i0 (.int .u8 0) Try.underlying24 hi hz0 .i64 .i64 0 64 (by decide) (by decide) (by rw [hz2]; decide) (by decide)
    rw [hz1] at this
    exact this
  go_upto_if 60 with fail
  clear hmk
  have hO0 : Owns w.heap.size [] (.slice (some ⟨w.heap.size, 0, none⟩) 0 64) (w.alloc (.cells (madeCells #[.int .u8 0] 64) 5)) := World.ownsRow_made w _ 64 (Nat.le_refl _) (by unfold maxLen; omega) (by simp [size_madeCells])
  have hB0 : Below w.heap.size w (w.alloc (.cells (madeCells #[.int .u8 0] 64) 5)) := (Below.refl _ _).alloc (Nat.le_refl _) _
  go_cut [20] (fun v wx => ∃ l, Hid (Owns w.heap.size l v wx) ∧ Hid (IsSign l) ∧ l.length ≤ 1 ∧ Below w.heap.size w wx)
  case first =>
    cases neg
    · go_wp2
      go_meet
      case rel => exact ⟨[], hO0, .inl rfl, by simp, hB0⟩
    · have hown : (w.alloc (.cells (madeCells #[.int .u8 0] 64) 5)).ownsRow w.heap.size 5 1 (.slice (some ⟨w.heap.size, 0, none⟩) 0 64) 0 [] := hO0
      go_wp2_with (at_builtin; refine wpList_append_own _ rfl (.tmp 61) (.tmp 62) 24 rfl w.heap.size 5 i0 (.int .u8 0) 1 1 Try.underlying24 hi hz0 hz1 hz2 rfl (by decide) _ _ _ rfl (hown.alloc _) ⟨w.heap.size + 1, 0, none⟩ 1 1 [.int .u8 45] rfl rfl (by simpa using cell_one_new (w.alloc (.cells (madeCells #[.int .u8 0] 64) 5)) _ _) (by intro u hu; simp at hu; subst hu; rfl) (by unfold maxLen; omega) (by omega) (by simp; omega) ?_; intro v2 w2 hown2 hgrow2 _)
      have R := owns_byte (l := []) (Nat.le_refl _) hO0 hB0 hown2 hgrow2
      go_meet
      case rel => exact ⟨[45], R.1, .inr rfl, by simp, R.2⟩
  case rest =>
  obtain ⟨s, HO, HS, hsl, hB⟩ := hcut
  obtain ⟨aoS, cS, rfl⟩ := HO.out.shape
  clear hO0 hB0
  go_wp2_with fail
  refine (appendUint_any whole hw1 w.heap.size _ _ _ _ _ hB.size (by omega) HO.out).mono ?_
  rintro e w1 ⟨v1, W, rfl, hW, hown1, hB1⟩
  obtain ⟨l1, e1⟩ : ∃ l1, l1 = s ++ W := ⟨_, rfl⟩
  have HO1 : Hid (Owns w.heap.size l1 v1 w1) := by rw [e1]; exact owns_digs hown1
  have HW : Hid (IsNum W) := hW
  have hl1 : l1.length ≤ 21 := by rw [e1]; have := hW.le; simp; omega
  have E1 : Hid (l1 = s ++ W) := e1
  have hB2 := hB.trans hB1
  clear hown1 hW HO hB hB1 e1
  obtain ⟨ao1, c1, hv1⟩ := HO1.out.shape
  rw [hv1] at HO1 ⊢
  clear hv1
  go_upto_if 67 with fail
  go_cut [20] (fun v wx => ∃ F, Hid (Owns w.heap.size (l1 ++ F) v wx) ∧ Hid (IsFrac F) ∧ F.length ≤ 21 ∧ Below w.heap.size w wx)
  case first =>
    cases hasFrac
    · go_wp2
      go_meet
      case rel => exact ⟨[], by simpa using HO1, .inl rfl, by simp, hB2⟩
    · have hsz := hB2.size
      have hown := HO1.out
      go_wp2_with (at_builtin; refine wpList_append_own _ rfl (.tmp 68) (.tmp 69) 24 rfl w.heap.size 5 i0 (.int .u8 0) 1 1 Try.underlying24 hi hz0 hz1 hz2 rfl (by decide) _ _ _ rfl (World.ownsRow.alloc hown _) ⟨w1.heap.size, 0, none⟩ 1 1 [.int .u8 46] rfl rfl (cell_one_new _ _ _) (by intro u hu; simp at hu; subst hu; rfl) (by unfold maxLen; omega) (by omega) (by simp; omega) ?_; intro v2 w2 hown2 hgrow2 _)
      have R := owns_byte (Nat.le_refl _) hown hB2 hown2 hgrow2
      clear hown2 hgrow2 hown
      obtain ⟨HO2, hB3⟩ := R
      obtain ⟨ao2, c2, hv2⟩ := HO2.shape
      rw [hv2] at HO2 ⊢
      refine (appendUint_any fr hw2 w.heap.size _ _ _ _ _ hB3.size (by simp; omega) HO2).mono ?_
      rintro e w3 ⟨v3, D, rfl, hD, hown3, hB4⟩
      have HO3 : Hid (Owns w.heap.size (l1 ++ 46 :: D) v3 w3) := by
        have := owns_digs hown3
        rw [List.append_assoc] at this
        exact this
      have HF : Hid (IsFrac (46 :: D)) := .inr ⟨D, rfl, hD⟩
      have hDl := hD.le
      have hB5 := hB3.trans hB4
      clear hown3 hD hB3 hB4 HO2 hv2
      go_wp2
      go_meet
      case rel => exact ⟨46 :: D, HO3, HF, by simp; omega, hB5⟩
  case rest =>
  obtain ⟨F, HO2, HF, hFl, hB3⟩ := hcut
  clear HO1 hB2
  obtain ⟨l2, e2⟩ : ∃ l2, l2 = l1 ++ F := ⟨_, rfl⟩
  rw [← e2] at HO2
  have hl2 : l2.length ≤ 42 := by rw [e2]; simp; omega
  have E2 : Hid (l2 = l1 ++ F) := e2
  clear e2
  obtain ⟨ao2, c2, rfl⟩ := HO2.out.shape
  go_upto_if 74 with fail
  go_cut [20] (fun v wx => ∃ X, Hid (Owns w.heap.size (l2 ++ X) v wx) ∧ Hid (IsExp X) ∧ X.length ≤ 22 ∧ Below w.heap.size w wx)
  case first =>
    cases hasExp
    · go_wp2
      go_meet
      case rel => exact ⟨[], by simpa using HO2, .inl rfl, by simp, hB3⟩
    · go_upto_if 75 with fail
      go_cut [20] (fun v wx => ∃ e, Hid (Owns w.heap.size (l2 ++ [e]) v wx) ∧ Hid (e = 69 ∨ e = 101) ∧ Below w.heap.size w wx)
      case first =>
        have hsz := hB3.size
        have hown := HO2.out
        cases upperE
        · go_wp2_with (at_builtin; refine wpList_append_own _ rfl (.tmp 79) (.tmp 80) 24 rfl w.heap.size 5 i0 (.int .u8 0) 1 1 Try.underlying24 hi hz0 hz1 hz2 rfl (by decide) _ _ _ rfl (World.ownsRow.alloc hown _) ⟨wc.heap.size, 0, none⟩ 1 1 [.int .u8 101] rfl rfl (cell_one_new _ _ _) (by intro u hu; simp at hu; subst hu; rfl) (by unfold maxLen; omega) (by omega) (by simp; omega) ?_; intro v2 w2 hown2 hgrow2 _)
          have R := owns_byte (Nat.le_refl _) hown hB3 hown2 hgrow2
          clear hown2 hgrow2 hown
          go_meet
          case rel => exact ⟨101, R.1, .inr rfl, R.2⟩
        · go_wp2_with (at_builtin; refine wpList_append_own _ rfl (.tmp 76) (.tmp 77) 24 rfl w.heap.size 5 i0 (.int .u8 0) 1 1 Try.underlying24 hi hz0 hz1 hz2 rfl (by decide) _ _ _ rfl (World.ownsRow.alloc hown _) ⟨wc.heap.size, 0, none⟩ 1 1 [.int .u8 69] rfl rfl (cell_one_new _ _ _) (by intro u hu; simp at hu; subst hu; rfl) (by unfold maxLen; omega) (by omega) (by simp; omega) ?_; intro v2 w2 hown2 hgrow2 _)
          have R := owns_byte (Nat.le_refl _) hown hB3 hown2 hgrow2
          clear hown2 hgrow2 hown
          go_meet
          case rel => exact ⟨69, R.1, .inl rfl, R.2⟩
      case rest =>
      obtain ⟨ec, HO3, HEc, hB4⟩ := hcut
      clear HO2 hB3
      obtain ⟨l3, e3⟩ : ∃ l3, l3 = l2 ++ [ec] := ⟨_, rfl⟩
      rw [← e3] at HO3
      have hl3 : l3.length ≤ 43 := by rw [e3]; simp; omega
      have E3 : Hid (l3 = l2 ++ [ec]) := e3
      clear e3
      obtain ⟨ao3, c3, rfl⟩ := HO3.out.shape
      go_upto_if 83 with fail
      go_cut [20] (fun v wx => ∃ sg, Hid (Owns w.heap.size (l3 ++ sg) v wx) ∧ Hid (sg = [] ∨ sg = [45] ∨ sg = [43]) ∧ sg.length ≤ 1 ∧ Below w.heap.size w wx)
      case first =>
        have hsz := hB4.size
        have hown := HO3.out
        by_cases h1 : sgn < 0
        · go_wp2_with (at_builtin; refine wpList_append_own _ rfl (.tmp 84) (.tmp 85) 24 rfl w.heap.size 5 i0 (.int .u8 0) 1 1 Try.underlying24 hi hz0 hz1 hz2 rfl (by decide) _ _ _ rfl (World.ownsRow.alloc hown _) ⟨wc.heap.size, 0, none⟩ 1 1 [.int .u8 45] rfl rfl (cell_one_new _ _ _) (by intro u hu; simp at hu; subst hu; rfl) (by unfold maxLen; omega) (by omega) (by simp; omega) ?_; intro v2 w2 hown2 hgrow2 _)
          have R := owns_byte (Nat.le_refl _) hown hB4 hown2 hgrow2
          clear hown2 hgrow2 hown
          go_meet
          case rel => exact ⟨[45], R.1, .inr (.inl rfl), by simp, R.2⟩
        · by_cases h2 : 0 < sgn
          · go_wp2_with (at_builtin; refine wpList_append_own _ rfl (.tmp 89) (.tmp 90) 24 rfl w.heap.size 5 i0 (.int .u8 0) 1 1 Try.underlying24 hi hz0 hz1 hz2 rfl (by decide) _ _ _ rfl (World.ownsRow.alloc hown _) ⟨wc.heap.size, 0, none⟩ 1 1 [.int .u8 43] rfl rfl (cell_one_new _ _ _) (by intro u hu; simp at hu; subst hu; rfl) (by unfold maxLen; omega) (by omega) (by simp; omega) ?_; intro v2 w2 hown2 hgrow2 _)
            have R := owns_byte (Nat.le_refl _) hown hB4 hown2 hgrow2
            clear hown2 hgrow2 hown
            go_meet
            case rel => exact ⟨[43], R.1, .inr (.inr rfl), by simp, R.2⟩
          · go_wp2
            go_meet
            case rel => exact ⟨[], by simpa using HO3, .inl rfl, by simp, hB4⟩
      case rest =>
      obtain ⟨sg, HO4, HSg, hsgl, hB5⟩ := hcut
      clear HO3 hB4
      obtain ⟨l4, e4⟩ : ∃ l4, l4 = l3 ++ sg := ⟨_, rfl⟩
      rw [← e4] at HO4
      have hl4 : l4.length ≤ 44 := by rw [e4]; simp; omega
      have E4 : Hid (l4 = l3 ++ sg) := e4
      clear e4
      obtain ⟨ao4, c4, rfl⟩ := HO4.out.shape
      go_wp2_with fail
      refine (appendUint_any ex hw3 w.heap.size _ _ _ _ _ hB5.size (by omega) HO4.out).mono ?_
      rintro e w5 ⟨v5, D, rfl, hD, hown5, hB6⟩
      have HO5 : Hid (Owns w.heap.size (l2 ++ ec :: (sg ++ D)) v5 w5) := by
        have := owns_digs hown5
        rw [E4.out, E3.out, List.append_assoc, List.append_assoc] at this
        exact this
      have HX : Hid (IsExp (ec :: (sg ++ D))) := .inr ⟨ec, sg, D, rfl, HEc.out, HSg.out, hD⟩
      have hDl := hD.le
      have hB7 := hB5.trans hB6
      clear hown5 hD hB5 hB6 HO4
      go_wp2
      go_meet
      case rel => exact ⟨ec :: (sg ++ D), HO5, HX, by simp; omega, hB7⟩
  case rest =>
  obtain ⟨X, HO3, HX, hXl, hB4⟩ := hcut
  clear HO2 hB3
  obtain ⟨l, e3⟩ : ∃ l, l = l2 ++ X := ⟨_, rfl⟩
  rw [← e3] at HO3
  have hl : l.length ≤ 64 := by rw [e3]; simp; omega
  have HL : Hid (l = s ++ (W ++ (F ++ X))) := by show l = _; rw [e3, E2.out, E1.out, List.append_assoc, List.append_assoc]
  clear e3 E1 E2 hl1 hl2
  have hlp : 0 < l.length := by rw [HL.out]; have := HW.out.pos; simp; omega
  obtain ⟨g1, c1', hv, hg1, hg1', hcells⟩ := HO3.out.cells hlp
  rw [hv]
  obtain ⟨wn, rfl⟩ : ∃ wn : World, wn = wc := ⟨_, rfl⟩
  have HN : Hid (∀ i, i < l.length → wn.cell? ⟨g1, i, none⟩ = some (.int .u8 (l.getD i 0))) := hcells
  clear hcells hv HO3
  have hmk : ∀ w : World, (Instr.makeSlice 24 (.int .i64 0) (.int .i64 ((l.length : Int) + (t : Int)))).run Try.prog w = .ok (.slice (some ⟨w.heap.size, 0, none⟩) 0 (l.length + t)) (w.alloc (.cells (madeCells #[.int .u8 0] (l.length + t)) 5)) := fun w => by
    have := run_make (P := Try.prog) w 24 5 i0 (.int .u8 0) Try.underlying24 hi hz0 .i64 .i64 0 ((l.length : Int) + (t : Int)) (by decide) (by omega) (by rw [hz2]; omega) (by omega)
    rw [hz1, show ((l.length : Int) + (t : Int)).toNat = l.length + t by omega, Nat.mul_one] at this
    exact this
  go_wp2_with fail
  clear hmk
  have hO0 : Owns wn.heap.size [] (.slice (some ⟨wn.heap.size, 0, none⟩) 0 (l.length + t)) (wn.alloc (.cells (madeCells #[.int .u8 0] (l.length + t)) 5)) := World.ownsRow_made wn _ _ (Nat.le_refl _) (by unfold maxLen; omega) (by simp [size_madeCells])
  have hB0 : Below wn.heap.size wn (wn.alloc (.cells (madeCells #[.int .u8 0] (l.length + t)) 5)) := (Below.refl _ _).alloc (Nat.le_refl _) _
  have hBs := hB4.size
  go_loopw [22, 23] (fun v s23 wx => ∃ k : Nat, k ≤ l.length ∧ s23 = .int .i64 k ∧ Hid (Owns wn.heap.size (l.take k) v wx) ∧ Below wn.heap.size wn wx) (fun _ s23 _ => l.length - (intOf s23).toNat)
  case atStart => exact ⟨0, Nat.zero_le _, rfl, hO0, hB0⟩
  case round =>
    obtain ⟨k, hk, rfl, HK, hBk⟩ := hrel
    have hszk := hBk.size
    by_cases hlt : k < l.length
    · obtain ⟨y, hy⟩ : ∃ y, l.getD k 0 = y := ⟨_, rfl⟩
      have hcx : wr.cell? ⟨g1, k, none⟩ = some (.int .u8 y) := by rw [← hy]; exact (hBk.cell (by exact hg1')).trans (HN.out k hlt)
      have HT1 : Hid (l.take (k + 1) = l.take k ++ [y]) := take_snoc l hlt hy
      clear hy
      obtain ⟨lk, ek⟩ : ∃ lk, lk = l.take k := ⟨_, rfl⟩
      rw [← ek] at HK HT1
      have hlk : lk.length = k := by rw [ek]; simp; omega
      have hlk' : lk.length ≤ 64 := by omega
      clear ek
      have hown := HK.out
      obtain ⟨aok, ck, rfl⟩ := HK.out.shape
      have HLK : Hid (lk.length = k) := hlk
      clear hlk
      go_wp2_with (at_builtin; refine wpList_append_own _ rfl (.tmp 107) (.tmp 112) 24 rfl wn.heap.size 5 i0 (.int .u8 0) 1 1 Try.underlying24 hi hz0 hz1 hz2 rfl (by decide) _ _ _ rfl (World.ownsRow.alloc hown _) ⟨wr.heap.size, 0, none⟩ 1 1 [.int .u8 y] rfl rfl (cell_one_new _ _ _) (by intro u hu; simp at hu; subst hu; rfl) (by unfold maxLen; omega) (by omega) (by simp; omega) ?_; intro v2 w2 hown2 hgrow2 _)
      have R := owns_byte (Nat.le_refl _) hown hBk hown2 hgrow2
      rw [← HT1.out] at R
      clear hown2 hgrow2 hown hcx
      go_roundw
      case rel => first | exact ⟨k + 1, by omega, by go_num, R.1, R.2⟩ | ((repeat apply Exists.intro); exact ⟨⟨k + 1, by omega, by go_num, R.1, R.2⟩, rfl⟩)
      case measure => simp [intOf]; omega
    · obtain rfl : k = l.length := by omega
      rw [List.take_length] at HK
      obtain ⟨wm, rfl⟩ : ∃ wm : World, wm = wr := ⟨_, rfl⟩
      clear hO0 hB0
      go_wp2_with fail
      go_loopw [22, 24] (fun v s24 wx => ∃ k : Nat, k ≤ t ∧ s24 = .int .i64 k ∧ Hid (Owns wn.heap.size (l ++ Z.take k) v wx) ∧ Below wn.heap.size wn wx) (fun _ s24 _ => t - (intOf s24).toNat)
      case atStart => exact ⟨0, Nat.zero_le _, rfl, by simpa using HK, hBk⟩
      case round =>
        obtain ⟨k, hk, rfl, HK2, hBk2⟩ := hrel
        have hszk2 := hBk2.size
        by_cases hlt : k < t
        · obtain ⟨b, off, rfl, hb, hc⟩ := HC.out (by omega)
          have hlZ : k < Z.length := by rw [HZ.out]; exact hlt
          obtain ⟨y, hy⟩ : ∃ y, Z.getD k 0 = y := ⟨_, rfl⟩
          have hcx : wr.cell? ⟨b, off + k, none⟩ = some (.int .u8 y) := by
            rw [← hy]
            exact (hBk2.cell (by show b < wn.heap.size; omega)).trans ((hB4.cell (by exact hb)).trans (hc k hlt))
          have HT1 : Hid (l ++ Z.take (k + 1) = (l ++ Z.take k) ++ [y]) := by
            show _ = _
            rw [take_snoc Z hlZ hy, List.append_assoc]
          clear hy hc
          obtain ⟨lk, ek⟩ : ∃ lk, lk = l ++ Z.take k := ⟨_, rfl⟩
          rw [← ek] at HK2 HT1
          have hlk' : lk.length ≤ 1048640 := by rw [ek]; simp; omega
          clear ek hlZ
          have hown := HK2.out
          obtain ⟨aok, ck, rfl⟩ := HK2.out.shape
          go_wp2_with (at_builtin; refine wpList_append_own _ rfl (.tmp 120) (.tmp 125) 24 rfl wn.heap.size 5 i0 (.int .u8 0) 1 1 Try.underlying24 hi hz0 hz1 hz2 rfl (by decide) _ _ _ rfl (World.ownsRow.alloc hown _) ⟨wr.heap.size, 0, none⟩ 1 1 [.int .u8 y] rfl rfl (cell_one_new _ _ _) (by intro u hu; simp at hu; subst hu; rfl) (by unfold maxLen; omega) (by omega) (by simp; omega) ?_; intro v2 w2 hown2 hgrow2 _)
          have R := owns_byte (Nat.le_refl _) hown hBk2 hown2 hgrow2
          rw [← HT1.out] at R
          clear hown2 hgrow2 hown hcx
          go_roundw
          case rel => first | exact ⟨k + 1, by omega, by go_num, R.1, R.2⟩ | ((repeat apply Exists.intro); exact ⟨⟨k + 1, by omega, by go_num, R.1, R.2⟩, rfl⟩)
          case measure => simp [intOf]; omega
        · obtain rfl : k = t := by omega
          rw [List.take_of_length_le (by rw [HZ.out]; exact Nat.le_refl _)] at HK2
          have HByte : Hid (∀ x ∈ l, 0 ≤ x ∧ x ≤ 255) := by rw [HL.out]; exact built_bytes HS.out HW.out HF.out HX.out
          have HA : Hid (scan (fun i => l.getD i 0) l.length = l.length) := by rw [HL.out]; exact scan_alone HS.out HW.out HF.out HX.out
          have HTl : Hid (scan (fun i => (l ++ Z).getD i 0) (l ++ Z).length = l.length) := by rw [HL.out]; exact scan_tail HS.out HW.out HF.out HX.out HE.out
          obtain ⟨Lb, eL⟩ : ∃ Lb, Lb = l ++ Z := ⟨_, rfl⟩
          rw [← eL] at HK2 HTl
          have hLb : Lb.length ≤ 1048640 := by rw [eL, List.length_append, HZ.out]; omega
          have hLp : 0 < Lb.length := by rw [eL, List.length_append]; omega
          have HBy2 : Hid (∀ x ∈ Lb, 0 ≤ x ∧ x ≤ 255) := by
            intro x hx
            rw [eL] at hx
            rcases List.mem_append.1 hx with hx | hx
            · exact HByte.out x hx
            · exact Hz.out x hx
          clear eL
          obtain ⟨g2, c2', hv2, hg2, hg2', hcells2⟩ := HK2.out.cells hLp
          have c1 := scan11 (fun i => l.getD i 0) l.length (some ⟨g1, 0, none⟩) c1' wr (by omega) (fun _ => ⟨g1, 0, rfl, fun i hi => by rw [Nat.zero_add]; exact (hBk2.cell (by exact hg1')).trans (HN.out i hi)⟩) (fun i hi => HByte.out _ (getD_mem hi))
          have c2 := scan11 (fun i => Lb.getD i 0) Lb.length (some ⟨g2, 0, none⟩) c2' wr (by omega) (fun _ => ⟨g2, 0, rfl, fun i hi => by rw [Nat.zero_add]; exact hcells2 i hi⟩) (fun i hi => HBy2.out _ (getD_mem hi))
          rw [HA.out] at c1
          rw [HTl.out] at c2
          have C1 : Hid (Calls Try.prog 11 #[.slice (some ⟨g1, 0, none⟩) l.length c1'] wr fun e w' => e = .returned (.int .i64 ((l.length : Nat) : Int)) ∧ wr = w') := c1
          have C2 : Hid (Calls Try.prog 11 #[.slice (some ⟨g2, 0, none⟩) Lb.length c2'] wr fun e w' => e = .returned (.int .i64 ((l.length : Nat) : Int)) ∧ wr = w') := c2
          have HBB : Hid (Below w.heap.size w wr) := hB4.trans (hBk2.mono hBs)
          rw [hv2]
          clear c1 c2 hcells2 hv2 HK2 HBy2 HByte HA HTl HC HN HZ Hz
          go_wp2_with fail
          refine C1.out.mono ?_
          rintro e w' ⟨rfl, rfl⟩
          go_wp2_with fail
          refine C2.out.mono ?_
          rintro e w' ⟨rfl, rfl⟩
          go_wp2
          go_ret
          exact ⟨by simp, HBB.out⟩
end Go.Proofs.Qxb6617277a.Scan
