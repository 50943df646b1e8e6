import Derived.Test.Qxb6617277aJsonBytes
import Derived.Test.Qxb6617277aBuiltLaw
import Derived.Deep.DeepCutAuto
namespace Go.Proofs.Qxb6617277a.Json
open Go.RowKit Go.Proofs.Qxb6617277a.Scan
set_option linter.unusedSimpArgs false

/-- The cells of a list of strings; what make lays. -/
def strsL (L : List ByteArray) : List Value := L.map Value.string
def blanksL (n : Nat) : List Value := List.replicate n (.string ByteArray.empty)
theorem strsL_length (L : List ByteArray) : (strsL L).length = L.length := by simp [strsL]
theorem blanksL_length (n : Nat) : (blanksL n).length = n := by simp [blanksL]
theorem strsL_get {L : List ByteArray} {j : Nat} {u : Value} (h : (strsL L)[j]? = some u) : j < L.length ∧ u = .string (L.getD j ByteArray.empty) := by
  obtain ⟨hl, he⟩ := List.getElem?_eq_some_iff.1 h
  have : j < L.length := by simpa [strsL] using hl
  refine ⟨this, ?_⟩
  rw [← he]; simp [strsL, List.getD, this]
theorem splice_whole {α : Type} (L cs : List α) (h : L.length = cs.length) : splice L 0 cs = cs := by simp [splice, ← h]
theorem made_blanksL (n : Nat) : madeCells #[.string ByteArray.empty] n = (blanksL n).toArray := by
  apply Array.ext'
  rw [toList_madeCells_one]
  rfl
theorem holds_row {L : List ByteArray} {B : Nat} {w : World} (h : w.heap[B]? = some (.cells (strsL L).toArray 9 (0, 0))) : Holds L (some ⟨B, 0, none⟩) w.heap.size w := fun _ =>
  ⟨B, 0, rfl, (Array.getElem?_eq_some_iff.1 h).1, fun i hi => by
    rw [Nat.zero_add, cell_of_row w B i _ 9 (0, 0) h]
    simp [strsL, List.getD, hi]⟩

/-- What the copy reads, behind the new block. -/
theorem holds_news {L : List ByteArray} {a0 : Addr} {lim : Nat} {w : World} (h : Holds L (some a0) lim w) (hl : lim ≤ w.heap.size) (o : Obj) : ∀ j v, (strsL L)[j]? = some v → (w.alloc o).cell? (a0.add j) = some v := fun j v hv => by
  obtain ⟨hj, rfl⟩ := strsL_get hv
  obtain ⟨b, off, e, hb, hc⟩ := h (by omega)
  simp only [Option.some.injEq] at e
  subst e
  have e2 : (⟨b, off, none⟩ : Addr).add j = ⟨b, off + j, none⟩ := by simp [Addr.add]
  rw [e2, World.cell?_alloc_lt _ _ _ (by show b < _; omega)]
  exact hc j hj

/-- The string of given bytes. -/
theorem num_of (l : List Int) (h : ∀ x ∈ l, 0 ≤ x ∧ x ≤ 255) : ∃ num : ByteArray, bl num = l := by
  refine ⟨⟨(l.map fun x => UInt8.ofNat x.toNat).toArray⟩, ?_⟩
  unfold bl
  simp only [List.map_map]
  conv => rhs; rw [← List.map_id l]
  refine List.map_congr_left fun x hx => ?_
  have := h x hx
  simp
  omega

theorem bl_dot (num : ByteArray) : bl (num ++ ⟨#[46]⟩) = bl num ++ [46] := by
  simp [bl]

/-- string(b) of bytes that lie in a row. -/
theorem conv_of {w : World} {g c : Nat} (l : List Int) {num : ByteArray} (hn : bl num = l) (_hb : ∀ x ∈ l, 0 ≤ x ∧ x ≤ 255) (hc : ∀ i, i < l.length → w.cell? ⟨g, i, none⟩ = some (.int .u8 (l.getD i 0))) :
    (convert 24 9 (.slice (some ⟨g, 0, none⟩) l.length c)).run Try.prog w = .ok (.string num) w := by
  have hl : num.data.toList.length = l.length := by rw [← hn]; simp [bl]
  have := run_convert_bytes_back (P := Try.prog) w 24 9 5 ⟨g, 0, none⟩ c num.data.toList Try.underlying24 Try.underlying5 Try.underlying9 (fun j hj => by
    have e : (⟨g, 0, none⟩ : Addr).add j = ⟨g, j, none⟩ := by unfold Addr.add; split <;> simp_all
    rw [e, hc j (by omega), ← hn]
    have hj' : j < num.data.size := by simpa using hj
    simp [bl, List.getD, Array.getElem?_eq_getElem hj'])
  rw [hl] at this
  exact this

/-- make([]string, 0, c). -/
theorem make_caps (i9 : TypeInfo) (hi : Try.prog.info? 9 = some i9) (hz0 : i9.zero = some (.string ByteArray.empty)) (hz1 : i9.size = 1) (hz2 : i9.bytes = 16) (c : Int) (n : Nat) (hc : c = (n : Int)) (hn : n ≤ 1048576) :
    ∀ w : World, (Instr.makeSlice 29 (.int .i64 0) (.int .i64 c)).run Try.prog w = .ok (.slice (some ⟨w.heap.size, 0, none⟩) 0 n) (w.alloc (.cells (madeCells #[.string ByteArray.empty] n) 9)) := fun w => by
  have := run_make (P := Try.prog) w 29 9 i9 (.string ByteArray.empty) Try.underlying29 hi hz0 .i64 .i64 0 c (by decide) (by omega) (by rw [hz2]; omega) (by omega)
  rw [hz1, hc, Int.toNat_natCast, Nat.mul_one] at this
  rw [hc]
  exact this

theorem ownsS_made (w : World) (n : Nat) (hn : n ≤ 1048576) : OwnsS w.heap.size [] (.slice (some ⟨w.heap.size, 0, none⟩) 0 n) (w.alloc (.cells (madeCells #[.string ByteArray.empty] n) 9)) :=
  World.ownsRow_made w _ n (Nat.le_refl _) (by unfold maxLen; omega) (by simp [size_madeCells])

theorem getD_memb {L : List ByteArray} {i : Nat} (h : i < L.length) : L.getD i ByteArray.empty ∈ L := by
  rw [List.getD_eq_getElem?_getD, List.getElem?_eq_getElem h]
  exact List.getElem_mem h

set_option maxHeartbeats 4000000 in
set_option maxRecDepth 100000 in
theorem law6_walk (A C : List ByteArray) (neg : Bool) (N : Nat) (hN : Word N) (aoA aoC : Option Addr) (capA capC : Nat) (w : World) (hA : A.length ≤ maxLen) (hC : C.length ≤ maxLen)
    (sA : ∀ i, i < A.length → (A.getD i ByteArray.empty).size ≤ maxLen) (sC : ∀ i, i < C.length → (C.getD i ByteArray.empty).size ≤ maxLen) (HA : Holds A aoA w.heap.size w) (HC : Holds C aoC w.heap.size w) (nA : aoA = none → A = []) (nC : aoC = none → C = []) :
    Calls Try.prog 6 #[.slice aoA A.length capA, .bool neg, .int .u64 (N : Int), .slice aoC C.length capC] w fun e w' => e = .returned (.bool true) ∧ Below w.heap.size w w' := by
  obtain ⟨i5, hi5, hz50, hz51, hz52⟩ := info_parts info5
  obtain ⟨i9, hi9, hz90, hz91, hz92⟩ := info_parts info9
  have QA : Hid (Holds A aoA w.heap.size w) := HA
  have QC : Hid (Holds C aoC w.heap.size w) := HC
  have NA : Hid (aoA = none → A = []) := nA
  have NC : Hid (aoC = none → C = []) := nC
  have C15 : Hid (Calls Try.prog 15 #[.slice aoA A.length capA, .bool neg, .int .u64 (N : Int), .slice aoC C.length capC] w fun e w' => Short2 A C e ∧ w = w') := bytes15 A C neg N aoA aoC capA capC _ _ w hA hC sA sC HA HC
  clear HA HC nA nC hA hC sA sC
  go_enter Try.func6, Try.ntmps6
  go_wp2_with fail
  refine C15.out.mono ?_
  clear C15
  rintro e w' ⟨⟨r, rfl, hr⟩, rfl⟩
  cases r
  · clear hr
    go_wp2
    go_ret
    exact ⟨rfl, Below.refl _ _⟩
  obtain ⟨⟨hA1, hA2⟩, ⟨hC1, hC2⟩⟩ := hr rfl
  clear hr
  have SA : Hid (∀ i, i < A.length → (A.getD i ByteArray.empty).size ≤ 1048576) := hA2
  have SC : Hid (∀ i, i < C.length → (C.getD i ByteArray.empty).size ≤ 1048576) := hC2
  clear hA2 hC2
  by_cases g1 : 65536 < A.length
  · have hd : decide ((65536 : Int) < (A.length : Int)) = true := by simp; omega
    go_wp2
    go_ret
    exact ⟨rfl, Below.refl _ _⟩
  have hd1 : decide ((65536 : Int) < (A.length : Int)) = false := by simp; omega
  by_cases g2 : 65536 < C.length
  · have hd : decide ((65536 : Int) < (C.length : Int)) = true := by simp; omega
    go_wp2
    go_ret
    exact ⟨rfl, Below.refl _ _⟩
  have hd2 : decide ((65536 : Int) < (C.length : Int)) = false := by simp; omega
  clear g1 g2
  have g1 : A.length ≤ 65536 := by have := of_decide_eq_false hd1; omega
  have g2 : C.length ≤ 65536 := by have := of_decide_eq_false hd2; omega
  have hnn := fun w => run_neq_slice_nil_any (P := Try.prog) w 29 9 aoA A.length capA 0 0 Try.underlying29
  go_upto_if 42 with fail
  clear hnn
  go_cut [0] (fun s0 wx => ∃ ao c, s0 = .slice ao A.length c ∧ Hid (Holds A ao wx.heap.size wx) ∧ Below w.heap.size w wx)
  case first =>
    cases aoA with
    | none =>
      go_wp2
      go_meet
      case rel => exact ⟨none, _, rfl, QA, Below.refl _ _⟩
    | some a0 =>
      have hmk := run_make_row' (P := Try.prog) 29 9 (.string ByteArray.empty) 16 Try.underlying29 info9 rfl .i64 .i64 A.length (by omega) (by omega)
      rw [made_blanksL] at hmk
      have HNW : Hid (∀ j v, (strsL A)[j]? = some v → (w.alloc (.cells (blanksL A.length).toArray 9)).cell? (a0.add j) = some v) := holds_news QA.out (Nat.le_refl _) _
      have hsl := strsL_length A
      have hbl := blanksL_length A.length
      go_wp2_with (refine wpList_copy_splice rfl (.tmp 46) (.tmp 47) 29 29 rfl 9 Try.underlying29 (by kernel_rfl) _ _ _ _ _ _ rfl rfl w.heap.size 0 (blanksL A.length) 9 (heap_alloc_new w _) (strsL A) (by simp [hsl]) (fun _ => ⟨rfl, a0, rfl, HNW.out⟩) (by omega) (by intro v hv; obtain ⟨i, _, rfl⟩ := List.mem_map.1 hv; rfl) w.heap.size w ((Below.refl _ _).alloc (Nat.le_refl _) _) (Nat.le_refl _) ?_; intro w2 HG2 hB2)
      rw [splice_whole _ _ (by rw [hsl, hbl])] at HG2
      go_meet
      case rel => exact ⟨_, _, rfl, holds_row HG2.out, hB2⟩
  case rest =>
  obtain ⟨aA, cA, rfl, HA, hBA⟩ := hcut
  clear QA NA
  obtain ⟨wa, rfl⟩ : ∃ wa : World, wa = wc := ⟨_, rfl⟩
  have QC2 : Hid (Holds C aoC w.heap.size wa) := QC.out.below hBA
  have hszA := hBA.size
  clear QC
  have hnn := fun w => run_neq_slice_nil_any (P := Try.prog) w 29 9 aoC C.length capC 0 0 Try.underlying29
  go_upto_if 51 with fail
  clear hnn
  go_cut [3] (fun s3 wx => ∃ ao c, s3 = .slice ao C.length c ∧ Hid (Holds C ao wx.heap.size wx) ∧ Below wa.heap.size wa wx)
  case first =>
    cases aoC with
    | none =>
      have HCn : Hid (Holds C none wa.heap.size wa) := QC2.out.mono hszA
      go_wp2
      go_meet
      case rel => exact ⟨none, _, rfl, HCn, Below.refl _ _⟩
    | some a0 =>
      have hmk := run_make_row' (P := Try.prog) 29 9 (.string ByteArray.empty) 16 Try.underlying29 info9 rfl .i64 .i64 C.length (by omega) (by omega)
      rw [made_blanksL] at hmk
      have HNW : Hid (∀ j v, (strsL C)[j]? = some v → (wa.alloc (.cells (blanksL C.length).toArray 9)).cell? (a0.add j) = some v) := holds_news QC2.out hszA _
      have hsl := strsL_length C
      have hbl := blanksL_length C.length
      go_wp2_with (refine wpList_copy_splice rfl (.tmp 55) (.tmp 56) 29 29 rfl 9 Try.underlying29 (by kernel_rfl) _ _ _ _ _ _ rfl rfl wa.heap.size 0 (blanksL C.length) 9 (heap_alloc_new wa _) (strsL C) (by simp [hsl]) (fun _ => ⟨rfl, a0, rfl, HNW.out⟩) (by omega) (by intro v hv; obtain ⟨i, _, rfl⟩ := List.mem_map.1 hv; rfl) wa.heap.size wa ((Below.refl _ _).alloc (Nat.le_refl _) _) (Nat.le_refl _) ?_; intro w2 HG2 hB2)
      rw [splice_whole _ _ (by rw [hsl, hbl])] at HG2
      go_meet
      case rel => exact ⟨_, _, rfl, holds_row HG2.out, hB2⟩
  case rest =>
  obtain ⟨aC, cC, rfl, HC, hBC⟩ := hcut
  clear QC2 NC
  obtain ⟨wb, rfl⟩ : ∃ wb : World, wb = wc := ⟨_, rfl⟩
  have hszC := hBC.size
  have HA2 : Hid (Holds A aA wb.heap.size wb) := (HA.out.below hBC).mono hszC
  have hBw : Below w.heap.size w wb := hBA.trans (hBC.mono hszA)
  have hszw := hBw.size
  clear HA hBA hBC hszA hszC
  -- the two loops over the total length
  go_upto_block 0 with fail
  go_cut [11] (fun s11 wx => ∃ n : Int, s11 = .int .i64 n ∧ 0 ≤ n ∧ n ≤ 1048576 ∧ wb = wx)
  case first =>
    go_wp2_with fail
    go_loop [11, 12] (fun s11 s12 => ∃ (k : Nat) (n : Int), k ≤ A.length ∧ s12 = .int .i64 k ∧ s11 = .int .i64 n ∧ 0 ≤ n ∧ n ≤ 1048576) (fun _ s12 => A.length - (intOf s12).toNat)
    case atStart => exact ⟨0, 0, Nat.zero_le _, rfl, rfl, by omega, by omega⟩
    case round =>
      obtain ⟨k, n, hk, rfl, rfl, hn0, hn1⟩ := hrel
      by_cases hlt : k < A.length
      · obtain ⟨b, off, rfl, _, hc⟩ := HA2.out (by omega)
        have hcx := hc k hlt
        have hsk := SA.out k hlt
        clear hc
        generalize A.getD k ByteArray.empty = s at hcx hsk
        by_cases h3 : 1048576 < n + (s.size + 16)
        · go_wp2
          go_ret
          exact ⟨rfl, hBw⟩
        · go_wp2
          go_round
          case rel => exact ⟨k + 1, n + (s.size + 16), by omega, by go_num, by go_num, by omega, by omega⟩
          case measure => simp [intOf]; omega
      · go_wp2
        go_meet
        case rel => exact ⟨n, rfl, hn0, hn1, rfl⟩
  case rest =>
  obtain ⟨n1, rfl, hn10, hn11, rfl⟩ := hcut
  go_upto_block 2 with fail
  go_cut [] (fun wx => wb = wx)
  case first =>
    go_wp2_with fail
    go_loop [11, 13] (fun s11 s13 => ∃ (k : Nat) (n : Int), k ≤ C.length ∧ s13 = .int .i64 k ∧ s11 = .int .i64 n ∧ 0 ≤ n ∧ n ≤ 1048576) (fun _ s13 => C.length - (intOf s13).toNat)
    case atStart => exact ⟨0, n1, Nat.zero_le _, rfl, rfl, hn10, hn11⟩
    case round =>
      obtain ⟨k, n, hk, rfl, rfl, hn0, hn1⟩ := hrel
      by_cases hlt : k < C.length
      · obtain ⟨b, off, rfl, _, hc⟩ := HC.out (by omega)
        have hcx := hc k hlt
        have hsk := SC.out k hlt
        clear hc
        generalize C.getD k ByteArray.empty = s at hcx hsk
        by_cases h3 : 1048576 < n + (s.size + 16)
        · go_wp2
          go_ret
          exact ⟨rfl, hBw⟩
        · go_wp2
          go_round
          case rel => exact ⟨k + 1, n + (s.size + 16), by omega, by go_num, by go_num, by omega, by omega⟩
          case measure => simp [intOf]; omega
      · go_wp2
        go_meet
        case rel => exact rfl
  case rest =>
  obtain rfl := hcut
  -- the digits
  go_upto_if 91 with fail
  go_cut [14] (fun v wx => ∃ s, Hid (Owns wb.heap.size s v wx) ∧ Hid (IsSign s) ∧ s.length ≤ 1 ∧ Below wb.heap.size wb wx)
  case first =>
    have hown : wb.ownsRow wb.heap.size 5 1 (.slice none 0 0) 0 [] := World.ownsRow_nil _ _ _ _
    cases neg
    · go_wp2
      go_meet
      case rel => exact ⟨[], World.ownsRow_nil _ _ _ _, .inl rfl, by simp, Below.refl _ _⟩
    · go_wp2_with (at_builtin; refine wpList_append_own _ rfl (.tmp 92) (.tmp 93) 24 rfl wb.heap.size 5 i5 (.int .u8 0) 1 1 Try.underlying24 hi5 hz50 hz51 hz52 rfl (by decide) _ _ _ rfl (hown.alloc _) ⟨wb.heap.size, 0, none⟩ 1 1 [.int .u8 45] rfl rfl (cell_one_new _ _ _) (by intro u hu; simp at hu; subst hu; rfl) (by unfold maxLen; omega) (by omega) (by simp) ?_; intro v2 w2 hown2 hgrow2 _)
      have R := owns_byte (l := []) (Nat.le_refl _) hown (Below.refl _ _) hown2 hgrow2
      go_meet
      case rel => exact ⟨[45], R.1, .inr rfl, by simp, R.2⟩
  case rest =>
  obtain ⟨s, HO, HS, hsl, hB⟩ := hcut
  obtain ⟨aoS, cS, rfl⟩ := HO.out.shape
  go_wp2_with fail
  refine (appendUint_any N hN wb.heap.size _ _ _ _ _ hB.size (by omega) HO.out).mono ?_
  rintro e w1 ⟨v1, W, rfl, hW, hown1, hB1⟩
  obtain ⟨l, e1⟩ : ∃ l, l = s ++ W := ⟨_, rfl⟩
  have HO1 : Owns wb.heap.size l v1 w1 := by rw [e1]; exact owns_digs hown1
  have hl : l.length ≤ 21 := by rw [e1]; have := hW.le; simp; omega
  have hlp : 0 < l.length := by rw [e1]; have := hW.pos; simp; omega
  have hby : ∀ x ∈ l, 0 ≤ x ∧ x ≤ 255 := by
    rw [e1]
    have := built_bytes HS.out hW (F := []) (X := []) (.inl rfl) (.inl rfl)
    simpa using this
  obtain ⟨num, hnum⟩ := num_of l hby
  have HN1 : Hid (isNum num = true) := isNum_of HS.out hW (by rw [hnum, e1])
  obtain ⟨junk, hjunk⟩ : ∃ junk : ByteArray, junk = num ++ ⟨#[46]⟩ := ⟨_, rfl⟩
  have HN2 : Hid (isNum junk = false) := isNum_dot HS.out hW (by rw [hjunk, bl_dot, hnum, e1])
  have hns : num.size ≤ 21 := by rw [← bl_length, hnum]; exact hl
  have hjs : junk.size ≤ 22 := by rw [← bl_length, hjunk, bl_dot, hnum]; simp; omega
  have hB2 := hB.trans hB1
  have hszs := hB2.size
  obtain ⟨gd, cd, hv1, _, _, hcd⟩ := HO1.cells hlp
  rw [hv1]
  have hcv : (convert 24 9 (.slice (some ⟨gd, 0, none⟩) l.length cd)).run Try.prog w1 = .ok (.string num) w1 := conv_of l hnum hby hcd
  have hadd := fun W => run_string_add_sum (P := Try.prog) W num ⟨#[46]⟩ (by show num.size + 1 ≤ _; omega)
  rw [← hjunk] at hadd
  clear hcd hv1 HO1 hown1 hW hnum hby e1 hjunk HS HO hB hB1
  have hmk := make_caps i9 hi9 hz90 hz91 hz92 ((A.length : Int) + (C.length : Int) + 2) (A.length + C.length + 2) (by omega) (by omega)
  go_upto_block 4 with fail
  clear hcv hadd hmk
  have HA3 : Hid (Holds A aA w1.heap.size w1) := (HA2.out.below hB2).mono hszs
  have HC3 : Hid (Holds C aC w1.heap.size w1) := (HC.out.below hB2).mono hszs
  have hBw1 : Below w.heap.size w w1 := hBw.trans (hB2.mono hszw)
  have hszw1 := hBw1.size
  clear HA2 HC hB2 hBw
  obtain ⟨wj, rfl⟩ : ∃ wj : World, wj = w1 := ⟨_, rfl⟩
  go_cut [17] (fun v wx => Hid (OwnsS wj.heap.size A v wx) ∧ Below wj.heap.size wj wx)
  case first =>
    have hO0 := ownsS_made wj (A.length + C.length + 2) (by omega)
    have hB0 : Below wj.heap.size wj (wj.alloc (.cells (madeCells #[.string ByteArray.empty] (A.length + C.length + 2)) 9)) := (Below.refl _ _).alloc (Nat.le_refl _) _
    go_wp2_with fail
    go_loopw [17, 18] (fun v s18 wx => ∃ k : Nat, k ≤ A.length ∧ s18 = .int .i64 k ∧ Hid (OwnsS wj.heap.size (A.take k) v wx) ∧ Below wj.heap.size wj wx) (fun _ s18 _ => A.length - (intOf s18).toNat)
    case atStart => exact ⟨0, Nat.zero_le _, rfl, hO0, hB0⟩
    case round =>
      obtain ⟨k, hk, rfl, HK, hBk⟩ := hrel
      have hszk := hBk.size
      clear hO0 hB0
      by_cases hlt : k < A.length
      · obtain ⟨b, off, rfl, hbl, hc⟩ := HA3.out (by omega)
        obtain ⟨y, hy⟩ : ∃ y, A.getD k ByteArray.empty = y := ⟨_, rfl⟩
        have hcx : wr.cell? ⟨b, off + k, none⟩ = some (.string y) := by rw [← hy]; exact (hBk.cell (by exact hbl)).trans (hc k hlt)
        have HT1 : Hid (A.take (k + 1) = A.take k ++ [y]) := take_snoc_b A hlt hy
        clear hy hc
        obtain ⟨lk, ek⟩ : ∃ lk, lk = A.take k := ⟨_, rfl⟩
        rw [← ek] at HK HT1
        have hlk' : lk.length ≤ 65536 := by rw [ek]; simp; omega
        clear ek
        have hown := HK.out
        obtain ⟨aok, ck, rfl⟩ := HK.out.shape
        go_wp2_with (at_builtin; refine wpList_append_own _ rfl (.tmp 115) (.tmp 120) 29 rfl wj.heap.size 9 i9 (.string ByteArray.empty) 1 16 Try.underlying29 hi9 hz90 hz91 hz92 rfl (by decide) _ _ _ rfl (World.ownsRow.alloc hown _) ⟨wr.heap.size, 0, none⟩ 1 1 [.string y] rfl rfl (cell_one_new _ _ _) (by intro u hu; simp at hu; subst hu; rfl) (by unfold maxLen; omega) (by omega) (by simp; omega) ?_; intro v2 w2 hown2 hgrow2 _)
        have R := ownsS_one (Nat.le_refl _) hown hBk hown2 hgrow2
        rw [← HT1.out] at R
        clear hown2 hgrow2 hown hcx
        go_roundw
        case rel => first | exact ⟨k + 1, by omega, by go_num, R.1, R.2⟩ | ((repeat apply Exists.intro); exact ⟨⟨k + 1, by omega, by go_num, R.1, R.2⟩, rfl⟩)
        case measure => simp [intOf]; omega
      · obtain rfl : k = A.length := by omega
        rw [List.take_length] at HK
        go_wp2_with fail
        go_meet
        case rel => exact ⟨HK, hBk⟩
  case rest =>
  obtain ⟨HJ, hBj⟩ := hcut
  obtain ⟨aJ, cJ, rfl⟩ := HJ.out.shape
  have hszj := hBj.size
  have hown := HJ.out
  go_upto_block 6 with (first | (at_builtin; refine wpList_append_own _ rfl (.tmp 122) (.tmp 124) 29 rfl wj.heap.size 9 i9 (.string ByteArray.empty) 1 16 Try.underlying29 hi9 hz90 hz91 hz92 rfl (by decide) _ _ _ rfl (World.ownsRow.alloc hown _) ⟨wc.heap.size, 0, none⟩ 1 1 [.string num] rfl rfl (cell_one_new _ _ _) (by intro u hu; simp at hu; subst hu; rfl) (by unfold maxLen; omega) (by omega) (by simp; omega) ?_; intro v2 w2 hown2 hgrow2 _) | (at_builtin; refine wpList_append_own _ rfl (.tmp 126) (.tmp 128) 29 rfl wj.heap.size 9 i9 (.string ByteArray.empty) 1 16 Try.underlying29 hi9 hz90 hz91 hz92 rfl (by decide) _ _ _ rfl (World.ownsRow.alloc hown2 _) ⟨w2.heap.size, 0, none⟩ 1 1 [.string junk] rfl rfl (cell_one_new _ _ _) (by intro u hu; simp at hu; subst hu; rfl) (by unfold maxLen; omega) (by omega) (by have := hgrow2.size; simp at this ⊢; omega) ?_; intro v3 w3 hown3 hgrow3 _))
  have R1 := ownsS_one (Nat.le_refl _) hown hBj hown2 hgrow2
  have R2 := ownsS_one (L := A ++ [num]) (s := junk) (Nat.le_refl _) R1.1 R1.2 (by simpa using hown3) hgrow3
  obtain ⟨HJ3, hBj3⟩ := R2
  clear R1 hown hown2 hown3 hgrow2 hgrow3 HJ hBj
  obtain ⟨P, eP⟩ : ∃ P, P = A ++ [num] ++ [junk] := ⟨_, rfl⟩
  rw [← eP] at HJ3
  have hP : P.length = A.length + 2 := by rw [eP]; simp
  have hP' : P.length ≤ 65538 := by omega
  have EP : Hid (P = A ++ [num] ++ [junk]) := eP
  clear eP hP
  obtain ⟨aP, cP, hvP⟩ := HJ3.shape
  rw [hvP] at HJ3 ⊢
  clear hvP
  have HP0 : Hid (OwnsS wj.heap.size (P ++ C.take 0) (.slice aP P.length cP) w3) := by show OwnsS _ _ _ _; simpa using HJ3
  go_cut [17] (fun v wx => Hid (OwnsS wj.heap.size (P ++ C) v wx) ∧ Below wj.heap.size wj wx)
  case first =>
    go_wp2_with fail
    go_loopw [17, 19] (fun v sk wx => ∃ k : Nat, k ≤ C.length ∧ sk = .int .i64 k ∧ Hid (OwnsS wj.heap.size (P ++ C.take k) v wx) ∧ Below wj.heap.size wj wx) (fun _ sk _ => C.length - (intOf sk).toNat)
    case atStart => exact ⟨0, Nat.zero_le _, rfl, HP0, hBj3⟩
    case round =>
      obtain ⟨k, hk, rfl, HK, hBk⟩ := hrel
      have hszk := hBk.size
      by_cases hlt : k < C.length
      · obtain ⟨b, off, rfl, hbl, hc⟩ := HC3.out (by omega)
        obtain ⟨y, hy⟩ : ∃ y, C.getD k ByteArray.empty = y := ⟨_, rfl⟩
        have hcx : wr.cell? ⟨b, off + k, none⟩ = some (.string y) := by rw [← hy]; exact (hBk.cell (by exact hbl)).trans (hc k hlt)
        have HT1 : Hid (P ++ C.take (k + 1) = (P ++ C.take k) ++ [y]) := by show _ = _; rw [take_snoc_b C hlt hy, List.append_assoc]
        clear hy hc
        obtain ⟨lk, ek⟩ : ∃ lk, lk = P ++ C.take k := ⟨_, rfl⟩
        rw [← ek] at HK HT1
        have hlk' : lk.length ≤ 262144 := by rw [ek]; simp; omega
        clear ek
        have hown := HK.out
        obtain ⟨aok, ck, rfl⟩ := HK.out.shape
        go_wp2_with (at_builtin; refine wpList_append_own _ rfl (.tmp 136) (.tmp 141) 29 rfl wj.heap.size 9 i9 (.string ByteArray.empty) 1 16 Try.underlying29 hi9 hz90 hz91 hz92 rfl (by decide) _ _ _ rfl (World.ownsRow.alloc hown _) ⟨wr.heap.size, 0, none⟩ 1 1 [.string y] rfl rfl (cell_one_new _ _ _) (by intro u hu; simp at hu; subst hu; rfl) (by unfold maxLen; omega) (by omega) (by simp; omega) ?_; intro v2 w2 hown2 hgrow2 _)
        have R := ownsS_one (Nat.le_refl _) hown hBk hown2 hgrow2
        rw [← HT1.out] at R
        clear hown2 hgrow2 hown hcx
        go_roundw
        case rel => first | exact ⟨k + 1, by omega, by go_num, R.1, R.2⟩ | ((repeat apply Exists.intro); exact ⟨⟨k + 1, by omega, by go_num, R.1, R.2⟩, rfl⟩)
        case measure => simp [intOf]; omega
      · obtain rfl : k = C.length := by omega
        rw [List.take_length] at HK
        go_wp2_with fail
        go_meet
        case rel => exact ⟨HK, hBk⟩
  case rest =>
  obtain ⟨HJ, hBj⟩ := hcut
  clear HP0 HJ3 hBj3
  obtain ⟨J, eJ⟩ : ∃ J, J = P ++ C := ⟨_, rfl⟩
  rw [← eJ] at HJ
  have hJ : J.length ≤ 131074 := by rw [eJ]; simp; omega
  have EJ : Hid (J = A ++ (num :: junk :: C)) := by show _ = _; rw [eJ, EP.out]; simp
  clear eJ EP hP'
  obtain ⟨aJ, cJ, rfl⟩ := HJ.out.shape
  have hszj := hBj.size
  obtain ⟨wk, rfl⟩ : ∃ wk : World, wk = wc := ⟨_, rfl⟩
  have HA4 : Hid (Holds A aA wk.heap.size wk) := (HA3.out.below hBj).mono hszj
  have HC4 : Hid (Holds C aC wk.heap.size wk) := (HC3.out.below hBj).mono hszj
  have HJ4 : Hid (Holds J aJ wk.heap.size wk) := HJ.out.holds
  have hBk : Below w.heap.size w wk := hBw1.trans (hBj.mono hszw1)
  clear HA3 HC3 HJ hBj
  have SA2 : Hid (∀ s ∈ A, s.size ≤ 2097152) := fun s hs => by
    obtain ⟨i, hi, rfl⟩ := List.getElem_of_mem hs
    have := SA.out i hi
    rw [List.getD_eq_getElem?_getD, List.getElem?_eq_getElem hi] at this
    exact Nat.le_trans this (by decide)
  have SC2 : Hid (∀ s ∈ C, s.size ≤ 2097152) := fun s hs => by
    obtain ⟨i, hi, rfl⟩ := List.getElem_of_mem hs
    have := SC.out i hi
    rw [List.getD_eq_getElem?_getD, List.getElem?_eq_getElem hi] at this
    exact Nat.le_trans this (by decide)
  have SJ2 : Hid (∀ s ∈ J, s.size ≤ 2097152) := fun s hs => by
    rw [EJ.out] at hs
    rcases List.mem_append.1 hs with hs | hs
    · exact SA2.out s hs
    · rcases List.mem_cons.1 hs with rfl | hs
      · omega
      · rcases List.mem_cons.1 hs with rfl | hs
        · omega
        · exact SC2.out s hs
  have HEQ : Hid (F J = F A ++ (num :: F C)) := by show _ = _; rw [EJ.out]; exact F_split HN1.out HN2.out
  have hFA := F_le A
  have hFC := F_le C
  have hFJ := F_le J
  clear SA SC EJ HN1 HN2
  go_wp2_with fail
  refine (numbers_any A aA cA wk hA1 SA2.out HA4.out).mono ?_
  rintro e w4 ⟨vl, rfl, hO4, hB4⟩
  obtain ⟨FA, eFA⟩ : ∃ FA, FA = F A := ⟨_, rfl⟩
  rw [← eFA] at hO4 HEQ hFA
  clear eFA
  have hs4 := hB4.size
  have HC5 : Hid (Holds C aC w4.heap.size w4) := (HC4.out.below hB4).mono hs4
  have HJ5 : Hid (Holds J aJ w4.heap.size w4) := (HJ4.out.below hB4).mono hs4
  have hBk4 : Below w.heap.size w w4 := hBk.trans (hB4.mono hBk.size)
  obtain ⟨aL, cL, hvl⟩ := hO4.shape
  rw [hvl] at hO4 ⊢
  have HL5 : Hid (Holds FA aL w4.heap.size w4) := hO4.holds
  clear hvl hO4 hB4 HA4 HC4 HJ4 hBk
  go_wp2_with fail
  refine (numbers_any C aC cC w4 hC1 SC2.out HC5.out).mono ?_
  rintro e w5 ⟨vr, rfl, hO5, hB5⟩
  obtain ⟨FC, eFC⟩ : ∃ FC, FC = F C := ⟨_, rfl⟩
  rw [← eFC] at hO5 HEQ hFC
  clear eFC
  have hs5 := hB5.size
  have HJ6 : Hid (Holds J aJ w5.heap.size w5) := (HJ5.out.below hB5).mono hs5
  have HL6 : Hid (Holds FA aL w5.heap.size w5) := (HL5.out.below hB5).mono hs5
  have hBk5 : Below w.heap.size w w5 := hBk4.trans (hB5.mono hBk4.size)
  obtain ⟨aR, cR, hvr⟩ := hO5.shape
  rw [hvr] at hO5 ⊢
  have HR6 : Hid (Holds FC aR w5.heap.size w5) := hO5.holds
  clear hvr hO5 hB5 HC5 HJ5 HL5 hBk4
  have hmk := make_caps i9 hi9 hz90 hz91 hz92 ((FA.length : Int) + (FC.length : Int) + 1) (FA.length + FC.length + 1) (by omega) (by omega)
  go_upto_block 8 with fail
  clear hmk
  have hO0 := ownsS_made w5 (FA.length + FC.length + 1) (by omega)
  have hB0 : Below w5.heap.size w5 (w5.alloc (.cells (madeCells #[.string ByteArray.empty] (FA.length + FC.length + 1)) 9)) := (Below.refl _ _).alloc (Nat.le_refl _) _
  have HW0 : Hid (OwnsS w5.heap.size (([] : List ByteArray) ++ FA.take 0) (.slice (some ⟨w5.heap.size, 0, none⟩) 0 (FA.length + FC.length + 1)) (w5.alloc (.cells (madeCells #[.string ByteArray.empty] (FA.length + FC.length + 1)) 9))) := hO0
  go_cut [22] (fun v wx => Hid (OwnsS w5.heap.size (([] : List ByteArray) ++ FA) v wx) ∧ Below w5.heap.size w5 wx)
  case first =>
    go_wp2_with fail
    go_loopw [22, 23] (fun v sk wx => ∃ k : Nat, k ≤ FA.length ∧ sk = .int .i64 k ∧ Hid (OwnsS w5.heap.size (([] : List ByteArray) ++ FA.take k) v wx) ∧ Below w5.heap.size w5 wx) (fun _ sk _ => FA.length - (intOf sk).toNat)
    case atStart => exact ⟨0, Nat.zero_le _, rfl, HW0, hB0⟩
    case round =>
      obtain ⟨k, hk, rfl, HK, hBk⟩ := hrel
      have hszk := hBk.size
      by_cases hlt : k < FA.length
      · obtain ⟨b, off, rfl, hbl, hc⟩ := HL6.out (by omega)
        obtain ⟨y, hy⟩ : ∃ y, FA.getD k ByteArray.empty = y := ⟨_, rfl⟩
        have hcx : wr.cell? ⟨b, off + k, none⟩ = some (.string y) := by rw [← hy]; exact (hBk.cell (by exact hbl)).trans (hc k hlt)
        have HT1 : Hid (([] : List ByteArray) ++ FA.take (k + 1) = (([] : List ByteArray) ++ FA.take k) ++ [y]) := by show _ = _; rw [take_snoc_b FA hlt hy, List.append_assoc]
        clear hy hc
        obtain ⟨lk, ek⟩ : ∃ lk, lk = ([] : List ByteArray) ++ FA.take k := ⟨_, rfl⟩
        rw [← ek] at HK HT1
        have hlk' : lk.length ≤ 262144 := by rw [ek]; simp; omega
        clear ek
        have hown := HK.out
        obtain ⟨aok, ck, rfl⟩ := HK.out.shape
        go_wp2_with (at_builtin; refine wpList_append_own _ rfl (.tmp 160) (.tmp 165) 29 rfl w5.heap.size 9 i9 (.string ByteArray.empty) 1 16 Try.underlying29 hi9 hz90 hz91 hz92 rfl (by decide) _ _ _ rfl (World.ownsRow.alloc hown _) ⟨wr.heap.size, 0, none⟩ 1 1 [.string y] rfl rfl (cell_one_new _ _ _) (by intro u hu; simp at hu; subst hu; rfl) (by unfold maxLen; omega) (by omega) (by simp; omega) ?_; intro v2 w2 hown2 hgrow2 _)
        have R := ownsS_one (Nat.le_refl _) hown hBk hown2 hgrow2
        rw [← HT1.out] at R
        clear hown2 hgrow2 hown hcx
        go_roundw
        case rel => first | exact ⟨k + 1, by omega, by go_num, R.1, R.2⟩ | ((repeat apply Exists.intro); exact ⟨⟨k + 1, by omega, by go_num, R.1, R.2⟩, rfl⟩)
        case measure => simp [intOf]; omega
      · obtain rfl : k = FA.length := by omega
        rw [List.take_length] at HK
        go_wp2_with fail
        go_meet
        case rel => exact ⟨HK, hBk⟩
  case rest =>
  obtain ⟨HW1, hBw5⟩ := hcut
  rw [List.nil_append] at HW1
  clear HW0 hO0 hB0
  obtain ⟨aW, cW, rfl⟩ := HW1.out.shape
  have hszw5 := hBw5.size
  have hown := HW1.out
  go_upto_block 10 with (at_builtin; refine wpList_append_own _ rfl (.tmp 167) (.tmp 169) 29 rfl w5.heap.size 9 i9 (.string ByteArray.empty) 1 16 Try.underlying29 hi9 hz90 hz91 hz92 rfl (by decide) _ _ _ rfl (World.ownsRow.alloc hown _) ⟨wc.heap.size, 0, none⟩ 1 1 [.string num] rfl rfl (cell_one_new _ _ _) (by intro u hu; simp at hu; subst hu; rfl) (by unfold maxLen; omega) (by omega) (by simp; omega) ?_; intro v2 w2 hown2 hgrow2 _)
  obtain ⟨HW2, hBw6⟩ := ownsS_one (Nat.le_refl _) hown hBw5 hown2 hgrow2
  clear hown hown2 hgrow2 HW1 hBw5
  obtain ⟨P2, eP2⟩ : ∃ P2, P2 = FA ++ [num] := ⟨_, rfl⟩
  rw [← eP2] at HW2
  have hP2 : P2.length ≤ 65537 := by rw [eP2]; simp; omega
  have EP2 : Hid (P2 = FA ++ [num]) := eP2
  clear eP2
  obtain ⟨aP2, cP2, hvP2⟩ := HW2.shape
  rw [hvP2] at HW2 ⊢
  clear hvP2
  have HW0 : Hid (OwnsS w5.heap.size (P2 ++ FC.take 0) (.slice aP2 P2.length cP2) w2) := by show OwnsS _ _ _ _; simpa using HW2
  go_cut [22] (fun v wx => Hid (OwnsS w5.heap.size (P2 ++ FC) v wx) ∧ Below w5.heap.size w5 wx)
  case first =>
    go_wp2_with fail
    go_loopw [22, 24] (fun v sk wx => ∃ k : Nat, k ≤ FC.length ∧ sk = .int .i64 k ∧ Hid (OwnsS w5.heap.size (P2 ++ FC.take k) v wx) ∧ Below w5.heap.size w5 wx) (fun _ sk _ => FC.length - (intOf sk).toNat)
    case atStart => exact ⟨0, Nat.zero_le _, rfl, HW0, hBw6⟩
    case round =>
      obtain ⟨k, hk, rfl, HK, hBk⟩ := hrel
      have hszk := hBk.size
      by_cases hlt : k < FC.length
      · obtain ⟨b, off, rfl, hbl, hc⟩ := HR6.out (by omega)
        obtain ⟨y, hy⟩ : ∃ y, FC.getD k ByteArray.empty = y := ⟨_, rfl⟩
        have hcx : wr.cell? ⟨b, off + k, none⟩ = some (.string y) := by rw [← hy]; exact (hBk.cell (by exact hbl)).trans (hc k hlt)
        have HT1 : Hid (P2 ++ FC.take (k + 1) = (P2 ++ FC.take k) ++ [y]) := by show _ = _; rw [take_snoc_b FC hlt hy, List.append_assoc]
        clear hy hc
        obtain ⟨lk, ek⟩ : ∃ lk, lk = P2 ++ FC.take k := ⟨_, rfl⟩
        rw [← ek] at HK HT1
        have hlk' : lk.length ≤ 262144 := by rw [ek]; simp; omega
        clear ek
        have hown := HK.out
        obtain ⟨aok, ck, rfl⟩ := HK.out.shape
        go_wp2_with (at_builtin; refine wpList_append_own _ rfl (.tmp 177) (.tmp 182) 29 rfl w5.heap.size 9 i9 (.string ByteArray.empty) 1 16 Try.underlying29 hi9 hz90 hz91 hz92 rfl (by decide) _ _ _ rfl (World.ownsRow.alloc hown _) ⟨wr.heap.size, 0, none⟩ 1 1 [.string y] rfl rfl (cell_one_new _ _ _) (by intro u hu; simp at hu; subst hu; rfl) (by unfold maxLen; omega) (by omega) (by simp; omega) ?_; intro v2 w2 hown2 hgrow2 _)
        have R := ownsS_one (Nat.le_refl _) hown hBk hown2 hgrow2
        rw [← HT1.out] at R
        clear hown2 hgrow2 hown hcx
        go_roundw
        case rel => first | exact ⟨k + 1, by omega, by go_num, R.1, R.2⟩ | ((repeat apply Exists.intro); exact ⟨⟨k + 1, by omega, by go_num, R.1, R.2⟩, rfl⟩)
        case measure => simp [intOf]; omega
      · obtain rfl : k = FC.length := by omega
        rw [List.take_length] at HK
        go_wp2_with fail
        go_meet
        case rel => exact ⟨HK, hBk⟩
  case rest =>
  obtain ⟨HW3, hBw7⟩ := hcut
  clear HW0 HW2 hBw6
  have HW4 : Hid (OwnsS w5.heap.size (F J) u22 wc) := by
    show OwnsS _ _ _ _
    rw [HEQ.out]
    have := HW3.out
    rw [EP2.out] at this
    simpa using this
  clear HW3 HEQ EP2
  obtain ⟨FJ, eFJ⟩ : ∃ FJ, FJ = F J := ⟨_, rfl⟩
  rw [← eFJ] at HW4 hFJ
  have EFJ : Hid (FJ = F J) := eFJ
  clear eFJ
  obtain ⟨aW2, cW2, rfl⟩ := HW4.out.shape
  have hs7 := hBw7.size
  have HJ7 : Hid (Holds J aJ wc.heap.size wc) := (HJ6.out.below hBw7).mono hs7
  have HW7 : Hid (Holds FJ aW2 wc.heap.size wc) := HW4.out.holds
  have hBk7 : Below w.heap.size w wc := hBk5.trans (hBw7.mono hBk5.size)
  clear HJ6 HW4 hBw7 HL6 HR6 hBk5
  obtain ⟨w7, rfl⟩ : ∃ w7 : World, w7 = wc := ⟨_, rfl⟩
  go_wp2_with fail
  refine (numbers_any J aJ cJ w7 (by omega) SJ2.out HJ7.out).mono ?_
  rintro e w8 ⟨vg, rfl, hO8, hB8⟩
  rw [← EFJ.out] at hO8
  have hs8 := hB8.size
  have HW8 : Hid (Holds FJ aW2 w8.heap.size w8) := (HW7.out.below hB8).mono hs8
  have hBk8 : Below w.heap.size w w8 := hBk7.trans (hB8.mono hBk7.size)
  obtain ⟨aG, cG, hvg⟩ := hO8.shape
  rw [hvg] at hO8 ⊢
  have HG8 : Hid (Holds FJ aG w8.heap.size w8) := hO8.holds
  have SG : Hid (∀ s ∈ FJ, s.size ≤ 2097152) := fun s hs => by
    rw [EFJ.out] at hs
    unfold F at hs
    exact SJ2.out s (List.mem_filter.1 hs).1
  have EFF : Hid (F FJ = FJ) := by show _ = _; rw [EFJ.out]; exact F_F J
  clear hvg hO8 hB8 HJ7 HW7 hBk7
  go_wp2_with fail
  refine (same_any FJ aG aW2 cG cW2 w8.heap.size w8 (by omega) HG8.out HW8.out).mono ?_
  rintro e w9 ⟨rfl, nq, hw9⟩
  have HG9 : Hid (Holds FJ aG w9.heap.size w9) := by rw [hw9]; exact HG8.out
  have hBk9 : Below w.heap.size w w9 := by rw [hw9]; exact below_drewN hBk8 _
  clear hw9 HG8 HW8 hBk8
  go_wp2_with fail
  refine (numbers_any FJ aG cG w9 (by omega) SG.out HG9.out).mono ?_
  rintro e w10 ⟨va, rfl, hO10, hB10⟩
  rw [EFF.out] at hO10
  have hs10 := hB10.size
  have HG10 : Hid (Holds FJ aG w10.heap.size w10) := (HG9.out.below hB10).mono hs10
  have hBk10 : Below w.heap.size w w10 := hBk9.trans (hB10.mono hBk9.size)
  obtain ⟨aF, cF, hva⟩ := hO10.shape
  rw [hva] at hO10 ⊢
  have HF10 : Hid (Holds FJ aF w10.heap.size w10) := hO10.holds
  clear hva hO10 hB10 HG9 hBk9
  go_wp2_with fail
  refine (same_any FJ aF aG cF cG w10.heap.size w10 (by omega) HF10.out HG10.out).mono ?_
  rintro e w11 ⟨rfl, nq2, hw11⟩
  have hBk11 : Below w.heap.size w w11 := by rw [hw11]; exact below_drewN hBk10 _
  clear hw11
  go_wp2
  go_ret
  exact ⟨rfl, hBk11⟩
end Go.Proofs.Qxb6617277a.Json
