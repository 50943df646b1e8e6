import Derived.Test.Qxb6617277aBase
import Derived.Test.Qxb6617277aScanPlain
import Derived.Deep.DeepCutAuto
namespace Go.Proofs.Qxb6617277a.Scan
open Go.RowKit
set_option linter.unusedSimpArgs false

/-- A word of 64 bits (the number behind a name of its own, so that the walk does not reckon with it). -/
def Word (x : Nat) : Prop := x < 18446744073709551616
theorem Word.div {x : Nat} (h : Word x) : Word (x / 10) := by unfold Word at *; omega
theorem Word.wrap {x : Nat} (h : Word x) : IntKind.u64.wrap ((x : Int) / 10) = (x : Int) / 10 := by
  unfold Word at h
  exact IntWalk.u64_in _ ⟨by omega, by omega⟩
theorem Word.pow {x : Nat} (h : Word x) : x < 10 ^ 20 := by unfold Word at h; omega

/-- The state of the loop that takes the digits off: i places are left, x is left of the number, D has been laid. -/
structure St (i x : Nat) (D : List Int) : Prop where
  len : D.length + i = 20
  lt : x < 10 ^ i
  digit : ∀ y ∈ D, 48 ≤ y ∧ y ≤ 57
  lead : D = [] ∨ 1 ≤ x

theorem St.ge {i x : Nat} {D : List Int} (h : St i x D) (hx : 10 ≤ x) : 2 ≤ i := by
  have := h.lt
  match i, this with
  | 0, h => simp at h; omega
  | 1, h => simp at h; omega
  | i + 2, _ => omega

theorem St.ge1 {i x : Nat} {D : List Int} (h : St i x D) : 1 ≤ i := by
  have h1 := h.lt
  have h2 := h.len
  match i, h1, h2 with
  | 0, h1, h2 => rcases h.lead with rfl | h3
                 · simp at h2
                 · simp at h1; omega
  | i + 1, _, _ => omega

theorem St.next {k x : Nat} {D : List Int} (h : St (k + 1) x D) (hx : 10 ≤ x) : St k (x / 10) ((48 + (x : Int) % 10) :: D) := by
  refine ⟨by have := h.len; simp; omega, ?_, fun y hy => ?_, .inr (by omega)⟩
  · have := h.lt
    rw [Nat.pow_succ] at this
    omega
  · rcases List.mem_cons.1 hy with rfl | hy
    · omega
    · exact h.digit y hy

theorem St.last {k x : Nat} {D : List Int} (h : St (k + 1) x D) (hx : x < 10) : IsNum ((48 + (x : Int)) :: D) := by
  refine ⟨by simp, by have := h.len; simp; omega, fun y hy => ?_, ?_⟩
  · rcases List.mem_cons.1 hy with rfl | hy
    · omega
    · exact h.digit y hy
  · rcases h.lead with rfl | h1
    · left; rfl
    · right; simp; omega

/-- A row's content behind the store of one digit more. -/
theorem row_next {w : World} {T k : Nat} {D : List Int} {d : Int} (hrow : w.rowIs T 38 20 (fun j => .int .u8 (if j < k + 1 then 0 else D.getD (j - (k + 1)) 0))) :
    (w.setCell ⟨T, k, none⟩ (.int .u8 d)).rowIs T 38 20 (fun j => .int .u8 (if j < k then 0 else (d :: D).getD (j - k) 0)) := by
  refine (hrow.set k (.int .u8 d)).congr fun j _ => ?_
  by_cases e : j = k
  · subst e; simp
  · simp only [if_neg e]
    by_cases e2 : j < k
    · rw [if_pos e2, if_pos (by omega)]
    · rw [if_neg e2, if_neg (by omega)]
      rw [show j - k = (j - (k + 1)) + 1 by omega]
      rfl

/-- A row of another type is no block that is owned. -/
theorem own_not {w : World} {base : Nat} {v : Value} {n : Nat} {xs : List Value} (h : w.ownsRow base 5 1 v n xs) {T m : Nat} {f : Nat → Value} (hr : w.rowIs T 38 m f) : v.ownBlock ≠ some T := by
  rcases h.2 with ⟨rfl, _⟩ | ⟨g, cap, cur, rfl, _, hg, _⟩
  · simp [Value.ownBlock]
  · intro e
    simp [Value.ownBlock] at e
    subst e
    obtain ⟨c, hb, _⟩ := hr
    rw [hg] at hb
    simp at hb

theorem grownBy_setCell (w : World) (a : Addr) (u : Value) : w.grownBy (w.setCell a u) (some a.block) :=
  ⟨rfl, rfl, rfl, by simp, fun k _ hk => Below.heap_setCell _ _ _ _ (fun e => hk (by rw [e]))⟩

theorem own_store {w : World} {base : Nat} {v : Value} {n : Nat} {xs : List Value} (h : w.ownsRow base 5 1 v n xs) {T m : Nat} {f : Nat → Value} (hr : w.rowIs T 38 m f) (k : Nat) (u : Value) : (w.setCell ⟨T, k, none⟩ u).ownsRow base 5 1 v n xs :=
  h.kept (grownBy_setCell w ⟨T, k, none⟩ u) (.inr (own_not h hr))

theorem rowIs_kept {w w' : World} {b : Nat} {t : TypeId} {n : Nat} {f : Nat → Value} {row : Option Nat} (h : w.rowIs b t n f) (hg : w.grownBy w' row) (hne : row ≠ some b) : w'.rowIs b t n f :=
  h.of_block (hg.block b h.lt (fun e => hne e.symm))

theorem rowIs_rep (w : World) (z : Value) (n : Nat) (t : TypeId) : (w.alloc (.cells (List.replicate n z).toArray t)).rowIs w.heap.size t n (fun _ => z) := by
  have := World.rowIs_alloc w (List.replicate n z).toArray t (fun _ => z) (fun i hi => by
    simp at hi
    simp [hi])
  simpa using this

theorem rowIs_zeros (w : World) : (w.alloc (.cells #[.int .u8 0, .int .u8 0, .int .u8 0, .int .u8 0, .int .u8 0, .int .u8 0, .int .u8 0, .int .u8 0, .int .u8 0, .int .u8 0, .int .u8 0, .int .u8 0, .int .u8 0, .int .u8 0, .int .u8 0, .int .u8 0, .int .u8 0, .int .u8 0, .int .u8 0, .int .u8 0] 38)).rowIs w.heap.size 38 20 (fun _ => .int .u8 0) := by
  have e : (#[.int .u8 0, .int .u8 0, .int .u8 0, .int .u8 0, .int .u8 0, .int .u8 0, .int .u8 0, .int .u8 0, .int .u8 0, .int .u8 0, .int .u8 0, .int .u8 0, .int .u8 0, .int .u8 0, .int .u8 0, .int .u8 0, .int .u8 0, .int .u8 0, .int .u8 0, .int .u8 0] : Array Value) = (List.replicate 20 (Value.int .u8 0)).toArray := rfl
  rw [e]
  exact rowIs_rep w _ 20 38

theorem own_shape' {w : World} {base : Nat} {e : TypeId} {size n : Nat} {v : Value} {xs : List Value} (h : w.ownsRow base e size v n xs) : ∃ ao c, v = .slice ao n c := by
  rcases h.2 with ⟨rfl, rfl⟩ | ⟨g, c, cur, rfl, _⟩
  · exact ⟨_, _, rfl⟩
  · exact ⟨_, _, rfl⟩

theorem take_snoc (ds : List Int) {m : Nat} (h : m < ds.length) {y : Int} (hy : ds.getD m 0 = y) : ds.take (m + 1) = ds.take m ++ [y] := by
  rw [List.take_succ_eq_append_getElem h, ← hy]
  simp [List.getD, h]

/-- One round of the loop that appends, on worlds. -/
theorem round2 {w wr w2 : World} {base T k m n : Nat} {ds : List Int} {xs : List Value} {v v2 : Value} {y : Int} {o : Obj} (hT : wr.rowIs T 38 20 (fun j => .int .u8 (if j < k then 0 else ds.getD (j - k) 0)))
    (hown : wr.ownsRow base 5 1 v (n + m) (xs ++ (ds.take m).map (Value.int .u8))) (hB : Below base w wr) (hbase : base ≤ w.heap.size) (hy : ds.getD m 0 = y) (hlt : m < ds.length)
    (hown2 : w2.ownsRow base 5 1 v2 (n + m + 1) (xs ++ (ds.take m).map (Value.int .u8) ++ [.int .u8 y])) (hgrow2 : (wr.alloc o).grownBy w2 v.ownBlock) :
    w2.rowIs T 38 20 (fun j => .int .u8 (if j < k then 0 else ds.getD (j - k) 0)) ∧ w2.ownsRow base 5 1 v2 (n + (m + 1)) (xs ++ (ds.take (m + 1)).map (Value.int .u8)) ∧ Below base w w2 := by
  have hs := hB.size
  refine ⟨rowIs_kept (hT.alloc o) hgrow2 (own_not hown hT), ?_, ?_⟩
  · rw [take_snoc ds hlt hy, List.map_append, ← List.append_assoc, ← Nat.add_assoc]
    exact hown2
  · exact (hB.alloc (by omega) o).grown hgrow2 (by simp; omega) (fun x hx => (hown.lt x hx).1)

set_option maxHeartbeats 1000000 in
set_option maxRecDepth 100000 in
theorem appendUint_any (X : Nat) (hX : Word X) (base : Nat) (ao : Option Addr) (n c : Nat) (xs : List Value) (w : World) (hbase : base ≤ w.heap.size) (hn : n ≤ 1048576) (hown : w.ownsRow base 5 1 (.slice ao n c) n xs) :
    Calls Try.prog 10 #[.slice ao n c, .int .u64 (X : Int)] w fun e w' => ∃ v ds, e = .returned v ∧ IsNum ds ∧ w'.ownsRow base 5 1 v (n + ds.length) (xs ++ ds.map (Value.int .u8)) ∧ Below base w w' := by
  obtain ⟨i0, hi, hz0, hz1, hz2⟩ := info_parts info5
  have HO : Hid (w.ownsRow base 5 1 (.slice ao n c) n xs) := hown
  clear hown
  go_enter Try.func10, Try.ntmps10
  go_wp2
  go_loopw [1, 6] (fun s1 s6 wr => ∃ (x i : Nat) (D : List Int), s1 = .int .u64 x ∧ s6 = .int .i64 i ∧ Word x ∧ i ≤ 20 ∧ Hid (St i x D) ∧ Hid (wr.rowIs w.heap.size 38 20 (fun j => .int .u8 (if j < i then 0 else D.getD (j - i) 0))) ∧ Hid (wr.ownsRow base 5 1 (.slice ao n c) n xs) ∧ Below base w wr)
    (fun _ s6 _ => (intOf s6).toNat)
  case atStart =>
    refine ⟨X, 20, [], rfl, rfl, hX, by omega, ⟨rfl, hX.pow, fun y hy => (by cases hy), .inl rfl⟩, ?_, HO.out.alloc _, (Below.refl _ _).alloc hbase _⟩
    exact (rowIs_zeros w).congr fun j _ => by simp
  case round =>
    obtain ⟨x, i, D, rfl, rfl, hx, hi20, HS, HR, HW, hB⟩ := hrel
    by_cases h10 : 10 ≤ x
    · have hi2 := HS.out.ge h10
      obtain ⟨k, rfl⟩ : ∃ k, i = k + 1 := ⟨i - 1, by omega⟩
      have hcs := HR.out.cell (i := k) (by omega)
      have hfs := HR.out.frozen k
      have hq := hx.wrap
      go_wp2
      go_roundw
      case rel => exact ⟨x / 10, k, (48 + (x : Int) % 10) :: D, by go_num, rfl, hx.div, by omega, HS.out.next h10, row_next HR.out, own_store HW.out HR.out _ _, hB.setCell hbase _⟩
      case measure => simp [intOf]
    · have hi1 := HS.out.ge1
      obtain ⟨k, rfl⟩ : ∃ k, i = k + 1 := ⟨i - 1, by omega⟩
      have hcs := HR.out.cell (i := k) (by omega)
      have hfs := HR.out.frozen k
      have HN : Hid (IsNum ((48 + (x : Int)) :: D)) := HS.out.last (by omega)
      have HR2 : Hid ((wr.setCell ⟨w.heap.size, k, none⟩ (.int .u8 (48 + (x : Int)))).rowIs w.heap.size 38 20 (fun j => .int .u8 (if j < k then 0 else ((48 + (x : Int)) :: D).getD (j - k) 0))) := row_next HR.out
      have HW2 : Hid ((wr.setCell ⟨w.heap.size, k, none⟩ (.int .u8 (48 + (x : Int)))).ownsRow base 5 1 (.slice ao n c) n xs) := own_store HW.out HR.out _ _
      have hB2 : Below base w (wr.setCell ⟨w.heap.size, k, none⟩ (.int .u8 (48 + (x : Int)))) := hB.setCell hbase _
      have hlen : k + ((48 + (x : Int)) :: D).length = 20 := by have := HS.out.len; simp; omega
      go_wp2
      clear hcs hfs
      obtain ⟨ds, hds⟩ : ∃ ds, ds = (48 + (x : Int)) :: D := ⟨_, rfl⟩
      rw [← hds] at HN HR2 hlen
      clear hds
      go_loopw [0, 7] (fun s0 s7 wx => ∃ m : Nat, m ≤ ds.length ∧ s7 = .int .i64 ((k + m : Nat) : Int) ∧ Hid (wx.rowIs w.heap.size 38 20 (fun j => .int .u8 (if j < k then 0 else ds.getD (j - k) 0))) ∧ Hid (wx.ownsRow base 5 1 s0 (n + m) (xs ++ (ds.take m).map (Value.int .u8))) ∧ Below base w wx)
        (fun _ s7 _ => 20 - (intOf s7).toNat)
      case atStart => exact ⟨0, Nat.zero_le _, rfl, HR2, by simpa using HW2, hB2⟩
      case round =>
        obtain ⟨m, hm, rfl, HT, HV, hBx⟩ := hrel
        obtain ⟨ao', c', rfl⟩ := own_shape' HV.out
        by_cases hlt : m < ds.length
        · have hcx : wr.cell? ⟨w.heap.size, k + m, none⟩ = some (.int .u8 (ds.getD m 0)) := by
            have := HT.out.cell (i := k + m) (by omega)
            rw [this, if_neg (by omega), show k + m - k = m by omega]
          have hszw := HT.out.lt
          have hd20 := HN.out.le
          have hown := HV.out
          generalize hy : ds.getD m 0 = y at hcx
          have HY : Hid (ds.getD m 0 = y) := hy
          clear hy
          go_wp2_with (at_builtin; refine wpList_append_own _ rfl (.tmp 32) (.tmp 36) 24 rfl base 5 i0 (.int .u8 0) 1 1 Try.underlying24 hi hz0 hz1 hz2 rfl (by decide) _ _ _ rfl (hown.alloc _) ⟨wr.heap.size, 0, none⟩ 1 1 [.int .u8 y] rfl rfl (cell_one_new _ _ _) (by intro u hu; simp at hu; subst hu; rfl) (by unfold maxLen; omega) (by omega) (by simp; omega) ?_; intro v2 w2 hown2 hgrow2 _)
          have R := round2 HT.out hown hBx hbase HY.out hlt hown2 hgrow2
          clear hown hown2 hgrow2 hcx
          go_roundw
          case rel => (repeat apply Exists.intro); exact ⟨⟨m + 1, by omega, by go_num, R.1, R.2.1, R.2.2⟩, rfl⟩
          case measure => simp [intOf]; omega
        · obtain rfl : m = ds.length := by omega
          go_wp2
          go_ret
          have hown := HV.out
          rw [List.take_length] at hown
          exact ⟨_, ds, rfl, HN.out, hown, hBx⟩
end Go.Proofs.Qxb6617277a.Scan
