import Derived.Test.Qxb6617277aScanAll
import Derived.Test.Qxb6617277aDigs
import Derived.Test.Qxb6617277aJsonPlain
namespace Go.Proofs.Qxb6617277a.Json
open Go.RowKit Go.Proofs.Qxb6617277a.Scan
set_option linter.unusedSimpArgs false

/-- A slice that holds the strings L, in a block below lim. -/
def Holds (L : List ByteArray) (ao : Option Addr) (lim : Nat) (w : World) : Prop :=
  0 < L.length → ∃ b off, ao = some ⟨b, off, none⟩ ∧ b < lim ∧ ∀ i, i < L.length → w.cell? ⟨b, off + i, none⟩ = some (.string (L.getD i ByteArray.empty))

theorem Holds.below {L : List ByteArray} {ao : Option Addr} {lim : Nat} {w w' : World} (h : Holds L ao lim w) (hb : Below lim w w') : Holds L ao lim w' := fun h0 => by
  obtain ⟨b, off, e, hl, hc⟩ := h h0
  exact ⟨b, off, e, hl, fun i hi => (hb.cell (by exact hl)).trans (hc i hi)⟩
theorem Holds.mono {L : List ByteArray} {ao : Option Addr} {lim lim' : Nat} {w : World} (h : Holds L ao lim w) (hl : lim ≤ lim') : Holds L ao lim' w := fun h0 => by
  obtain ⟨b, off, e, hl', hc⟩ := h h0
  exact ⟨b, off, e, by omega, hc⟩

/-- The value v owns the strings L. -/
def OwnsS (B : Nat) (L : List ByteArray) (v : Value) (w : World) : Prop := w.ownsRow B 9 1 v L.length (L.map Value.string)

theorem OwnsS.shape {B : Nat} {L : List ByteArray} {v : Value} {w : World} (h : OwnsS B L v w) : ∃ ao c, v = .slice ao L.length c := own_shape' h

theorem OwnsS.holds {B : Nat} {L : List ByteArray} {ao : Option Addr} {c : Nat} {w : World} (h : OwnsS B L (.slice ao L.length c) w) : Holds L ao w.heap.size w := fun h0 => by
  have hown : w.ownsRow B 9 1 (.slice ao L.length c) L.length (L.map Value.string) := h
  rcases hown.2 with ⟨_, h1⟩ | ⟨g, c', cur, hv, hb, hg, _⟩
  · omega
  · simp only [Value.slice.injEq] at hv
    obtain ⟨rfl, _, rfl⟩ := hv
    refine ⟨g, 0, rfl, (Array.getElem?_eq_some_iff.1 hg).1, fun i hi => ?_⟩
    rw [Nat.zero_add, hown.cellAt i (by omega)]
    simp [List.getD, hi]

/-- One string more. -/
theorem ownsS_one {B : Nat} {L : List ByteArray} {v v2 : Value} {w wr w2 : World} {s : ByteArray} {o : Obj} (hB0 : B ≤ w.heap.size) (h : OwnsS B L v wr) (hB : Below B w wr)
    (hown2 : w2.ownsRow B 9 1 v2 (L.length + 1) (L.map Value.string ++ [.string s])) (hgrow2 : (wr.alloc o).grownBy w2 v.ownBlock) : OwnsS B (L ++ [s]) v2 w2 ∧ Below B w w2 := by
  have hs := hB.size
  refine ⟨?_, (hB.alloc (by omega) o).grown hgrow2 (by simp; omega) (fun x hx => (World.ownsRow.lt h x hx).1)⟩
  unfold OwnsS
  rw [List.map_append, List.length_append]
  exact hown2

theorem bts_cell (s : ByteArray) (cap i : Nat) (hi : i < s.size) : (bytesRow s cap)[i]? = some (.int .u8 (bts s i)) := by
  have h1 : i < s.data.size := hi
  rw [bytesRow_at s cap i h1]
  have hl : i < (bl s).length := by rw [bl_length]; exact hi
  unfold bts
  rw [List.getD_eq_getElem?_getD, List.getElem?_eq_getElem hl]
  simp [bl]

set_option maxHeartbeats 1000000 in
set_option maxRecDepth 100000 in
theorem numbers_any (L : List ByteArray) (ao : Option Addr) (cap : Nat) (w : World) (hL : L.length ≤ 1048576) (hs : ∀ s ∈ L, s.size ≤ 2097152) (hh : Holds L ao w.heap.size w) :
    Calls Try.prog 16 #[.slice ao L.length cap] w fun e w' => ∃ v, e = .returned v ∧ OwnsS w.heap.size (F L) v w' ∧ Below w.heap.size w w' := by
  obtain ⟨i9, hi, hz0, hz1, hz2⟩ := info_parts info9
  have HH : Hid (Holds L ao w.heap.size w) := hh
  have HS : Hid (∀ s ∈ L, s.size ≤ 2097152) := hs
  clear hh hs
  go_enter Try.func16, Try.ntmps16
  go_wp2
  go_loopw [3, 8] (fun v s8 wx => ∃ k : Nat, k ≤ L.length ∧ s8 = .int .i64 k ∧ Hid (OwnsS w.heap.size (F (L.take k)) v wx) ∧ Below w.heap.size w wx) (fun _ s8 _ => L.length - (intOf s8).toNat)
  case atStart => exact ⟨0, Nat.zero_le _, rfl, World.ownsRow_nil _ _ _ _, Below.refl _ _⟩
  case round =>
    obtain ⟨k, hk, rfl, HO, hB⟩ := hrel
    have hsz := hB.size
    by_cases hlt : k < L.length
    · obtain ⟨b, off, rfl, hbl, hc⟩ := HH.out (by omega)
      obtain ⟨s, es⟩ : ∃ s, L.getD k ByteArray.empty = s := ⟨_, rfl⟩
      have hcx : wr.cell? ⟨b, off + k, none⟩ = some (.string s) := by rw [← es]; exact (hB.cell (by exact hbl)).trans (hc k hlt)
      have hss : s.size ≤ 2097152 := HS.out s (by rw [← es, List.getD_eq_getElem?_getD, List.getElem?_eq_getElem hlt]; exact List.getElem_mem hlt)
      have ES : Hid (L.getD k ByteArray.empty = s) := es
      clear es hc
      obtain ⟨Fk, eF⟩ : ∃ Fk, Fk = F (L.take k) := ⟨_, rfl⟩
      rw [← eF] at HO
      have hFl : Fk.length ≤ 1048576 := by rw [eF]; have := F_le (L.take k); simp at this; omega
      have EF : Hid (Fk = F (L.take k)) := eF
      clear eF
      obtain ⟨aoF, cF, rfl⟩ := HO.out.shape
      have hcv := fun W => run_bytes_of_string (P := Try.prog) W 9 24 5 s Try.underlying9 Try.underlying24 Try.underlying5
      go_wp2_with fail
      generalize grownCap wr s.size 0 5 = C
      refine (scan20 (bts s) s.size _ _ _ (by omega) (fun _ => ⟨wr.heap.size, 0, rfl, fun i hi => ?_⟩) (fun i hi => bts_byte s i hi)).mono ?_
      · rw [Nat.zero_add]
        show (wr.alloc _).cell? _ = _
        rw [World.cell?_alloc_mark]
        exact bts_cell s C i hi
      rintro e w2 ⟨rfl, hw⟩
      have hO2 : OwnsS w.heap.size Fk (.slice aoF Fk.length cF) w2 := by rw [← hw]; exact (World.ownsRow.alloc HO.out _).drew
      have hB2 : Below w.heap.size w w2 := by rw [← hw]; exact (hB.alloc hsz _).drew
      clear hw HO hcx hcv
      have hsz2 := hB2.size
      by_cases hN : scan (bts s) s.size = s.size
      · have HY : Hid (F (L.take (k + 1)) = Fk ++ [s]) := by
          show _ = _
          rw [EF.out]
          exact F_snoc_yes hlt ES.out (by unfold isNum; rw [hN]; simp)
        rw [hN]
        clear hN
        go_wp2_with (at_builtin; refine wpList_append_own _ rfl (.tmp 18) (.tmp 20) 29 rfl w.heap.size 9 i9 (.string ByteArray.empty) 1 16 Try.underlying29 hi hz0 hz1 hz2 rfl (by decide) _ _ _ rfl (World.ownsRow.alloc hO2 _) ⟨w2.heap.size, 0, none⟩ 1 1 [.string s] rfl rfl (cell_one_new _ _ _) (by intro u hu; simp at hu; subst hu; rfl) (by unfold maxLen; omega) (by omega) (by simp; omega) ?_; intro v3 w3 hown3 hgrow3 _)
        have R := ownsS_one (Nat.le_refl _) hO2 hB2 hown3 hgrow3
        rw [← HY.out] at R
        clear hown3 hgrow3 hO2
        go_roundw
        case rel => first | exact ⟨k + 1, by omega, by go_num, R.1, R.2⟩ | ((repeat apply Exists.intro); exact ⟨⟨k + 1, by omega, by go_num, R.1, R.2⟩, rfl⟩)
        case measure => simp [intOf]; omega
      · have HY : Hid (F (L.take (k + 1)) = Fk) := by
          show _ = _
          rw [EF.out]
          exact F_snoc_no hlt ES.out (by unfold isNum; simpa using hN)
        have hne : (((scan (bts s) s.size : Nat) : Int) == (s.size : Int)) = false := by simp; omega
        generalize scan (bts s) s.size = E at hne
        clear hN
        go_wp2
        go_roundw
        case rel => exact ⟨k + 1, by omega, by go_num, (by rw [HY.out]; exact hO2 : OwnsS w.heap.size (F (L.take (k + 1))) (.slice aoF Fk.length cF) w2), hB2⟩
        case measure => simp [intOf]; omega
    · obtain rfl : k = L.length := by omega
      rw [List.take_length] at HO
      go_wp2
      go_ret
      exact ⟨_, rfl, HO.out, hB⟩

set_option maxHeartbeats 1000000 in
/-- Two slices that hold the same strings are the same. -/
theorem same_any (L : List ByteArray) (ao ao' : Option Addr) (cap cap' lim : Nat) (w : World) (hL : L.length ≤ 1048576) (h1 : Holds L ao lim w) (h2 : Holds L ao' lim w) :
    Calls Try.prog 17 #[.slice ao L.length cap, .slice ao' L.length cap'] w fun e w' => e = .returned (.bool true) ∧ ∃ nq, w' = w.drewN nq := by
  rcases Nat.eq_zero_or_pos L.length with h0 | h0
  · rw [h0]
    go_enter Try.func17, Try.ntmps17
    go_wp2
    go_rounds 1
    go_ret
    exact ⟨rfl, 0, rfl⟩
  obtain ⟨b, off, rfl, _, hc⟩ := h1 h0
  obtain ⟨b', off', rfl, _, hc'⟩ := h2 h0
  have HC : Hid (∀ i, i < L.length → w.cell? ⟨b, off + i, none⟩ = some (.string (L.getD i ByteArray.empty))) := hc
  have HC' : Hid (∀ i, i < L.length → w.cell? ⟨b', off' + i, none⟩ = some (.string (L.getD i ByteArray.empty))) := hc'
  clear h1 h2 hc hc'
  go_enter Try.func17, Try.ntmps17
  go_wp2
  go_loopw [5] (fun s5 wx => ∃ k nq : Nat, k ≤ L.length ∧ s5 = .int .i64 k ∧ wx = w.drewN nq) (fun s5 _ => L.length - (intOf s5).toNat)
  case atStart => exact ⟨0, 0, Nat.zero_le _, rfl, rfl⟩
  case round =>
    obtain ⟨k, nq, hk, rfl, rfl⟩ := hrel
    by_cases hlt : k < L.length
    · have c1 := HC.out k hlt
      have c2 := HC'.out k hlt
      generalize L.getD k ByteArray.empty = s at c1 c2
      go_wp2
      go_quiet (fail)
      go_wp2
      go_roundw
      case rel => exact ⟨k + 1, _, by omega, by go_num, rfl⟩
      case measure => simp [intOf]; omega
    · go_wp2
      go_ret
      exact ⟨rfl, _, rfl⟩
end Go.Proofs.Qxb6617277a.Json
