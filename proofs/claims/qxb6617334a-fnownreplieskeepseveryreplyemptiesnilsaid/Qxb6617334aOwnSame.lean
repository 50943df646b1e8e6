import Derived.Test.Qxb6617334aOwnRep
namespace Go.Proofs.Qxb6617334a.Own
open Go.RowKit
set_option linter.unusedSimpArgs false

set_option maxHeartbeats 400000 in
theorem toWire_nil (w : World) : Calls Try.prog 17 #[.slice none 0 0, .bool false] w fun e w' => e = .returned (.slice none 0 0) ∧ w = w' := by
  have hnil := fun w => Lib.run_eql_slice_nil (P := Try.prog) w 55 63 none 0 0 0 0 Try.underlying55
  go_enter Try.func17, Try.ntmps17
  go_wp2
  go_ret
  exact ⟨rfl, rfl⟩

set_option maxHeartbeats 400000 in
theorem own25_nil (w : World) : Calls Try.prog 25 #[.slice none 0 0] w fun e w' => e = .returned (.slice none 0 0) ∧ Below w.heap.size w w' := by
  have hmk := make39 0 (by omega)
  simp only [Int.natCast_zero] at hmk
  go_enter Try.func25, Try.ntmps25
  go_wp2
  go_rounds 1
  go_rounds 1
  go_ret
  exact ⟨rfl, by go_grown⟩

set_option maxHeartbeats 400000 in
theorem own18_nil (w : World) : Calls Try.prog 18 #[.slice none 0 0] w fun e w' => e = .returned (.slice none 0 0) ∧ Below w.heap.size w w' := by
  go_enter Try.func18, Try.ntmps18
  go_wp2_with fail
  refine (own25_nil w).mono ?_
  rintro e w' ⟨rfl, hb⟩
  go_wp2
  go_ret
  exact ⟨rfl, hb⟩

/-- What ownReplies leaves. -/
def Left (E : Nat → Ent) (n go : Nat) (w w' : World) : Prop :=
  ∃ g f', w'.rowIs go 52 (n * 6) f' ∧ (∀ i, i < n → Six f' (i * 6) (E2 E g i)) ∧ (∀ i, i < n → SliceAt w' w'.heap.size (E2 E g i).va (E i).vl (E i).vz ∧ SliceAt w' w'.heap.size (E2 E g i).ra (E i).rl (E i).rz) ∧ Below go w w'

set_option maxHeartbeats 400000 in
theorem own18 (E : Nat → Ent) (n go cap lim : Nat) (f : Nat → Value) (w : World) (hn : n ≤ 16384) (ht : tot E n ≤ 1048576) (hR : w.rowIs go 52 (n * 6) f) (h6 : ∀ i, i < n → Six f (i * 6) (E i)) (hlim : lim ≤ go)
    (hb : ∀ i, i < n → SliceAt w lim (E i).va (E i).vl (E i).vz ∧ SliceAt w lim (E i).ra (E i).rl (E i).rz) :
    Calls Try.prog 18 #[.slice (some ⟨go, 0, none⟩) n cap] w fun e w' => e = .returned (.slice (some ⟨go, 0, none⟩) n cap) ∧ Left E n go w w' := by
  have C : Hid (Calls Try.prog 25 #[.slice (some ⟨go, 0, none⟩) n cap] w fun e w' => e = .returned (.slice (some ⟨go, 0, none⟩) n cap) ∧ Left E n go w w') := own25 E n go cap lim f w hn ht hR h6 hlim hb
  clear hR h6 hb ht
  go_enter Try.func18, Try.ntmps18
  go_wp2_with fail
  refine C.out.mono ?_
  rintro e w' ⟨rfl, hl⟩
  go_wp2
  go_ret
  exact ⟨rfl, hl⟩

set_option maxHeartbeats 400000 in
theorem sameReq (s q t o : Int) (a1 a2 a3 a4 : Option Addr) (l1 l2 l3 l4 c1 c2 c3 c4 : Nat) (w : World) :
    Calls Try.prog 19 #[.agg #[.int .u64 s, .int .u64 q, .int .u64 t, .int .u8 o, .slice a1 l1 c1, .slice a2 l2 c2], .agg #[.int .u64 s, .int .u64 q, .int .u64 t, .int .u8 o, .slice a3 l3 c3, .slice a4 l4 c4]] w fun e w' =>
      e = .returned (.bool true) ∧ ∃ x y : Array Value, w' = (w.alloc (.cells x 52)).alloc (.cells y 63) := by
  go_enter Try.func19, Try.ntmps19
  go_wp2
  go_ret
  exact ⟨rfl, _, _, rfl⟩

set_option maxHeartbeats 400000 in
theorem sameBytes_any (a b : Option Addr) (l c c' : Nat) (z : List Int) (lim : Nat) (w : World) (h0 : 0 < l) (h1 : SliceAt w lim a l z) (h2 : SliceAt w lim b l z) :
    Calls Try.prog 23 #[.slice a l c, .slice b l c'] w fun e w' => e = .returned (.bool true) ∧ ∃ nq, w' = w.drewN nq := by
  obtain ⟨hz, hm, k1⟩ := h1
  obtain ⟨_, _, k2⟩ := h2
  unfold maxLen at hm
  obtain ⟨b1, o1, rfl, _, hc1⟩ := k1 h0
  obtain ⟨b2, o2, rfl, _, hc2⟩ := k2 h0
  have hn1 := fun w => Lib.run_eql_slice_nil (P := Try.prog) w 39 5 (some ⟨b1, o1, none⟩) l c 0 0 Try.underlying39
  have hn2 := fun w => Lib.run_eql_slice_nil (P := Try.prog) w 39 5 (some ⟨b2, o2, none⟩) l c' 0 0 Try.underlying39
  have HC1 : Hid (∀ j, j < l → w.cell? ⟨b1, o1 + j, none⟩ = some (.int .u8 (z.getD j 0))) := hc1
  have HC2 : Hid (∀ j, j < l → w.cell? ⟨b2, o2 + j, none⟩ = some (.int .u8 (z.getD j 0))) := hc2
  clear k1 k2 hc1 hc2 hz
  go_enter Try.func23, Try.ntmps23
  go_wp2
  go_loopw [5] (fun s5 wx => ∃ k nq : Nat, k ≤ l ∧ s5 = .int .i64 k ∧ wx = w.drewN nq) (fun s5 _ => l - (intOf s5).toNat)
  case atStart => exact ⟨0, 0, Nat.zero_le _, rfl, rfl⟩
  case round =>
    obtain ⟨k, nq, hk, rfl, rfl⟩ := hrel
    by_cases hlt : k < l
    · have c1 := HC1.out k hlt
      have c2 := HC2.out k hlt
      generalize z.getD k 0 = s at c1 c2
      go_wp2
      go_quiet (fail)
      go_wp2
      go_roundw
      case rel => exact ⟨k + 1, _, by omega, by go_num, rfl⟩
      case measure => simp [intOf]; omega
    · go_wp2
      go_ret
      exact ⟨rfl, _, rfl⟩

set_option maxHeartbeats 400000 in
/-- ownedAs: got is the buffer's slice, want the one that came in. -/
theorem ownedAs_any (g m l : Nat) (b : Option Addr) (c' : Nat) (z : List Int) (lim : Nat) (w : World) (h1 : SliceAt w lim (oA g m l) l z) (h2 : SliceAt w lim b l z) :
    Calls Try.prog 20 #[.slice (oA g m l) l l, .slice b l c'] w fun e w' => e = .returned (.bool true) ∧ ∃ nq, w' = w.drewN nq := by
  rcases Nat.eq_zero_or_pos l with rfl | h0
  · have hn1 := fun w => Lib.run_eql_slice_nil (P := Try.prog) w 39 5 none 0 0 0 0 Try.underlying39
    have e : oA g m 0 = none := rfl
    rw [e]
    clear h1 h2
    go_enter Try.func20, Try.ntmps20
    go_wp2
    go_ret
    exact ⟨rfl, 0, rfl⟩
  · have hn1 := fun w => run_neq_slice_nil_any (P := Try.prog) w 39 5 (some ⟨g, m, none⟩) l l 0 0 Try.underlying39
    have e : oA g m l = some ⟨g, m, none⟩ := if_neg (by omega)
    rw [e] at h1 ⊢
    have C := sameBytes_any (some ⟨g, m, none⟩) b l l c' z lim w h0 h1 h2
    have HC : Hid (Calls Try.prog 23 #[.slice (some ⟨g, m, none⟩) l l, .slice b l c'] w fun e w' => e = .returned (.bool true) ∧ ∃ nq, w' = w.drewN nq) := C
    have hm := h1.2.1
    unfold maxLen at hm
    clear h1 h2 C e
    go_enter Try.func20, Try.ntmps20
    go_wp2_with (go_at_call 23; refine HC.out.mono ?_; rintro e w' ⟨rfl, nq, rfl⟩)
    go_ret
    exact ⟨rfl, _, rfl⟩
end Go.Proofs.Qxb6617334a.Own
