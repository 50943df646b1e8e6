import Derived.Test.Qxb6617334aOwnRound
import Derived.Deep.RegionHeld3
import Derived.Deep.RegionWith
namespace Go.Proofs.Qxb6617334a.Own
open Go.RowKit
set_option linter.unusedSimpArgs false

set_option maxHeartbeats 4000000 in
set_option maxRecDepth 100000 in
theorem own25 (E : Nat → Ent) (n go cap lim : Nat) (f : Nat → Value) (w : World) (hn : n ≤ 16384) (ht : tot E n ≤ 1048576) (hR : w.rowIs go 52 (n * 6) f) (h6 : ∀ i, i < n → Six f (i * 6) (E i)) (hlim : lim ≤ go)
    (hb : ∀ i, i < n → SliceAt w lim (E i).va (E i).vl (E i).vz ∧ SliceAt w lim (E i).ra (E i).rl (E i).rz) :
    Calls Try.prog 25 #[.slice (some ⟨go, 0, none⟩) n cap] w fun e w' => e = .returned (.slice (some ⟨go, 0, none⟩) n cap) ∧ ∃ g f', w'.rowIs go 52 (n * 6) f' ∧ (∀ i, i < n → Six f' (i * 6) (E2 E g i)) ∧ (∀ i, i < n → SliceAt w' w'.heap.size (E2 E g i).va (E i).vl (E i).vz ∧ SliceAt w' w'.heap.size (E2 E g i).ra (E i).rl (E i).rz) ∧ Below go w w' := by
  have HR : Hid (w.rowIs go 52 (n * 6) f) := hR
  have H6 : Hid (∀ i, i < n → Six f (i * 6) (E i)) := h6
  have HB : Hid (∀ i, i < n → SliceAt w lim (E i).va (E i).vl (E i).vz ∧ SliceAt w lim (E i).ra (E i).rl (E i).rz) := hb
  have HL : Hid (Lens E n) := fun i hi => ⟨(hb i hi).1.1, (hb i hi).2.1⟩
  have hgo := hR.lt
  have hsn : ((sm E n : Nat) : Int) ≤ 1048576 := by have := sm_tot E n; omega
  clear hR h6 hb ht
  go_enter Try.func25, Try.ntmps25
  go_upto_block 0 with fail
  go_cut [3] (fun s3 wx => s3 = .int .i64 (sm E n : Nat) ∧ Below w.heap.size w wx)
  case first =>
    go_wp2_with fail
    go_loopw [3, 11] (fun s3 s11 wx => ∃ k : Nat, k ≤ n ∧ s11 = .int .i64 k ∧ s3 = .int .i64 (sm E k : Nat) ∧ Below w.heap.size w wx) (fun _ s11 _ => n - (intOf s11).toNat)
    case atStart => exact ⟨0, Nat.zero_le _, rfl, rfl, Below.refl _ _⟩
    case round =>
      obtain ⟨k, hk, rfl, rfl, hB⟩ := hrel
      have hsz := hB.size
      by_cases hlt : k < n
      · obtain ⟨x0, x1, x2, x3, x4, x5⟩ := H6.out k hlt
        have c0 : wr.cell? ⟨go, k * 6, none⟩ = some (.int .u64 (E k).s) := by rw [hB.cell (by exact hgo), HR.out.cell (by omega), x0]
        have c1 : wr.cell? ⟨go, k * 6 + 1, none⟩ = some (.int .u64 (E k).q) := by rw [hB.cell (by exact hgo), HR.out.cell (by omega), x1]
        have c2 : wr.cell? ⟨go, k * 6 + 2, none⟩ = some (.int .u64 (E k).t) := by rw [hB.cell (by exact hgo), HR.out.cell (by omega), x2]
        have c3 : wr.cell? ⟨go, k * 6 + 3, none⟩ = some (.int .u8 (E k).o) := by rw [hB.cell (by exact hgo), HR.out.cell (by omega), x3]
        have c4 : wr.cell? ⟨go, k * 6 + 4, none⟩ = some (.slice (E k).va (E k).vl (E k).vc) := by rw [hB.cell (by exact hgo), HR.out.cell (by omega), x4]
        have c5 : wr.cell? ⟨go, k * 6 + 5, none⟩ = some (.slice (E k).ra (E k).rl (E k).rc) := by rw [hB.cell (by exact hgo), HR.out.cell (by omega), x5]
        have hle := sm_lt (E := E) hlt
        have HS : Hid (sm E (k + 1) = sm E k + ((E k).vl + (E k).rl)) := rfl
        clear x0 x1 x2 x3 x4 x5
        go_wp2
        go_roundw
        case rel => exact ⟨k + 1, by omega, by go_num, by rw [HS.out]; go_num, by go_grown⟩
        case measure => simp [intOf]; omega
      · obtain rfl : k = n := by omega
        go_wp2
        go_meet
        case rel => exact ⟨rfl, hB⟩
  case rest =>
  obtain ⟨rfl, hB⟩ := hcut
  obtain ⟨wk, rfl⟩ : ∃ wk : World, wk = wc := ⟨_, rfl⟩
  have hmk := make39 (sm E n) (by omega)
  have HK0 : Hid (Kept ((wk.alloc (.cells (madeCells #[.int .u8 0] (sm E n)) 5)).alloc (.cells #[.slice (some ⟨wk.heap.size, 0, none⟩) 0 (sm E n)] 39)) (wk.heap.size + 1) wk.heap.size 0 (sm E n) []) := by
    refine ⟨?_, ?_⟩
    · have := heap_alloc_new (wk.alloc (.cells (madeCells #[.int .u8 0] (sm E n)) 5)) (.cells #[.slice (some ⟨wk.heap.size, 0, none⟩) 0 (sm E n)] 39)
      simpa using this
    · exact (World.ownsRow_made wk _ (sm E n) (Nat.le_refl _) (by unfold maxLen; omega) (by simp [size_madeCells])).alloc _
  have hszk := hB.size
  have HR0 : Hid (((wk.alloc (.cells (madeCells #[.int .u8 0] (sm E n)) 5)).alloc (.cells #[.slice (some ⟨wk.heap.size, 0, none⟩) 0 (sm E n)] 39)).rowIs go 52 (n * 6) f) := ((HR.out.of_block (hB.block go hgo)).alloc _).alloc _
  have hB0 : Below go w ((wk.alloc (.cells (madeCells #[.int .u8 0] (sm E n)) 5)).alloc (.cells #[.slice (some ⟨wk.heap.size, 0, none⟩) 0 (sm E n)] 39)) := ((hB.mono (by omega)).alloc (by omega) _).alloc (by simp; omega) _
  go_wp2
  go_loopw [32] (fun s32 wx => ∃ (k : Nat) (f' : Nat → Value), k ≤ n ∧ s32 = .int .i64 k ∧ Hid (wx.rowIs go 52 (n * 6) f') ∧ Hid ((∀ i, i < k → Six f' (i * 6) (E2 E wk.heap.size i)) ∧ ∀ i, k ≤ i → i < n → Six f' (i * 6) (E i)) ∧
      Hid (Kept wx (wk.heap.size + 1) wk.heap.size (sm E k) (sm E n) (all E k)) ∧ Below go w wx) (fun s32 _ => n - (intOf s32).toNat)
  case atStart => exact ⟨0, f, Nat.zero_le _, rfl, HR0, ⟨(fun i hi => by omega), fun i _ hi => H6.out i hi⟩, HK0, hB0⟩
  case round =>
    obtain ⟨k, f', hk, rfl, HRk, HSk, HKk, hBk⟩ := hrel
    clear HK0 HR0 hB0
    by_cases hlt : k < n
    · obtain ⟨_, _, _, _, x4, x5⟩ := HSk.out.2 k (Nat.le_refl _) hlt
      have c4 : wr.cell? ⟨go, k * 6 + 4, none⟩ = some (.slice (E k).va (E k).vl (E k).vc) := by rw [HRk.out.cell (by omega), x4]
      have c5 : wr.cell? ⟨go, k * 6 + 5, none⟩ = some (.slice (E k).ra (E k).rl (E k).rc) := by rw [HRk.out.cell (by omega), x5]
      have y4 : wr.frozen? ⟨go, k * 6 + 4, none⟩ = false := HRk.out.frozen _
      have y5 : wr.frozen? ⟨go, k * 6 + 5, none⟩ = false := HRk.out.frozen _
      have HV : Hid (SliceAt wr lim (E k).va (E k).vl (E k).vz) := (HB.out k hlt).1.below hBk hlim
      have HW : Hid (SliceAt wr lim (E k).ra (E k).rl (E k).rz) := (HB.out k hlt).2.below hBk hlim
      have hle := sm_lt (E := E) hlt
      clear x4 x5 hmk
      have hgr : go < wr.heap.size := HRk.out.lt
      go_wp2
      go_region_with
        (first
          | (go_at_call_of 26 (Value.slice (E k).va (E k).vl (E k).vc); refine (own_any (wk.heap.size + 1) wk.heap.size (sm E k) (sm E n) (all E k) (E k).va (E k).vl (E k).vc lim (E k).vz _ (by exact HKk.out) (by omega) (by omega) (by exact HV.out)).mono ?_; rintro e w1 ⟨rfl, hk1, ht1⟩; have s4 := ht1.cell (p := ⟨go, k * 6 + 4, none⟩) (by exact c4) (by show go ≠ _; omega) (by show go ≠ _; omega); have s5 := ht1.cell (p := ⟨go, k * 6 + 5, none⟩) (by exact c5) (by show go ≠ _; omega) (by show go ≠ _; omega); have z4 := ht1.frozen (p := ⟨go, k * 6 + 4, none⟩) (by exact y4) (by exact hgr) (by show go ≠ _; omega) (by show go ≠ _; omega); have z5 := ht1.frozen (p := ⟨go, k * 6 + 5, none⟩) (by exact y5) (by exact hgr) (by show go ≠ _; omega) (by show go ≠ _; omega))
          | (go_at_call_of 26 (Value.slice (E k).ra (E k).rl (E k).rc); refine (own_any (wk.heap.size + 1) wk.heap.size (sm E k + (E k).vl) (sm E n) (all E k ++ bcells (E k).vz) (E k).ra (E k).rl (E k).rc lim (E k).rz _ (by exact hk1) (by omega) (by omega) (by exact SliceAt.touch (w := wr.drew) HW.out ht1 (by omega) (by omega))).mono ?_; rintro e w2 ⟨rfl, hk2, ht2⟩; have t4 := ht2.cell (p := ⟨go, k * 6 + 4, none⟩) (by exact s4) (by show go ≠ _; omega) (by show go ≠ _; omega); have t5 := ht2.cell (p := ⟨go, k * 6 + 5, none⟩) (by exact s5) (by show go ≠ _; omega) (by show go ≠ _; omega); have q4 := ht2.frozen (p := ⟨go, k * 6 + 4, none⟩) (by exact z4) (by have := ht1.size; simp at this; show go < _; omega) (by show go ≠ _; omega) (by show go ≠ _; omega); have q5 := ht2.frozen (p := ⟨go, k * 6 + 5, none⟩) (by exact z5) (by have := ht1.size; simp at this; show go < _; omega) (by show go ≠ _; omega) (by show go ≠ _; omega)))
      all_goals
        have R := round25 (wr := wr.drew) HRk.out.drew HSk.out hlt ht1 ht2 hk2 hBk.drew (by omega) (by omega)
        go_wp2
        go_roundw
        case rel =>
          obtain ⟨f'', r1, r2, r3, r4⟩ := R
          exact ⟨k + 1, f'', by omega, by go_num, r1, r2, r3, r4⟩
        case measure => simp [intOf]; omega
    · obtain rfl : k = n := by omega
      go_wp2
      go_ret
      exact ⟨rfl, _, f', HRk.out, HSk.out.1, kept_slices HL.out HKk.out (by omega), hBk⟩
end Go.Proofs.Qxb6617334a.Own
