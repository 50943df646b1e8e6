import Derived.Test.Qxb6617334aOwnSame
import Derived.Lib.Builder
namespace Go.Proofs.Qxb6617334a.Own
open Go.RowKit
set_option linter.unusedSimpArgs false

set_option maxHeartbeats 400000 in
theorem toWire_zero (b0 : Addr) (cap : Nat) (w : World) : Calls Try.prog 17 #[.slice (some b0) 0 cap, .bool false] w fun e w' => ∃ g, e = .returned (.slice (some ⟨g, 0, none⟩) 0 0) ∧ w.heap.size ≤ g ∧ (∃ f, w'.rowIs g 52 (0 * 6) f) ∧ Below w.heap.size w w' := by
  obtain ⟨C, hC, hmk⟩ := make52 0 (by omega)
  simp only [Int.natCast_zero] at hmk
  have hnil := fun w => Lib.run_eql_slice_nil (P := Try.prog) w 55 63 (some b0) 0 cap 0 0 Try.underlying55
  obtain ⟨f0, hf0⟩ := rowIs_any w C 52
  rw [hC] at hf0
  have HF : Hid ((w.alloc (.cells C 52)).rowIs w.heap.size 52 (0 * 6) f0) := hf0
  clear hf0 hC
  go_enter Try.func17, Try.ntmps17
  go_wp2
  go_rounds 1
  go_ret
  exact ⟨_, rfl, Nat.le_refl _, ⟨f0, HF.out⟩, by go_grown⟩

theorem toWire_all (E : Nat → Ent) (n : Nat) (b0 : Addr) (cap : Nat) (w : World) (hn : n ≤ 16384) (hE : EntsAt w w.heap.size (some b0) n E) :
    Calls Try.prog 17 #[.slice (some b0) n cap, .bool false] w fun e w' => ∃ g, e = .returned (.slice (some ⟨g, 0, none⟩) n n) ∧ w.heap.size ≤ g ∧ (∃ f, w'.rowIs g 52 (n * 6) f ∧ ∀ i, i < n → Six f (i * 6) (E i)) ∧ Below w.heap.size w w' := by
  rcases Nat.eq_zero_or_pos n with rfl | h0
  · exact (toWire_zero b0 cap w).mono fun e w' ⟨g, he, hg, ⟨f, hf⟩, hb⟩ => ⟨g, he, hg, ⟨f, hf, fun i hi => by omega⟩, hb⟩
  · obtain ⟨b, off, e, hb⟩ := hE h0
    simp only [Option.some.injEq] at e
    subst e
    exact toWire_any E n b off cap w hn hb

theorem cell_alloc {w : World} {a : Addr} {v : Value} {o : Obj} (h : w.cell? a = some v) : (w.alloc o).cell? a = some v := by
  rw [World.cell?_alloc_some _ _ _ (by simp [h])]; exact h
theorem cell_drew {w : World} {a : Addr} {v : Value} (h : w.cell? a = some v) : w.drew.cell? a = some v := h
theorem cell_drewN {w : World} {a : Addr} {v : Value} {q : Nat} (h : w.cell? a = some v) : (w.drewN q).cell? a = some v := h
theorem SliceAt.alloc {w : World} {lim : Nat} {a : Option Addr} {l : Nat} {z : List Int} {o : Obj} (h : SliceAt w lim a l z) : SliceAt (w.alloc o) lim a l z :=
  ⟨h.1, h.2.1, fun h0 => by
    obtain ⟨b, off, e, hb', hc⟩ := h.2.2 h0
    exact ⟨b, off, e, hb', fun j hj => cell_alloc (hc j hj)⟩⟩
theorem SliceAt.drew {w : World} {lim : Nat} {a : Option Addr} {l : Nat} {z : List Int} (h : SliceAt w lim a l z) : SliceAt w.drew lim a l z := h
theorem SliceAt.drewN {w : World} {lim : Nat} {a : Option Addr} {l : Nat} {z : List Int} {q : Nat} (h : SliceAt w lim a l z) : SliceAt (w.drewN q) lim a l z := h
theorem SliceAt.mono {w : World} {lim lim' : Nat} {a : Option Addr} {l : Nat} {z : List Int} (h : SliceAt w lim a l z) (hl : lim ≤ lim') : SliceAt w lim' a l z :=
  ⟨h.1, h.2.1, fun h0 => by
    obtain ⟨b, off, e, hb', hc⟩ := h.2.2 h0
    exact ⟨b, off, e, by omega, hc⟩⟩

set_option maxHeartbeats 4000000 in
set_option maxRecDepth 100000 in
theorem law6_walk (E : Nat → Ent) (n : Nat) (b0 : Addr) (cap : Nat) (w : World) (hn : n ≤ maxLen) (hE : EntsAt w w.heap.size (some b0) n E) :
    Calls Try.prog 6 #[.slice (some b0) n cap] w fun e w' => e = .returned (.bool true) ∧ Below w.heap.size w w' := by
  have HE : Hid (EntsAt w w.heap.size (some b0) n E) := hE
  have HN : Hid (n ≤ maxLen) := hn
  clear hE hn
  have hnl0 := fun w => Lib.run_eql_slice_nil (P := Try.prog) w 55 63 (some b0) n cap 0 0 Try.underlying55
  go_enter Try.func6, Try.ntmps6
  go_wp2_with fail
  refine (bytes15 E n (some b0) cap w.heap.size w HN.out HE.out).mono ?_
  rintro e w' ⟨⟨r, rfl⟩, rfl⟩
  cases r
  · go_wp2
    go_ret
    exact ⟨rfl, Below.refl _ _⟩
  go_wp2_with fail
  refine (tooBig E n (some b0) cap w.heap.size w HN.out HE.out).mono ?_
  rintro e w' ⟨⟨r, rfl, hr⟩, rfl⟩
  cases r
  case true =>
    clear hr
    go_wp2
    go_ret
    exact ⟨rfl, Below.refl _ _⟩
  case false =>
  obtain ⟨hn1, hn2⟩ := hr rfl
  have HT : Hid (tot E n ≤ 1048576) := hn2
  clear hr hn2
  go_wp2_with fail
  refine (toWire_all E n b0 cap w hn1 HE.out).mono ?_
  rintro e w1 ⟨go, rfl, hgo, ⟨f, hf, hs⟩, hB1⟩
  have hgl := hf.lt
  have hBb : ∀ i, i < n → SliceAt w1 w.heap.size (E i).va (E i).vl (E i).vz ∧ SliceAt w1 w.heap.size (E i).ra (E i).rl (E i).rz := fun i hi => by
    obtain ⟨b, off, _, hb, hc⟩ := HE.out (by omega)
    exact ⟨(hc i hi).2.1.below hB1 (Nat.le_refl _), (hc i hi).2.2.below hB1 (Nat.le_refl _)⟩
  have C18 : Hid (Calls Try.prog 18 #[.slice (some ⟨go, 0, none⟩) n n] w1 fun e w' => e = .returned (.slice (some ⟨go, 0, none⟩) n n) ∧ Left E n go w1 w') := own18 E n go n w.heap.size f w1 hn1 HT.out hf hs hgo hBb
  clear hf hs hBb
  go_wp2_with fail
  refine C18.out.mono ?_
  clear C18
  rintro e w2 ⟨rfl, hL⟩
  obtain ⟨g, f', hR, hS, hSl, hB2⟩ := hL
  have hg2 := hR.lt
  have hB02 : Below w.heap.size w w2 := hB1.trans (hB2.mono hgo)
  have HR : Hid (w2.rowIs go 52 (n * 6) f') := hR
  have HS : Hid (∀ i, i < n → Six f' (i * 6) (E2 E g i)) := hS
  have HSl : Hid (∀ i, i < n → SliceAt w2 w2.heap.size (E2 E g i).va (E i).vl (E i).vz ∧ SliceAt w2 w2.heap.size (E2 E g i).ra (E i).rl (E i).rz) := hSl
  clear hR hS hSl hB1 hB2
  have hnl1 := fun w => Lib.run_eql_slice_nil (P := Try.prog) w 57 52 (some ⟨go, 0, none⟩) n n 0 0 Try.underlying57
  go_upto_region 9 with fail
  clear hnl0 hnl1
  obtain ⟨i52, hi52, _⟩ := Option.map_eq_some_iff.1 info52
  have hpp := fun w a => Lib.run_neq_ptr_same (P := Try.prog) (tp := 60) (te := 52) (j := i52) w a Try.underlying60 hi52
  go_cut [36] (fun t wx => t = .bool false ∧ Below w2.heap.size w2 wx)
  case first =>
    rcases Nat.eq_zero_or_pos n with rfl | h0
    · have hgd : decide ((0 : Int) < 0) = false := by simp
      go_quiet (fail)
      go_wp2
      go_meet
      case rel => exact ⟨rfl, below_drewN (Below.refl _ _) _⟩
    · have hgd : decide ((0 : Int) < (n : Int)) = true := by simp; omega
      go_quiet (fail)
      go_wp2
      go_meet
      case rel => exact ⟨rfl, below_drewN (Below.refl _ _) _⟩
  case rest =>
  obtain ⟨rfl, hB3⟩ := hcut
  clear hpp
  go_wp2
  go_loopw [5] (fun s5 wx => ∃ i : Nat, i ≤ n ∧ s5 = .int .i64 i ∧ Below w2.heap.size w2 wx) (fun s5 _ => n - (intOf s5).toNat)
  case atStart => exact ⟨0, Nat.zero_le _, rfl, hB3⟩
  case round =>
    obtain ⟨i, hi, rfl, hBx⟩ := hrel
    clear hB3
    by_cases hlt : i < n
    · obtain ⟨b, off, eb, hbl, hc⟩ := HE.out (by omega)
      simp only [Option.some.injEq] at eb
      subst eb
      obtain ⟨⟨y0, y1, y2, y3, y4, y5⟩, hv, hr⟩ := hc i hlt
      obtain ⟨x0, x1, x2, x3, x4, x5⟩ := HS.out i hlt
      have hszx := hBx.size
      have hsz02 := hB02.size
      have d0 : wr.cell? ⟨go, i * 6, none⟩ = some (.int .u64 (E i).s) := by rw [hBx.cell (by exact hg2), HR.out.cell (by omega)]; exact congrArg some x0
      have d1 : wr.cell? ⟨go, i * 6 + 1, none⟩ = some (.int .u64 (E i).q) := by rw [hBx.cell (by exact hg2), HR.out.cell (by omega)]; exact congrArg some x1
      have d2 : wr.cell? ⟨go, i * 6 + 2, none⟩ = some (.int .u64 (E i).t) := by rw [hBx.cell (by exact hg2), HR.out.cell (by omega)]; exact congrArg some x2
      have d3 : wr.cell? ⟨go, i * 6 + 3, none⟩ = some (.int .u8 (E i).o) := by rw [hBx.cell (by exact hg2), HR.out.cell (by omega)]; exact congrArg some x3
      have d4 : wr.cell? ⟨go, i * 6 + 4, none⟩ = some (.slice (oA g (sm E i) (E i).vl) (E i).vl (E i).vl) := by rw [hBx.cell (by exact hg2), HR.out.cell (by omega)]; exact congrArg some x4
      have d5 : wr.cell? ⟨go, i * 6 + 5, none⟩ = some (.slice (oA g (sm E i + (E i).vl) (E i).rl) (E i).rl (E i).rl) := by rw [hBx.cell (by exact hg2), HR.out.cell (by omega)]; exact congrArg some x5
      have e0 : wr.cell? ⟨b, off + i * 6, none⟩ = some (.int .u64 (E i).s) := by rw [hBx.cell (by show b < _; have := hB02.size; omega), hB02.cell (by exact hbl)]; exact y0
      have e1 : wr.cell? ⟨b, off + i * 6 + 1, none⟩ = some (.int .u64 (E i).q) := by rw [hBx.cell (by show b < _; have := hB02.size; omega), hB02.cell (by exact hbl)]; exact y1
      have e2 : wr.cell? ⟨b, off + i * 6 + 2, none⟩ = some (.int .u64 (E i).t) := by rw [hBx.cell (by show b < _; have := hB02.size; omega), hB02.cell (by exact hbl)]; exact y2
      have e3 : wr.cell? ⟨b, off + i * 6 + 3, none⟩ = some (.int .u8 (E i).o) := by rw [hBx.cell (by show b < _; have := hB02.size; omega), hB02.cell (by exact hbl)]; exact y3
      have e4 : wr.cell? ⟨b, off + i * 6 + 4, none⟩ = some (.slice (E i).va (E i).vl (E i).vc) := by rw [hBx.cell (by show b < _; have := hB02.size; omega), hB02.cell (by exact hbl)]; exact y4
      have e5 : wr.cell? ⟨b, off + i * 6 + 5, none⟩ = some (.slice (E i).ra (E i).rl (E i).rc) := by rw [hBx.cell (by show b < _; have := hB02.size; omega), hB02.cell (by exact hbl)]; exact y5
      have V1 : Hid (SliceAt wr w2.heap.size (oA g (sm E i) (E i).vl) (E i).vl (E i).vz) := (HSl.out i hlt).1.below hBx (Nat.le_refl _)
      have R1 : Hid (SliceAt wr w2.heap.size (oA g (sm E i + (E i).vl) (E i).rl) (E i).rl (E i).rz) := (HSl.out i hlt).2.below hBx (Nat.le_refl _)
      have V2 : Hid (SliceAt wr w2.heap.size (E i).va (E i).vl (E i).vz) := ((hv.below hB02 (Nat.le_refl _)).below hBx hsz02).mono hsz02
      have R2 : Hid (SliceAt wr w2.heap.size (E i).ra (E i).rl (E i).rz) := ((hr.below hB02 (Nat.le_refl _)).below hBx hsz02).mono hsz02
      clear x0 x1 x2 x3 x4 x5 y0 y1 y2 y3 y4 y5 hc hv hr
      go_wp2
      go_region_held3 (fun w' => w'.cell? ⟨go, i * 6, none⟩ = some (.int .u64 (E i).s) ∧ w'.cell? ⟨go, i * 6 + 1, none⟩ = some (.int .u64 (E i).q) ∧ w'.cell? ⟨go, i * 6 + 2, none⟩ = some (.int .u64 (E i).t) ∧ w'.cell? ⟨go, i * 6 + 3, none⟩ = some (.int .u8 (E i).o) ∧ w'.cell? ⟨go, i * 6 + 4, none⟩ = some (.slice (oA g (sm E i) (E i).vl) (E i).vl (E i).vl) ∧ w'.cell? ⟨go, i * 6 + 5, none⟩ = some (.slice (oA g (sm E i + (E i).vl) (E i).rl) (E i).rl (E i).rl) ∧ w'.cell? ⟨b, off + i * 6, none⟩ = some (.int .u64 (E i).s) ∧ w'.cell? ⟨b, off + i * 6 + 1, none⟩ = some (.int .u64 (E i).q) ∧ w'.cell? ⟨b, off + i * 6 + 2, none⟩ = some (.int .u64 (E i).t) ∧ w'.cell? ⟨b, off + i * 6 + 3, none⟩ = some (.int .u8 (E i).o) ∧ w'.cell? ⟨b, off + i * 6 + 4, none⟩ = some (.slice (E i).va (E i).vl (E i).vc) ∧ w'.cell? ⟨b, off + i * 6 + 5, none⟩ = some (.slice (E i).ra (E i).rl (E i).rc))
        (refine ⟨?_, ?_, ?_, ?_, ?_, ?_, ?_, ?_, ?_, ?_, ?_, ?_⟩ <;> repeat (first | (with_reducible assumption) | (with_reducible refine cell_drewN ?_) | (with_reducible refine cell_drew ?_) | (with_reducible refine cell_alloc ?_)))
        (first
          | (go_at_call 19; refine (sameReq _ _ _ _ _ _ _ _ _ _ _ _ _ _ _ _ _).mono ?_; rintro e w3 ⟨rfl, p1, p2, rfl⟩)
          | (go_at_call_of 20 (Value.slice (E i).va (E i).vl (E i).vc); refine (ownedAs_any g (sm E i) (E i).vl (E i).va (E i).vc (E i).vz w2.heap.size _ (by repeat (first | (with_reducible exact V1.out) | (with_reducible refine SliceAt.drewN ?_) | (with_reducible refine SliceAt.drew ?_) | (with_reducible refine SliceAt.alloc ?_))) (by repeat (first | (with_reducible exact V2.out) | (with_reducible refine SliceAt.drewN ?_) | (with_reducible refine SliceAt.drew ?_) | (with_reducible refine SliceAt.alloc ?_)))).mono ?_; rintro e w3 ⟨rfl, nq1, rfl⟩)
          | (go_at_call_of 20 (Value.slice (E i).ra (E i).rl (E i).rc); refine (ownedAs_any g (sm E i + (E i).vl) (E i).rl (E i).ra (E i).rc (E i).rz w2.heap.size _ (by repeat (first | (with_reducible exact R1.out) | (with_reducible refine SliceAt.drewN ?_) | (with_reducible refine SliceAt.drew ?_) | (with_reducible refine SliceAt.alloc ?_))) (by repeat (first | (with_reducible exact R2.out) | (with_reducible refine SliceAt.drewN ?_) | (with_reducible refine SliceAt.drew ?_) | (with_reducible refine SliceAt.alloc ?_)))).mono ?_; rintro e w3 ⟨rfl, nq2, rfl⟩))
      go_wp2
      go_roundw
      case rel =>
        refine ⟨i + 1, by omega, by go_num, ?_⟩
        repeat (first | (with_reducible exact hBx) | (with_reducible refine below_drewN ?_ _) | (with_reducible refine Below.drew ?_) | refine Below.alloc ?_ (by first | exact hszx | (simp only [World.size_alloc, World.size_drew]; omega)) _)
      case measure => simp only [intOf]; omega
    · go_wp2
      go_ret
      exact ⟨rfl, hB02.trans (hBx.mono hB02.size)⟩
end Go.Proofs.Qxb6617334a.Own
