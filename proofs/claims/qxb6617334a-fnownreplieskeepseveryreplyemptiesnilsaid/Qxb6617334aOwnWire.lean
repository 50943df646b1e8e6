import Derived.Test.Qxb6617334aOwnBase
namespace Go.Proofs.Qxb6617334a.Own
open Go.RowKit

theorem info52 : (Try.prog.info? 52).map (fun i => (i.zero.map (·.cells.size), i.size, i.bytes)) = some (some 6, 6, 80) := by kernel_rfl

/-- make([]wire.Applied, n): a row of 6 n cells. -/
theorem make52 (n : Nat) (hn : n ≤ 16384) : ∃ C : Array Value, C.size = n * 6 ∧ ∀ w : World, (Instr.makeSlice 57 (.int .i64 (n : Int)) (.int .i64 (n : Int))).run Try.prog w = .ok (.slice (some ⟨w.heap.size, 0, none⟩) n n) (w.alloc (.cells C 52)) := by
  obtain ⟨i, hi, he⟩ := Option.map_eq_some_iff.1 info52
  simp only [Prod.mk.injEq] at he
  obtain ⟨h1, h2, h3⟩ := he
  obtain ⟨z, hz, hzs⟩ := Option.map_eq_some_iff.1 h1
  refine ⟨madeCells z.cells (n * 6), by simp [size_madeCells], fun w => ?_⟩
  have := run_make (P := Try.prog) w 57 52 i z Try.underlying57 hi hz .i64 .i64 n n (by omega) (by omega) (by rw [h3]; omega) (by omega)
  rw [h2, Int.toNat_natCast] at this
  exact this

theorem rowIs_any (w : World) (C : Array Value) (t : TypeId) : ∃ f, (w.alloc (.cells C t)).rowIs w.heap.size t C.size f :=
  ⟨fun i => C[i]?.getD (.bool false), World.rowIs_alloc w C t _ (fun i hi => by simp [hi])⟩

/-- The six cells of an entry at place p, by a row's content. -/
def Six (f : Nat → Value) (p : Nat) (e : Ent) : Prop :=
  f p = .int .u64 e.s ∧ f (p + 1) = .int .u64 e.q ∧ f (p + 2) = .int .u64 e.t ∧ f (p + 3) = .int .u8 e.o ∧ f (p + 4) = .slice e.va e.vl e.vc ∧ f (p + 5) = .slice e.ra e.rl e.rc

/-- Six stores behind one another. -/
theorem row_six {w : World} {g : Nat} {t : TypeId} {m : Nat} {f : Nat → Value} (h : w.rowIs g t m f) (p : Nat) (v0 v1 v2 v3 v4 v5 : Value) :
    ∃ f', ((((((w.setCell ⟨g, p, none⟩ v0).setCell ⟨g, p + 1, none⟩ v1).setCell ⟨g, p + 2, none⟩ v2).setCell ⟨g, p + 3, none⟩ v3).setCell ⟨g, p + 4, none⟩ v4).setCell ⟨g, p + 5, none⟩ v5).rowIs g t m f' ∧
      (f' p = v0 ∧ f' (p + 1) = v1 ∧ f' (p + 2) = v2 ∧ f' (p + 3) = v3 ∧ f' (p + 4) = v4 ∧ f' (p + 5) = v5) ∧ ∀ x, x < p ∨ p + 6 ≤ x → f' x = f x := by
  refine ⟨_, (((((h.set p v0).set (p + 1) v1).set (p + 2) v2).set (p + 3) v3).set (p + 4) v4).set (p + 5) v5, ⟨?_, ?_, ?_, ?_, ?_, ?_⟩, fun x hx => ?_⟩
  · simp
  · simp
  · simp
  · simp
  · simp
  · simp
  · rw [if_neg (by omega), if_neg (by omega), if_neg (by omega), if_neg (by omega), if_neg (by omega), if_neg (by omega)]

theorem six_keep {f f' : Nat → Value} {p : Nat} (h : ∀ x, x < p ∨ p + 6 ≤ x → f' x = f x) {i k : Nat} {e : Ent} (hp : p = k * 6) (hi : i < k ∨ k < i) (h6 : Six f (i * 6) e) : Six f' (i * 6) e := by
  obtain ⟨a, b, c, d, x, y⟩ := h6
  refine ⟨?_, ?_, ?_, ?_, ?_, ?_⟩
  · rw [h _ (by omega)]; exact a
  · rw [h _ (by omega)]; exact b
  · rw [h _ (by omega)]; exact c
  · rw [h _ (by omega)]; exact d
  · rw [h _ (by omega)]; exact x
  · rw [h _ (by omega)]; exact y

/-- One round of toWireApplied, on worlds. -/
theorem round17 {w wr : World} {E : Nat → Ent} {n k : Nat} {f : Nat → Value} {o : Obj} (hR : wr.rowIs w.heap.size 52 (n * 6) f) (hS : ∀ i, i < k → Six f (i * 6) (E i)) (hB : Below w.heap.size w wr) (v4 v5 : Value) (h4 : v4 = .slice (E k).va (E k).vl (E k).vc) (h5 : v5 = .slice (E k).ra (E k).rl (E k).rc) :
    ∃ f', (((((((wr.alloc o).setCell ⟨w.heap.size, k * 6, none⟩ (.int .u64 (E k).s)).setCell ⟨w.heap.size, k * 6 + 1, none⟩ (.int .u64 (E k).q)).setCell ⟨w.heap.size, k * 6 + 2, none⟩ (.int .u64 (E k).t)).setCell ⟨w.heap.size, k * 6 + 3, none⟩ (.int .u8 (E k).o)).setCell ⟨w.heap.size, k * 6 + 4, none⟩ v4).setCell ⟨w.heap.size, k * 6 + 5, none⟩ v5).rowIs w.heap.size 52 (n * 6) f' ∧
      (∀ i, i < k + 1 → Six f' (i * 6) (E i)) ∧ Below w.heap.size w (((((((wr.alloc o).setCell ⟨w.heap.size, k * 6, none⟩ (.int .u64 (E k).s)).setCell ⟨w.heap.size, k * 6 + 1, none⟩ (.int .u64 (E k).q)).setCell ⟨w.heap.size, k * 6 + 2, none⟩ (.int .u64 (E k).t)).setCell ⟨w.heap.size, k * 6 + 3, none⟩ (.int .u8 (E k).o)).setCell ⟨w.heap.size, k * 6 + 4, none⟩ v4).setCell ⟨w.heap.size, k * 6 + 5, none⟩ v5) := by
  obtain ⟨f', hr, ⟨a, b, c, d, x, y⟩, hk⟩ := row_six (hR.alloc o) (k * 6) (.int .u64 (E k).s) (.int .u64 (E k).q) (.int .u64 (E k).t) (.int .u8 (E k).o) v4 v5
  refine ⟨f', hr, fun i hi => ?_, ?_⟩
  · by_cases e : i = k
    · subst e; subst h4; subst h5; exact ⟨a, b, c, d, x, y⟩
    · exact six_keep hk rfl (.inl (by omega)) (hS i (by omega))
  · exact ((((((hB.alloc hB.size o).setCell (Nat.le_refl _) _).setCell (Nat.le_refl _) _).setCell (Nat.le_refl _) _).setCell (Nat.le_refl _) _).setCell (Nat.le_refl _) _).setCell (Nat.le_refl _) _

set_option maxHeartbeats 1000000 in
set_option maxRecDepth 100000 in
theorem toWire_any (E : Nat → Ent) (n b off cap : Nat) (w : World) (hn : n ≤ 16384) (hE : Ents w w.heap.size b off n E) :
    Calls Try.prog 17 #[.slice (some ⟨b, off, none⟩) n cap, .bool false] w fun e w' => ∃ g, e = .returned (.slice (some ⟨g, 0, none⟩) n n) ∧ w.heap.size ≤ g ∧ (∃ f, w'.rowIs g 52 (n * 6) f ∧ ∀ i, i < n → Six f (i * 6) (E i)) ∧ Below w.heap.size w w' := by
  obtain ⟨C, hC, hmk⟩ := make52 n hn
  have hnil := fun w => Lib.run_eql_slice_nil (P := Try.prog) w 55 63 (some ⟨b, off, none⟩) n cap 0 0 Try.underlying55
  have HE : Hid (Ents w w.heap.size b off n E) := hE
  clear hE
  obtain ⟨f0, hf0⟩ := rowIs_any w C 52
  rw [hC] at hf0
  go_enter Try.func17, Try.ntmps17
  go_wp2
  go_loopw [6] (fun s6 wx => ∃ (k : Nat) (f : Nat → Value), k ≤ n ∧ s6 = .int .i64 k ∧ Hid (wx.rowIs w.heap.size 52 (n * 6) f) ∧ Hid (∀ i, i < k → Six f (i * 6) (E i)) ∧ Below w.heap.size w wx) (fun s6 _ => n - (intOf s6).toNat)
  case atStart => exact ⟨0, f0, Nat.zero_le _, rfl, hf0, (fun i hi => by omega), (Below.refl _ _).alloc (Nat.le_refl _) _⟩
  case round =>
    obtain ⟨k, f, hk, rfl, HR, HS, hB⟩ := hrel
    clear hmk hnil hf0
    by_cases hlt : k < n
    · obtain ⟨hb, hc⟩ := HE.out
      obtain ⟨⟨c0, c1, c2, c3, c4, c5⟩, _, _⟩ := hc k hlt
      have d0 : wr.cell? ⟨b, off + k * 6, none⟩ = _ := (hB.cell (by exact hb)).trans c0
      have d1 : wr.cell? ⟨b, off + k * 6 + 1, none⟩ = _ := (hB.cell (by exact hb)).trans c1
      have d2 : wr.cell? ⟨b, off + k * 6 + 2, none⟩ = _ := (hB.cell (by exact hb)).trans c2
      have d3 : wr.cell? ⟨b, off + k * 6 + 3, none⟩ = _ := (hB.cell (by exact hb)).trans c3
      have d4 : wr.cell? ⟨b, off + k * 6 + 4, none⟩ = _ := (hB.cell (by exact hb)).trans c4
      have d5 : wr.cell? ⟨b, off + k * 6 + 5, none⟩ = _ := (hB.cell (by exact hb)).trans c5
      clear c0 c1 c2 c3 c4 c5 hc
      have x0 : ∀ o, (wr.alloc o).cell? ⟨w.heap.size, k * 6, none⟩ = some (f (k * 6)) := fun o => (HR.out.alloc o).cell (by omega)
      have y0 : ∀ o, (wr.alloc o).frozen? ⟨w.heap.size, k * 6, none⟩ = false := fun o => (HR.out.alloc o).frozen _
      have x1 : ∀ o, (wr.alloc o).cell? ⟨w.heap.size, k * 6 + 1, none⟩ = some (f (k * 6 + 1)) := fun o => (HR.out.alloc o).cell (by omega)
      have y1 : ∀ o, (wr.alloc o).frozen? ⟨w.heap.size, k * 6 + 1, none⟩ = false := fun o => (HR.out.alloc o).frozen _
      have x2 : ∀ o, (wr.alloc o).cell? ⟨w.heap.size, k * 6 + 2, none⟩ = some (f (k * 6 + 2)) := fun o => (HR.out.alloc o).cell (by omega)
      have y2 : ∀ o, (wr.alloc o).frozen? ⟨w.heap.size, k * 6 + 2, none⟩ = false := fun o => (HR.out.alloc o).frozen _
      have x3 : ∀ o, (wr.alloc o).cell? ⟨w.heap.size, k * 6 + 3, none⟩ = some (f (k * 6 + 3)) := fun o => (HR.out.alloc o).cell (by omega)
      have y3 : ∀ o, (wr.alloc o).frozen? ⟨w.heap.size, k * 6 + 3, none⟩ = false := fun o => (HR.out.alloc o).frozen _
      have x4 : ∀ o, (wr.alloc o).cell? ⟨w.heap.size, k * 6 + 4, none⟩ = some (f (k * 6 + 4)) := fun o => (HR.out.alloc o).cell (by omega)
      have y4 : ∀ o, (wr.alloc o).frozen? ⟨w.heap.size, k * 6 + 4, none⟩ = false := fun o => (HR.out.alloc o).frozen _
      have x5 : ∀ o, (wr.alloc o).cell? ⟨w.heap.size, k * 6 + 5, none⟩ = some (f (k * 6 + 5)) := fun o => (HR.out.alloc o).cell (by omega)
      have y5 : ∀ o, (wr.alloc o).frozen? ⟨w.heap.size, k * 6 + 5, none⟩ = false := fun o => (HR.out.alloc o).frozen _
      go_wp2
      go_roundw
      case rel =>
        obtain ⟨f', r1, r2, r3⟩ := round17 HR.out HS.out hB _ _ rfl rfl
        exact ⟨k + 1, f', by omega, by go_num, r1, r2, r3⟩
      case measure => simp [intOf]; omega
    · obtain rfl : k = n := by omega
      go_wp2
      go_ret
      exact ⟨_, rfl, Nat.le_refl _, ⟨f, HR.out, HS.out⟩, hB⟩
end Go.Proofs.Qxb6617334a.Own
