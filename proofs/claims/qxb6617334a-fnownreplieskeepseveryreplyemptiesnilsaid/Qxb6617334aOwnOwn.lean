import Derived.Test.Qxb6617334aOwnWire
namespace Go.Proofs.Qxb6617334a.Own
open Go.RowKit
set_option linter.unusedSimpArgs false

/-- The buffer 'kept': the variable's own block K, the row g, m bytes xs in it so far, room for cap. -/
def Kept (w : World) (K g m cap : Nat) (xs : List Value) : Prop :=
  w.heap[K]? = some (.cells #[.slice (some ⟨g, 0, none⟩) m cap] 39 (0, 0)) ∧ w.ownsRow g 5 1 (.slice (some ⟨g, 0, none⟩) m cap) m xs

/-- Of what was there only the blocks g and K may have turned. -/
structure Touch (w w' : World) (g K : Nat) : Prop where
  os : w'.os = w.os
  tape : w'.tape = w.tape
  output : w'.output = w.output
  size : w.heap.size ≤ w'.heap.size
  block : ∀ k, k < w.heap.size → k ≠ g → k ≠ K → w'.heap[k]? = w.heap[k]?

theorem Touch.refl (w : World) (g K : Nat) : Touch w w g K := ⟨rfl, rfl, rfl, Nat.le_refl _, fun _ _ _ _ => rfl⟩
theorem Touch.trans {a b c : World} {g K : Nat} (h : Touch a b g K) (k : Touch b c g K) : Touch a c g K :=
  ⟨k.os.trans h.os, k.tape.trans h.tape, k.output.trans h.output, Nat.le_trans h.size k.size, fun i hi h1 h2 => (k.block i (by have := h.size; omega) h1 h2).trans (h.block i hi h1 h2)⟩
theorem Touch.cell {w w' : World} {g K : Nat} (h : Touch w w' g K) {p : Addr} {v : Value} (hc : w.cell? p = some v) (h1 : p.block ≠ g) (h2 : p.block ≠ K) : w'.cell? p = some v :=
  (World.cell?_of_block (h.block p.block (World.block_lt_of_cell? w p hc) h1 h2)).trans hc

theorem Touch.frozen {w w' : World} {g K : Nat} (h : Touch w w' g K) {p : Addr} {r : Bool} (hc : w.frozen? p = r) (hp : p.block < w.heap.size) (h1 : p.block ≠ g) (h2 : p.block ≠ K) : w'.frozen? p = r :=
  (World.frozen?_of_block (h.block p.block hp h1 h2)).trans hc

theorem kept_ne {w : World} {K g m cap : Nat} {xs : List Value} (h : Kept w K g m cap xs) : g ≠ K := fun e => by
  rcases h.2.2 with ⟨h1, _⟩ | ⟨g', c', cur, hv, _, hg, _⟩
  · simp at h1
  · simp only [Value.slice.injEq, Option.some.injEq, Addr.mk.injEq, and_true, true_and] at hv
    obtain ⟨rfl, rfl⟩ := hv
    have h1 := h.1
    rw [← e, hg] at h1
    simp at h1

/-- Behind the append and the store into the variable. -/
theorem kept_next {w w1 : World} {K g m cap l : Nat} {xs ns : List Value} (h : Kept w K g m cap xs) (hown : w1.ownsRow g 5 1 (.slice (some ⟨g, 0, none⟩) (m + l) cap) (m + l) (xs ++ ns)) (hg : w.grownBy w1 (some g)) :
    Kept (w1.setCell ⟨K, 0, none⟩ (.slice (some ⟨g, 0, none⟩) (m + l) cap)) K g (m + l) cap (xs ++ ns) ∧ Touch w (w1.setCell ⟨K, 0, none⟩ (.slice (some ⟨g, 0, none⟩) (m + l) cap)) g K := by
  have hne := kept_ne h
  have hK : w1.heap[K]? = some (.cells #[.slice (some ⟨g, 0, none⟩) m cap] 39 (0, 0)) := by
    rw [hg.block K (lt_of_block h.1) (fun e => hne (Option.some.inj e).symm)]; exact h.1
  refine ⟨⟨one_setCell hK, ownsRow_setCell_other hown (by simpa [Value.ownBlock] using hne) _⟩, ⟨hg.os, hg.tape, hg.output, by simpa using hg.size, fun k hk h1 h2 => ?_⟩⟩
  rw [Below.heap_setCell _ _ _ _ (by exact h2)]
  exact hg.block k hk (fun e => h1 (Option.some.inj e))

/-- What own answers: nil for nothing, else the bytes' place in the buffer. -/
def oA (g m l : Nat) : Option Addr := if l = 0 then none else some ⟨g, m, none⟩

def bcells (z : List Int) : List Value := z.map (Value.int .u8)

set_option maxHeartbeats 1000000 in
set_option maxRecDepth 100000 in
theorem own_any (K g m cap : Nat) (xs : List Value) (a : Option Addr) (l c lim : Nat) (z : List Int) (w : World) (hk : Kept w K g m cap xs) (hcap : m + l ≤ cap) (hcm : cap ≤ 1048576) (hz : SliceAt w lim a l z) :
    Calls Try.prog 26 #[.slice a l c, .pointer (some ⟨K, 0, none⟩)] w fun e w' => e = .returned (.slice (oA g m l) l l) ∧ Kept w' K g (m + l) cap (xs ++ bcells z) ∧ Touch w w' g K := by
  rcases Nat.eq_zero_or_pos l with rfl | hl
  · have hz0 : z = [] := List.eq_nil_of_length_eq_zero hz.1
    subst hz0
    have HK : Hid (Kept w K g m cap xs) := hk
    clear hk hz
    go_enter Try.func26, Try.ntmps26
    go_wp2
    go_ret
    exact ⟨rfl, by simpa [bcells] using HK.out, Touch.refl _ _ _⟩
  · obtain ⟨b, off, rfl, hb, hc⟩ := hz.2.2 hl
    obtain ⟨i0, hi, hz0, hz1, hz2⟩ := info_parts info5
    have hcK := cell_of_one hk.1
    have hF0 := free_of_one hk.1
    have hzl := hz.1
    have hown := hk.2
    have HC : Hid (∀ j u, (bcells z)[j]? = some u → w.cell? ((⟨b, off, none⟩ : Addr).add j) = some u) := fun j u hu => by
      obtain ⟨hj, he⟩ := List.getElem?_eq_some_iff.1 hu
      have hj' : j < l := by rw [← hzl]; simpa [bcells] using hj
      have e2 : (⟨b, off, none⟩ : Addr).add j = ⟨b, off + j, none⟩ := by simp [Addr.add]
      rw [e2, hc j hj', ← he]
      simp [bcells, List.getD, show j < z.length by omega]
    have HO : Hid (oA g m l = some ⟨g, m, none⟩) := if_neg (by omega)
    have HZ : Hid ((bcells z).length = l * 1) := by show _ = _; simp [bcells, hzl]
    have HK : Hid (Kept w K g m cap xs) := hk
    clear hc hz hk hzl
    go_enter Try.func26, Try.ntmps26
    go_wp2_with (at_builtin; refine wpList_append_fits _ rfl (.tmp 7) (.tmp 8) 39 rfl g 5 i0 1 Try.underlying39 hi hz1 g m cap xs rfl hown ⟨b, off, none⟩ l c (bcells z) rfl HZ.out HC.out (by intro u hu; obtain ⟨x, _, rfl⟩ := List.mem_map.1 hu; rfl) hcap ?_; intro w1 hown1 hgrow1; have R := kept_next HK.out hown1 hgrow1; have hK1 : w1.cell? ⟨K, 0, none⟩ = some (.slice (some ⟨g, 0, none⟩) m cap) := hgrow1.cell hcK (fun e => kept_ne HK.out (Option.some.inj e).symm); have hF1 : w1.frozen? ⟨K, 0, none⟩ = false := (World.frozen?_of_block (a := ⟨K, 0, none⟩) (hgrow1.block K (lt_of_block HK.out.1) (fun e => kept_ne HK.out (Option.some.inj e).symm))).trans hF0)
    go_ret
    refine ⟨?_, R.1, R.2⟩
    rw [HO.out]
    show Ending.returned (.slice (some ⟨g, m, none⟩) (m + l - m) (m + l - m)) = _
    rw [show m + l - m = l by omega]
end Go.Proofs.Qxb6617334a.Own
