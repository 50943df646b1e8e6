import Derived.Test.Qxb6617334aOwnNil
import Derived.Deep.Slices
import Derived.ProofKit
import Derived.OpenShut
import Derived.ChangeSlices
namespace Go.Proofs.Qxb6617334a.Own
open Go.ChangeShapes Go.WideShapes Go.ChangeAt Go.RowKit

theorem cellsOf63 : Try.prog.cellsOf 63 = 6 := by kernel_rfl
theorem cellsOf22 : Try.prog.cellsOf 22 = 1 := by kernel_rfl
theorem cellsOf5 : Try.prog.cellsOf 5 = 1 := by kernel_rfl
theorem cellsOf39 : Try.prog.cellsOf 39 = 1 := by kernel_rfl

theorem bytes_of {H : Type} {enc : TypeId × Value → H} {W : World} {base : Nat} {fuel : Nat} {v : Value} {x : DataW H × List MemPlace}
    (hf : DataW.trod enc Try.prog W base (fun _ => true) true fuel 39 [v] = some x) : ∃ a l c z, v = .slice a l c ∧ SliceAt W W.heap.size a l z := by
  rcases open_ints Try.underlying39 Try.underlying5 cellsOf5 hf with ⟨hcs, _⟩ | ⟨y, l, c, zs, hcs, _, hl, hm, hz, _, hcell, hwz⟩
  · simp only [List.cons.injEq, and_true] at hcs
    exact ⟨none, 0, 0, [], hcs, rfl, Nat.zero_le _, fun h => by omega⟩
  · simp only [List.cons.injEq, and_true] at hcs
    have hz' : zs.length = c := by simpa using hz
    refine ⟨some y, l, c, zs.take l, hcs, by simp; omega, by omega, fun h0 => ?_⟩
    obtain ⟨b, off, rfl, hc⟩ := ints_at hcell (by omega)
    refine ⟨b, off, rfl, World.block_lt_of_cell? W _ (hc 0 (by omega)), fun i hi => ?_⟩
    rw [hc i (by omega)]
    simp [List.getD, hi]

instance : Inhabited Ent := ⟨⟨0, 0, 0, 0, none, 0, 0, [], none, 0, 0, []⟩⟩

def EntOk (W : World) (cs : List Value) (e : Ent) : Prop :=
  cs = [.int .u64 e.s, .int .u64 e.q, .int .u64 e.t, .int .u8 e.o, .slice e.va e.vl e.vc, .slice e.ra e.rl e.rc] ∧ SliceAt W W.heap.size e.va e.vl e.vz ∧ SliceAt W W.heap.size e.ra e.rl e.rz

theorem trod_struct6 {H : Type} {P : Program} {enc : TypeId × Value → H} {w : World} {base : Nat} {spare : Nat → Bool} {held : Bool} {t : TypeId} {f0 f1 f2 f3 f4 f5 : Field} {fuel : Nat} {cs : List Value} {x : DataW H × List MemPlace}
    (ht : P.underlying t = some (.struct #[f0, f1, f2, f3, f4, f5])) (h : DataW.trod enc P w base spare held fuel t cs = some x) :
    ∃ y0 y1 y2 y3 y4 y5 n, cs.length = P.cellsOf t ∧ DataW.trod enc P w base spare held n f0.type ((cs.drop f0.offset).take (P.cellsOf f0.type)) = some y0 ∧
      DataW.trod enc P w base spare held n f1.type ((cs.drop f1.offset).take (P.cellsOf f1.type)) = some y1 ∧ DataW.trod enc P w base spare held n f2.type ((cs.drop f2.offset).take (P.cellsOf f2.type)) = some y2 ∧
      DataW.trod enc P w base spare held n f3.type ((cs.drop f3.offset).take (P.cellsOf f3.type)) = some y3 ∧ DataW.trod enc P w base spare held n f4.type ((cs.drop f4.offset).take (P.cellsOf f4.type)) = some y4 ∧
      DataW.trod enc P w base spare held n f5.type ((cs.drop f5.offset).take (P.cellsOf f5.type)) = some y5 := by
  obtain ⟨xs, n, _, _, hl, hlen, hf⟩ := DataW.trod_struct ht h
  match xs, hlen with
  | [y0, y1, y2, y3, y4, y5], _ => exact ⟨y0, y1, y2, y3, y4, y5, n, hl, by simpa using hf 0 f0 rfl, by simpa using hf 1 f1 rfl, by simpa using hf 2 f2 rfl, by simpa using hf 3 f3 rfl, by simpa using hf 4 f4 rfl, by simpa using hf 5 f5 rfl⟩

theorem ent_of {H : Type} {enc : TypeId × Value → H} {W : World} {base : Nat} {fuel : Nat} {cs : List Value} {x : DataW H × List MemPlace}
    (hf : DataW.trod enc Try.prog W base (fun _ => true) true fuel 63 cs = some x) : ∃ e, EntOk W cs e := by
  obtain ⟨y0, y1, y2, y3, y4, y5, n, hl, h0, h1, h2, h3, h4, h5⟩ := trod_struct6 Try.underlying63 hf
  rw [cellsOf63] at hl
  dsimp only at h0 h1 h2 h3 h4 h5
  rw [cellsOf22] at h0 h1 h2
  rw [cellsOf5] at h3
  rw [cellsOf39] at h4 h5
  match cs, hl with
  | [c0, c1, c2, c3, c4, c5], _ =>
    dsimp only [List.drop, List.take] at h0 h1 h2 h3 h4 h5
    obtain ⟨s, e0, _⟩ := DataW.trod_int Try.underlying22 h0
    obtain ⟨q, e1, _⟩ := DataW.trod_int Try.underlying22 h1
    obtain ⟨t, e2, _⟩ := DataW.trod_int Try.underlying22 h2
    obtain ⟨o, e3, _⟩ := DataW.trod_int Try.underlying5 h3
    obtain ⟨va, vl, vc, vz, e4, hv⟩ := bytes_of h4
    obtain ⟨ra, rl, rc, rz, e5, hr⟩ := bytes_of h5
    simp only [List.cons.injEq, and_true] at e0 e1 e2 e3
    subst e0 e1 e2 e3 e4 e5
    exact ⟨⟨s, q, t, o, va, vl, vc, vz, ra, rl, rc, rz⟩, rfl, hv, hr⟩

/-- A slice of entries as it comes in: nil; or an address, and where it has an entry its cells hold the entries. -/
def IsEnts (W : World) (a : Option Addr) (len cap : Nat) : Prop :=
  (a = none ∧ len = 0 ∧ cap = 0) ∨ ∃ x E, a = some x ∧ len ≤ maxLen ∧ EntsAt W W.heap.size (some x) len E

theorem isEnts_of {H : Type} {enc : TypeId × Value → H} {W : World} {base : Nat} {fuel : Nat} {a : Option Addr} {len cap : Nat} {x : DataW H × List MemPlace}
    (hf : DataW.trod enc Try.prog W base (fun _ => true) true fuel 55 (Value.slice a len cap).cells.toList = some x) : IsEnts W a len cap := by
  rcases Deep.open_slice Try.underlying55 hf with ⟨hcs, _⟩ | ⟨y, l, c, m, n, D, Pl, hcs, _, hl, hm, hmm, _, hx⟩
  · simp [Value.cells] at hcs
    obtain ⟨rfl, rfl, rfl⟩ := hcs
    exact .inl ⟨rfl, rfl, rfl⟩
  · simp [Value.cells] at hcs
    obtain ⟨rfl, rfl, rfl⟩ := hcs
    have hlm : len ≤ m := by rw [hmm]; split <;> omega
    obtain ⟨E, hE⟩ := Deep.choose_lt (α := Ent) (n := len) (p := fun i e => ∃ cs, W.cells? base (y.add (i * 6)) 6 = some cs ∧ EntOk W cs e) (fun i hi => by
      obtain ⟨cs, h1, h2⟩ := hx i (by omega)
      rw [cellsOf63] at h1
      obtain ⟨e, he⟩ := ent_of h2
      exact ⟨e, cs, h1, he⟩)
    refine .inr ⟨y, E, rfl, by omega, fun h0 => ?_⟩
    have hcell : ∀ i, i < len → ∀ j, j < 6 → ∃ v, W.cell? ((y.add (i * 6)).add j) = some v := fun i hi j hj => by
      obtain ⟨cs, h1, h2, _⟩ := hE i hi
      obtain ⟨_, h3, h4⟩ := World.cells?_some h1
      refine ⟨cs[j]'(by omega), ?_⟩
      rw [h4 j hj]
      simp
    obtain ⟨b, off, spot⟩ := y
    obtain ⟨v0, hv0⟩ := hcell 0 h0 0 (by omega)
    have hspot : spot = none := by simpa [Addr.add] using World.cell?_spot hv0
    subst hspot
    have hlt : b < W.heap.size := World.block_lt_of_cell? W _ hv0
    refine ⟨b, off, rfl, hlt, fun i hi => ?_⟩
    obtain ⟨cs, h1, h2, hv, hr⟩ := hE i hi
    obtain ⟨_, _, h4⟩ := World.cells?_some h1
    subst h2
    refine ⟨⟨?_, ?_, ?_, ?_, ?_, ?_⟩, hv, hr⟩
    · have := h4 0 (by omega); rw [add_plain, add_plain] at this; exact this
    · have := h4 1 (by omega); rw [add_plain, add_plain] at this; exact this
    · have := h4 2 (by omega); rw [add_plain, add_plain] at this; exact this
    · have := h4 3 (by omega); rw [add_plain, add_plain] at this; exact this
    · have := h4 4 (by omega); rw [add_plain, add_plain] at this; exact this
    · have := h4 5 (by omega); rw [add_plain, add_plain] at this; exact this

end Go.Proofs.Qxb6617334a.Own
