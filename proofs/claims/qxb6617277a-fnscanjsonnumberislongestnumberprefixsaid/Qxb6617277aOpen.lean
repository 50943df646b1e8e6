import Derived.Test.Qxb6617277aRows
import Derived.ProofKit
import Derived.OpenShut
import Derived.Deep.Strs
namespace Go.Proofs.Qxb6617277a
open Go.ChangeShapes Go.WideShapes Go.ChangeAt Go.RowKit

theorem own : ownKnob Try.prog.godebug = none := by kernel_rfl
theorem laidOut : laidOutB Try.prog = true := by kernel_rfl

/-- A slice of strings as it comes in: nil; or an address, a length, and where it has an element its cells hold the strings. -/
def IsStrs (w : World) (a : Option Addr) (len cap : Nat) (S : Nat → ByteArray) : Prop :=
  (a = none ∧ len = 0 ∧ cap = 0) ∨
  ∃ x, a = some x ∧ len ≤ maxLen ∧ (∀ i, i < len → (S i).size ≤ maxLen) ∧
    (0 < len → ∃ b off, a = some ⟨b, off, none⟩ ∧ b < w.heap.size ∧ ∀ i, i < len → w.cell? ⟨b, off + i, none⟩ = some (.string (S i)))

theorem isStrs_of {H : Type} {enc : TypeId × Value → H} {W : World} {base : Nat} {spare : Nat → Bool} {held : Bool} {fuel : Nat} {a : Option Addr} {len cap : Nat} {x : DataW H × List MemPlace}
    (hf : DataW.trod enc Try.prog W base spare held fuel 29 (Value.slice a len cap).cells.toList = some x) : ∃ S, IsStrs W a len cap S := by
  rcases Deep.open_strs Try.underlying29 Try.underlying9 (by kernel_rfl) hf with ⟨hcs, _⟩ | ⟨y, l, c, m, S, hcs, _, hl, hm, hmm, _, hcell⟩
  · simp [Value.cells] at hcs
    obtain ⟨rfl, rfl, rfl⟩ := hcs
    exact ⟨fun _ => ByteArray.empty, .inl ⟨rfl, rfl, rfl⟩⟩
  · simp [Value.cells] at hcs
    obtain ⟨rfl, rfl, rfl⟩ := hcs
    have hlm : len ≤ m := by rw [hmm]; split <;> omega
    refine ⟨S, .inr ⟨y, rfl, by omega, fun i hi => (hcell i (by omega)).2, fun h0 => ?_⟩⟩
    obtain ⟨b, off, spot⟩ := y
    have hspot : spot = none := by simpa [Addr.add] using World.cell?_spot (hcell 0 (by omega)).1
    subst hspot
    have hlt : b < W.heap.size := by
      have h := (hcell 0 (by omega)).1
      rw [Go.WideShapes.add_plain] at h
      exact World.block_lt_of_cell? W _ h
    exact ⟨b, off, rfl, hlt, fun i hi => by rw [← Go.WideShapes.add_plain]; exact (hcell i (by omega)).1⟩

end Go.Proofs.Qxb6617277a
