import Derived.Test.Qxb6617277aOpen
namespace Go.Proofs.Qxb6617277a
open Go.ChangeShapes Go.WideShapes Go.ChangeAt Go.RowKit

/-- A slice of bytes as it comes in: nil; or an address; its elements Z are bytes, and where it has an element its cells hold them. -/
def IsBytes (w : World) (a : Option Addr) (len cap : Nat) (Z : List Int) : Prop :=
  len ≤ maxLen ∧ Z.length = len ∧ (∀ x ∈ Z, 0 ≤ x ∧ x ≤ 255) ∧ (a = none → len = 0 ∧ cap = 0) ∧
    (0 < len → ∃ b off, a = some ⟨b, off, none⟩ ∧ b < w.heap.size ∧ ∀ i, i < len → w.cell? ⟨b, off + i, none⟩ = some (.int .u8 (Z.getD i 0)))

theorem isBytes_of {H : Type} {enc : TypeId × Value → H} {W : World} {base : Nat} {fuel : Nat} {a : Option Addr} {len cap : Nat} {x : DataW H × List MemPlace}
    (hf : DataW.trod enc Try.prog W base (fun _ => true) true fuel 24 (Value.slice a len cap).cells.toList = some x) : ∃ Z, IsBytes W a len cap Z := by
  rcases open_ints Try.underlying24 Try.underlying5 (by kernel_rfl) hf with ⟨hcs, _⟩ | ⟨y, l, c, zs, hcs, _, hl, hm, hz, _, hcell, hwz⟩
  · simp [Value.cells] at hcs
    obtain ⟨rfl, rfl, rfl⟩ := hcs
    exact ⟨[], by omega, rfl, fun x hx => (by cases hx), fun _ => ⟨rfl, rfl⟩, fun h => by omega⟩
  · simp [Value.cells] at hcs
    obtain ⟨rfl, rfl, rfl⟩ := hcs
    have hz' : zs.length = cap := by simpa using hz
    refine ⟨zs.take len, by omega, by simp; omega, fun x hx => ?_, (fun h => by cases h), fun h0 => ?_⟩
    · have := hwz x (List.mem_of_mem_take hx)
      exact bounds_u8 this
    · obtain ⟨b, off, rfl, hc⟩ := ints_at hcell (by omega)
      refine ⟨b, off, rfl, World.block_lt_of_cell? W _ (hc 0 (by omega)), fun i hi => ?_⟩
      rw [hc i (by omega)]
      simp [List.getD, hi]

end Go.Proofs.Qxb6617277a
