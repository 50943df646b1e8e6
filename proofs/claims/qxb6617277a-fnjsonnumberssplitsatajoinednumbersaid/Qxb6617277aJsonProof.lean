import Derived.Test.Qxb6617277aRows
import Derived.Test.Qxb6617277aOpen
import Derived.Test.Qxb6617277aJsonLaw
import Derived.WalkKit
import Derived.ProofKit
import Derived.OpenShut
import Derived.ChangeOld
import Derived.Below
namespace Go.Proofs.Qxb6617277a.fnJSONNumbersSplitsAtAJoinedNumber
open Go.ChangeShapes Go.WideShapes Go.ChangeAt Go.RowKit
set_option linter.unusedVariables false

theorem word_of {x : Int} (h : (Lit.int .u64 x).wf = true) : ∃ n : Nat, x = (n : Int) ∧ Scan.Word n := by
  obtain ⟨h0, h1⟩ := bounds_u64 h
  obtain ⟨n, rfl⟩ := Int.eq_ofNat_of_zero_le h0
  exact ⟨n, rfl, by unfold Scan.Word; omega⟩

/-- The strings of a slice that came in, as a list. -/
theorem list_of {w : World} {a : Option Addr} {len cap : Nat} {S : Nat → ByteArray} (h : IsStrs w a len cap S) :
    ∃ A : List ByteArray, A.length = len ∧ A.length ≤ maxLen ∧ (∀ i, i < A.length → (A.getD i ByteArray.empty).size ≤ maxLen) ∧ Json.Holds A a w.heap.size w ∧ (a = none → A = []) := by
  rcases h with ⟨rfl, rfl, rfl⟩ | ⟨x, rfl, hl, hs, hc⟩
  · exact ⟨[], rfl, Nat.zero_le _, (fun i hi => by simp at hi), (fun h => by simp at h), fun _ => rfl⟩
  · have hg : ∀ i, i < len → ((List.range len).map S).getD i ByteArray.empty = S i := fun i hi => by simp [List.getD, hi]
    have hlen : ((List.range len).map S).length = len := by simp
    refine ⟨(List.range len).map S, hlen, by omega, fun i hi => ?_, fun h0 => ?_, fun h => by cases h⟩
    · rw [hg i (by omega)]
      exact hs i (by omega)
    · obtain ⟨b, off, e, hb, hcell⟩ := hc (by omega)
      exact ⟨b, off, e, hb, fun i hi => by rw [hg i (by omega)]; exact hcell i (by omega)⟩

theorem walk (a0 : Option Addr) (len0 cap0 : Nat) (S0 : Nat → ByteArray) (a1 : Bool) (a2 : Int) (a3 : Option Addr) (len3 cap3 : Nat) (S3 : Nat → ByteArray) (w : World) (h0 : IsStrs w a0 len0 cap0 S0) (h2 : (Lit.int .u64 a2).wf = true) (h3 : IsStrs w a3 len3 cap3 S3) :
    Calls Try.prog 6 #[.slice a0 len0 cap0, .bool a1, .int .u64 a2, .slice a3 len3 cap3] w fun e w' => e = .returned (.bool true) ∧ Below w.heap.size w w' := by
  obtain ⟨n2, rfl, g2⟩ := word_of h2
  obtain ⟨A, rfl, lA, sA, HA, nA⟩ := list_of h0
  obtain ⟨C, rfl, lC, sC, HC, nC⟩ := list_of h3
  exact Json.law6_walk A C a1 n2 g2 a0 a3 cap0 cap3 w lA lC sA sC HA HC nA nC

set_option maxRecDepth 100000 in
theorem lifted (os : Os) (started : os.Started) (H : Type) (enc : TypeId × Value → H) :
    ReturnsInHanded {} Try.checked os 6 .any (Rows.fnJSONNumbersSplitsAtAJoinedNumberSpec.pre6 enc Try.prog Try.f6 Rows.fnJSONNumbersSplitsAtAJoinedNumberRow.domain false) (Rows.fnJSONNumbersSplitsAtAJoinedNumberSpec.post enc Try.prog Try.f6 false true false false) := by
  refine returnsInHanded_of_change (C := Try.checked) own started (by kernel_rfl) Try.func6
    (ChangeSpec.witness6 (enc := enc) (C := Try.checked) false ⟨#[], #[.slice none 0 0, .bool false, .int .u64 0, .slice none 0 0], []⟩ 8 (by kernel_rfl) (by kernel_rfl) (by kernel_rfl) (by kernel_rfl)) ?_
  intro W base args ds gs before hval0 hW hcnd _
  have hval : ∀ (j : Nat) t v, Try.f6.params[j]? = some t → args[j]? = some v → Value.okWide Try.prog W .any base t v := hval0
  have hW' := hW
  obtain ⟨p, q, hA0, hV, rfl, hfz, hnd⟩ := hW
  have hA : DataW.TrodAll enc Try.prog W 0 (fun _ => true) true Try.f6.params.toList args.toList ds p := hA0
  rw [Try.params6] at hA hval
  obtain ⟨v0, vs0, d0, ds0, p0, q0, hargs, rfl, rfl, h0, r0⟩ := trodAll_cons hA
  obtain ⟨v1, vs1, d1, ds1, p1, q1, rfl, rfl, rfl, h1, r1⟩ := trodAll_cons r0
  obtain ⟨v2, vs2, d2, ds2, p2, q2, rfl, rfl, rfl, h2, r2⟩ := trodAll_cons r1
  obtain ⟨v3, vs3, d3, ds3, p3, q3, rfl, rfl, rfl, h3, r3⟩ := trodAll_cons r2
  obtain ⟨rfl, rfl, rfl⟩ := trodAll_nil r3
  obtain rfl : args = #[v0, v1, v2, v3] := by cases args; simp_all
  obtain ⟨rfl, rfl⟩ := trodVars_none hV
  obtain ⟨a0, len0, cap0, rfl⟩ := okWide_slice Try.underlying29 (hval 0 29 v0 rfl rfl)
  have k0 := h0
  have lt0 : ∀ x ∈ p0, x.block < W.heap.size := by obtain ⟨m, hm⟩ := k0; exact DataW.trod_lt m _ _ _ hm
  obtain ⟨S0, w0⟩ : ∃ S, IsStrs W a0 len0 cap0 S := by obtain ⟨fuel, hf⟩ := h0; exact isStrs_of hf
  obtain ⟨a1, rfl, rfl, rfl⟩ := open_bool Try.underlying4 (hval 1 4 v1 rfl rfl) h1
  obtain ⟨a2, rfl, rfl, rfl, w2⟩ := open_int Try.underlying22 (hval 2 22 v2 rfl rfl) h2
  obtain ⟨a3, len3, cap3, rfl⟩ := okWide_slice Try.underlying29 (hval 3 29 v3 rfl rfl)
  have k3 := h3
  have lt3 : ∀ x ∈ p3, x.block < W.heap.size := by obtain ⟨m, hm⟩ := k3; exact DataW.trod_lt m _ _ _ hm
  obtain ⟨S3, w3⟩ : ∃ S, IsStrs W a3 len3 cap3 S := by obtain ⟨fuel, hf⟩ := h3; exact isStrs_of hf
  clear hA0 hval0
  refine (walk a0 len0 cap0 S0 a1 a2 a3 len3 cap3 S3 W w0 w2 w3).mono fun e W' ⟨he, bel⟩ => ?_
  subst he
  exact ⟨_, rfl, _, _, _, [], _, [], hW', trodAll_mk1 (shut_bool Try.underlying4 _), (trodAll_cons_mk (Below.trod laidOut (by kernel_rfl) (of_decide_eq_true (by kernel_rfl)) k0 bel lt0) (trodAll_cons_mk (shut_bool Try.underlying4 _) (trodAll_cons_mk (shut_int Try.underlying22 w2) (trodAll_cons_mk (Below.trod laidOut (by kernel_rfl) (of_decide_eq_true (by kernel_rfl)) k3 bel lt3) trodAll_mk0)))), rfl, bel.frame _, fun h => by cases h⟩

theorem over : Rows.fnJSONNumbersSplitsAtAJoinedNumberRow.holds Try.pinned (OpenSpec.ofChange Rows.fnJSONNumbersSplitsAtAJoinedNumberSpec) :=
  OpenClaim.holds_of_wide 6 Try.f6 rfl rfl rfl rfl rfl rfl rfl ⟨rfl, rfl, rfl, rfl, rfl⟩ rfl rfl rfl rfl rfl (by kernel_rfl) Try.func6 (by kernel_rfl)
    (of_decide_eq_true (by kernel_rfl)) (by unfold Func.isWrapper; first | (rw [if_pos (by decide +kernel)]; kernel_rfl) | (rw [if_neg (by decide +kernel)]; exact ⟨rfl, rfl⟩))
    (fun os started H enc _ => lifted os started H enc)

end Go.Proofs.Qxb6617277a.fnJSONNumbersSplitsAtAJoinedNumber

namespace Go.Proofs.Qxb6617277a
theorem fnJSONNumbersSplitsAtAJoinedNumber_holds : Rows.FnJSONNumbersSplitsAtAJoinedNumberSaid := fnJSONNumbersSplitsAtAJoinedNumber.over
end Go.Proofs.Qxb6617277a
