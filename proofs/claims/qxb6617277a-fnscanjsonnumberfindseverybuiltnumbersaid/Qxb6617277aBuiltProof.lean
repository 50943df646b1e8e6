import Derived.Test.Qxb6617277aRows
import Derived.Test.Qxb6617277aOpenB
import Derived.Test.Qxb6617277aBuiltLaw
import Derived.WalkKit
import Derived.ProofKit
import Derived.OpenShut
import Derived.ChangeOld
import Derived.Below
namespace Go.Proofs.Qxb6617277a.fnScanJSONNumberFindsEveryBuiltNumber
open Go.ChangeShapes Go.WideShapes Go.ChangeAt Go.RowKit
set_option linter.unusedVariables false

theorem word_of {x : Int} (h : (Lit.int .u64 x).wf = true) : ∃ n : Nat, x = (n : Int) ∧ Scan.Word n := by
  obtain ⟨h0, h1⟩ := bounds_u64 h
  obtain ⟨n, rfl⟩ := Int.eq_ofNat_of_zero_le h0
  exact ⟨n, rfl, by unfold Scan.Word; omega⟩

theorem walk (a0 : Bool) (a1 : Int) (a2 : Bool) (a3 : Int) (a4 a5 : Bool) (a6 a7 : Int) (ao : Option Addr) (len cap : Nat) (Z : List Int) (w : World) (h1 : (Lit.int .u64 a1).wf = true) (h3 : (Lit.int .u64 a3).wf = true) (_h6 : (Lit.int .i8 a6).wf = true) (h7 : (Lit.int .u64 a7).wf = true) (h8 : IsBytes w ao len cap Z) :
    Calls Try.prog 3 #[.bool a0, .int .u64 a1, .bool a2, .int .u64 a3, .bool a4, .bool a5, .int .i8 a6, .int .u64 a7, .slice ao len cap] w fun e w' => e = .returned (.bool true) ∧ Below w.heap.size w w' := by
  obtain ⟨n1, rfl, g1⟩ := word_of h1
  obtain ⟨n3, rfl, g3⟩ := word_of h3
  obtain ⟨n7, rfl, g7⟩ := word_of h7
  obtain ⟨hl, hZ, hz, _, hc⟩ := h8
  exact Scan.law3_walk a0 n1 a2 n3 a4 a5 a6 n7 ao len cap Z w g1 g3 g7 hl hZ hz hc

set_option maxRecDepth 100000 in
theorem lifted (os : Os) (started : os.Started) (H : Type) (enc : TypeId × Value → H) :
    ReturnsInHanded {} Try.checked os 3 .any (Rows.fnScanJSONNumberFindsEveryBuiltNumberSpec.pre6 enc Try.prog Try.f3 Rows.fnScanJSONNumberFindsEveryBuiltNumberRow.domain false) (Rows.fnScanJSONNumberFindsEveryBuiltNumberSpec.post enc Try.prog Try.f3 false true false false) := by
  refine returnsInHanded_of_change (C := Try.checked) own started (by kernel_rfl) Try.func3
    (ChangeSpec.witness6 (enc := enc) (C := Try.checked) false ⟨#[], #[.bool false, .int .u64 0, .bool false, .int .u64 0, .bool false, .bool false, .int .i8 0, .int .u64 0, .slice none 0 0], []⟩ 8 (by kernel_rfl) (by kernel_rfl) (by kernel_rfl) (by kernel_rfl)) ?_
  intro W base args ds gs before hval0 hW hcnd _
  have hval : ∀ (j : Nat) t v, Try.f3.params[j]? = some t → args[j]? = some v → Value.okWide Try.prog W .any base t v := hval0
  have hW' := hW
  obtain ⟨p, q, hA0, hV, rfl, hfz, hnd⟩ := hW
  have hA : DataW.TrodAll enc Try.prog W 0 (fun _ => true) true Try.f3.params.toList args.toList ds p := hA0
  rw [Try.params3] at hA hval
  obtain ⟨v0, vs0, d0, ds0, p0, q0, hargs, rfl, rfl, h0, r0⟩ := trodAll_cons hA
  obtain ⟨v1, vs1, d1, ds1, p1, q1, rfl, rfl, rfl, h1, r1⟩ := trodAll_cons r0
  obtain ⟨v2, vs2, d2, ds2, p2, q2, rfl, rfl, rfl, h2, r2⟩ := trodAll_cons r1
  obtain ⟨v3, vs3, d3, ds3, p3, q3, rfl, rfl, rfl, h3, r3⟩ := trodAll_cons r2
  obtain ⟨v4, vs4, d4, ds4, p4, q4, rfl, rfl, rfl, h4, r4⟩ := trodAll_cons r3
  obtain ⟨v5, vs5, d5, ds5, p5, q5, rfl, rfl, rfl, h5, r5⟩ := trodAll_cons r4
  obtain ⟨v6, vs6, d6, ds6, p6, q6, rfl, rfl, rfl, h6, r6⟩ := trodAll_cons r5
  obtain ⟨v7, vs7, d7, ds7, p7, q7, rfl, rfl, rfl, h7, r7⟩ := trodAll_cons r6
  obtain ⟨v8, vs8, d8, ds8, p8, q8, rfl, rfl, rfl, h8, r8⟩ := trodAll_cons r7
  obtain ⟨rfl, rfl, rfl⟩ := trodAll_nil r8
  obtain rfl : args = #[v0, v1, v2, v3, v4, v5, v6, v7, v8] := by cases args; simp_all
  obtain ⟨rfl, rfl⟩ := trodVars_none hV
  obtain ⟨a0, rfl, rfl, rfl⟩ := open_bool Try.underlying4 (hval 0 4 v0 rfl rfl) h0
  obtain ⟨a1, rfl, rfl, rfl, w1⟩ := open_int Try.underlying22 (hval 1 22 v1 rfl rfl) h1
  obtain ⟨a2, rfl, rfl, rfl⟩ := open_bool Try.underlying4 (hval 2 4 v2 rfl rfl) h2
  obtain ⟨a3, rfl, rfl, rfl, w3⟩ := open_int Try.underlying22 (hval 3 22 v3 rfl rfl) h3
  obtain ⟨a4, rfl, rfl, rfl⟩ := open_bool Try.underlying4 (hval 4 4 v4 rfl rfl) h4
  obtain ⟨a5, rfl, rfl, rfl⟩ := open_bool Try.underlying4 (hval 5 4 v5 rfl rfl) h5
  obtain ⟨a6, rfl, rfl, rfl, w6⟩ := open_int Try.underlying23 (hval 6 23 v6 rfl rfl) h6
  obtain ⟨a7, rfl, rfl, rfl, w7⟩ := open_int Try.underlying22 (hval 7 22 v7 rfl rfl) h7
  obtain ⟨a8, len8, cap8, rfl⟩ := okWide_slice Try.underlying24 (hval 8 24 v8 rfl rfl)
  have k8 := h8
  have lt8 : ∀ x ∈ p8, x.block < W.heap.size := by obtain ⟨m, hm⟩ := k8; exact DataW.trod_lt m _ _ _ hm
  obtain ⟨z8, w8⟩ : ∃ zs, IsBytes W a8 len8 cap8 zs := by obtain ⟨fuel, hf⟩ := h8; exact isBytes_of hf
  clear hA0 hval0
  refine (walk a0 a1 a2 a3 a4 a5 a6 a7 a8 len8 cap8 z8 W w1 w3 w6 w7 w8).mono fun e W' ⟨he, bel⟩ => ?_
  subst he
  exact ⟨_, rfl, _, _, _, [], _, [], hW', trodAll_mk1 (shut_bool Try.underlying4 _), (trodAll_cons_mk (shut_bool Try.underlying4 _) (trodAll_cons_mk (shut_int Try.underlying22 w1) (trodAll_cons_mk (shut_bool Try.underlying4 _) (trodAll_cons_mk (shut_int Try.underlying22 w3) (trodAll_cons_mk (shut_bool Try.underlying4 _) (trodAll_cons_mk (shut_bool Try.underlying4 _) (trodAll_cons_mk (shut_int Try.underlying23 w6) (trodAll_cons_mk (shut_int Try.underlying22 w7) (trodAll_cons_mk (Below.trod laidOut (by kernel_rfl) (of_decide_eq_true (by kernel_rfl)) k8 bel lt8) trodAll_mk0))))))))), rfl, bel.frame _, fun h => by cases h⟩

theorem over : Rows.fnScanJSONNumberFindsEveryBuiltNumberRow.holds Try.pinned (OpenSpec.ofChange Rows.fnScanJSONNumberFindsEveryBuiltNumberSpec) :=
  OpenClaim.holds_of_wide 3 Try.f3 rfl rfl rfl rfl rfl rfl rfl ⟨rfl, rfl, rfl, rfl, rfl⟩ rfl rfl rfl rfl rfl (by kernel_rfl) Try.func3 (by kernel_rfl)
    (of_decide_eq_true (by kernel_rfl)) (by unfold Func.isWrapper; first | (rw [if_pos (by decide +kernel)]; kernel_rfl) | (rw [if_neg (by decide +kernel)]; exact ⟨rfl, rfl⟩))
    (fun os started H enc _ => lifted os started H enc)

end Go.Proofs.Qxb6617277a.fnScanJSONNumberFindsEveryBuiltNumber

namespace Go.Proofs.Qxb6617277a
theorem fnScanJSONNumberFindsEveryBuiltNumber_holds : Rows.FnScanJSONNumberFindsEveryBuiltNumberSaid := fnScanJSONNumberFindsEveryBuiltNumber.over
end Go.Proofs.Qxb6617277a
