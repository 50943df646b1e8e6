import Derived.Test.Qxb6617334aOwnLaw
namespace Go.Proofs.Qxb6617334a.Own
open Go.RowKit
set_option linter.unusedSimpArgs false

set_option maxHeartbeats 4000000 in
set_option maxRecDepth 100000 in
theorem law6_nil (w : World) :
    Calls Try.prog 6 #[.slice none 0 0] w fun e w' => e = .returned (.bool true) ∧ Below w.heap.size w w' := by
  have HE : Hid (EntsAt w w.heap.size none 0 (fun _ => ⟨0, 0, 0, 0, none, 0, 0, [], none, 0, 0, []⟩)) := fun h => by omega
  have hnl0 := fun w => Lib.run_eql_slice_nil (P := Try.prog) w 55 63 none 0 0 0 0 Try.underlying55
  have hnl1 := fun w => Lib.run_eql_slice_nil (P := Try.prog) w 57 52 none 0 0 0 0 Try.underlying57
  go_enter Try.func6, Try.ntmps6
  go_wp2_with fail
  refine (bytes15 _ 0 none 0 w.heap.size w (Nat.zero_le _) HE.out).mono ?_
  rintro e w' ⟨⟨r, rfl⟩, rfl⟩
  cases r
  · go_wp2
    go_ret
    exact ⟨rfl, Below.refl _ _⟩
  go_wp2_with fail
  refine (tooBig _ 0 none 0 w.heap.size w (Nat.zero_le _) HE.out).mono ?_
  rintro e w' ⟨⟨r, rfl, hr⟩, rfl⟩
  clear hr
  cases r
  case true =>
    go_wp2
    go_ret
    exact ⟨rfl, Below.refl _ _⟩
  case false =>
  clear HE
  go_wp2_with fail
  refine (toWire_nil w).mono ?_
  rintro e w1 ⟨rfl, rfl⟩
  go_wp2_with fail
  refine (own18_nil w).mono ?_
  rintro e w2 ⟨rfl, hB⟩
  go_upto_region 9 with fail
  clear hnl0 hnl1
  go_cut [36] (fun t wx => t = .bool false ∧ Below w2.heap.size w2 wx)
  case first =>
    have hgd : decide ((0 : Int) < 0) = false := by simp
    go_quiet (fail)
    go_wp2
    go_meet
    case rel => exact ⟨rfl, below_drewN (Below.refl _ _) _⟩
  case rest =>
  obtain ⟨rfl, hB3⟩ := hcut
  go_wp2
  go_rounds 1
  go_ret
  exact ⟨rfl, hB.trans (hB3.mono hB.size)⟩
end Go.Proofs.Qxb6617334a.Own
