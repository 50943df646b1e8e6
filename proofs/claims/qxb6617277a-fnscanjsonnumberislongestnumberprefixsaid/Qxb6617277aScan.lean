import Derived.Test.Qxb6617277aBase
import Derived.Test.Qxb6617277aScanPlain
import Derived.Deep.DeepCutAuto
import Derived.Deep.CutBlock
namespace Go.Proofs.Qxb6617277a.Scan
open Go.RowKit
set_option linter.unusedSimpArgs false

theorem isDigit_any (x : Int) (w : World) (h0 : 0 ≤ x) (h1 : x ≤ 255) : Calls Try.prog 25 #[.int .u8 x] w fun e w' => e = .returned (.bool (dig x)) ∧ w = w' := by
  by_cases a : 48 ≤ x
  · by_cases b : x ≤ 57
    · have H : Hid (dig x = true) := dig_yes a b
      go_enter Try.func25, Try.ntmps25
      go_wp2
      go_ret
      exact ⟨by rw [H.out]; simp [a, b], rfl⟩
    · have H : Hid (dig x = false) := dig_no (by omega)
      go_enter Try.func25, Try.ntmps25
      go_wp2
      go_ret
      exact ⟨by rw [H.out]; simp [a, b], rfl⟩
  · have H : Hid (dig x = false) := dig_no (by omega)
    go_enter Try.func25, Try.ntmps25
    go_wp2
    go_ret
    exact ⟨by rw [H.out]; simp [a], rfl⟩

/-- The bytes g 0, .., g (n - 1) lie behind the address. -/
def Bytes (g : Nat → Int) (n : Nat) (b off : Nat) (w : World) : Prop := ∀ i, i < n → w.cell? ⟨b, off + i, none⟩ = some (.int .u8 (g i))
def Byte (g : Nat → Int) (n : Nat) : Prop := ∀ i, i < n → 0 ≤ g i ∧ g i ≤ 255

set_option maxHeartbeats 400000 in
theorem digitsEnd_any (g : Nat → Int) (n : Nat) (b off cap : Nat) (x : Int) (w : World) (hn : n ≤ maxLen) (hc : Bytes g n b off w) (hg : Byte g n) (hx0 : 0 ≤ x) (hxn : x ≤ n) :
    Calls Try.prog 24 #[.slice (some ⟨b, off, none⟩) n cap, .int .i64 x] w fun e w' => e = .returned (.int .i64 ((dEnd g n x.toNat : Nat) : Int)) ∧ w = w' := by
  unfold maxLen at hn
  obtain ⟨i, rfl⟩ := Int.eq_ofNat_of_zero_le hx0
  rw [Int.toNat_natCast]
  obtain ⟨E, hE⟩ : ∃ E, dEnd g n i = E := ⟨_, rfl⟩
  rw [hE]
  have HC : Hid (Bytes g n b off w) := hc
  have HG : Hid (Byte g n) := hg
  have HE : Hid (dEnd g n i = E) := hE
  clear hc hg hE
  go_enter Try.func24, Try.ntmps24
  go_wp2
  go_loop [1] (fun s => ∃ k : Nat, k ≤ n ∧ s = .int .i64 k ∧ Hid (dEnd g n k = E)) (fun s => n - (intOf s).toNat)
  case atStart => exact ⟨i, by omega, rfl, HE⟩
  case round =>
    obtain ⟨k, hk, rfl, HK⟩ := hrel
    by_cases hlt : k < n
    · have hcx := HC.out k hlt
      obtain ⟨g0, g1⟩ := HG.out k hlt
      have hd : decide ((k : Int) < (n : Int)) = true := by simp; omega
      by_cases hdg : dig (g k) = true
      · go_wp2_with (go_at_call 25; refine (isDigit_any _ _ g0 g1).mono ?_; rintro e w' ⟨rfl, rfl⟩)
        go_round
        case rel => exact ⟨k + 1, by omega, by go_num, (by rw [← dEnd_step g hlt hdg]; exact HK.out : dEnd g n (k + 1) = E)⟩
        case measure => simp [intOf]; omega
      · have hdf : dig (g k) = false := by simpa using hdg
        go_wp2_with (go_at_call 25; refine (isDigit_any _ _ g0 g1).mono ?_; rintro e w' ⟨rfl, rfl⟩)
        go_ret
        refine ⟨?_, rfl⟩
        show Ending.returned (.int .i64 (k : Int)) = _
        rw [← HK.out, dEnd_stop g hdf]
    · have hd : decide ((k : Int) < (n : Int)) = false := by simp; omega
      go_wp2
      go_ret
      refine ⟨?_, rfl⟩
      show Ending.returned (.int .i64 (k : Int)) = _
      rw [← HK.out, dEnd_end g (by omega)]
set_option maxHeartbeats 1000000 in
set_option maxRecDepth 100000 in
theorem scan_some (g : Nat → Int) (n : Nat) (b off cap : Nat) (w : World) (hn : n ≤ 140737488355328) (h0 : 0 < n) (hc : Bytes g n b off w) (hg : Byte g n) :
    Calls Try.prog 20 #[.slice (some ⟨b, off, none⟩) n cap] w fun e w' => e = .returned (.int .i64 ((scan g n : Nat) : Int)) ∧ w = w' := by
  obtain ⟨E, hE⟩ : ∃ E, scan g n = E := ⟨_, rfl⟩
  rw [hE]
  have HC : Hid (Bytes g n b off w) := hc
  have HG : Hid (Byte g n) := hg
  have HE : Hid (scan g n = E) := hE
  clear hc hg hE
  go_enter Try.func20, Try.ntmps20
  go_upto_region 2 with fail
  go_cut [15] (fun t wx => t = .bool (minusB g n) ∧ w = wx)
  case first =>
    have hc0 : w.cell? ⟨b, off, none⟩ = some (.int .u8 (g 0)) := by simpa using HC.out 0 h0
    have HM : Hid (minusB g n = (g 0 == 45)) := minusB_in g h0
    go_wp2
    go_meet
    case rel => exact ⟨by rw [HM.out], rfl⟩
  case rest =>
  obtain ⟨rfl, rfl⟩ := hcut
  go_upto_if 15 with fail
  go_cut [3] (fun s wx => s = .int .i64 (i0 g n : Nat) ∧ w = wx)
  case first =>
    by_cases hB : minusB g n = true
    · have HI : Hid (i0 g n = 1) := by unfold i0; exact if_pos hB
      rw [hB]
      go_wp2
      go_meet
      case rel => exact ⟨by rw [HI.out]; rfl, rfl⟩
    · have HI : Hid (i0 g n = 0) := by unfold i0; exact if_neg hB
      have hB' : minusB g n = false := by simpa using hB
      rw [hB']
      go_wp2
      go_meet
      case rel => exact ⟨by rw [HI.out]; rfl, rfl⟩
  case rest =>
  obtain ⟨rfl, rfl⟩ := hcut
  obtain ⟨i, hi⟩ : ∃ i, i = i0 g n := ⟨_, rfl⟩
  rw [← hi]
  have hin : i ≤ n := by rw [hi]; exact i0_le g n
  have HS : Hid (E = if zeroB g n i then tailE g n (i + 1) else if posB g n i then tailE g n (dEnd g n (i + 1)) else 0) := by rw [hi]; exact HE.out.symm
  clear hi HE
  go_upto_block 0 with fail
  go_cut [3] (fun s wx => ∃ j : Nat, s = .int .i64 j ∧ j ≤ n ∧ Hid (tailE g n j = E) ∧ w = wx)
  case first =>
    by_cases hlt : i < n
    · have hcx := HC.out i hlt
      have hd : decide ((i : Int) < (n : Int)) = true := by simp; omega
      by_cases hz : g i = 48
      · have HT : Hid (tailE g n (i + 1) = E) := by have h := HS.out; rw [if_pos (by rw [zeroB_in g hlt]; simp [hz])] at h; exact h.symm
        have hz' : (g i == 48) = true := by simp [hz]
        clear hz
        go_wp2
        go_meet
        case rel => exact ⟨i + 1, by go_num, by omega, HT, rfl⟩
      · have hz' : (g i == 48) = false := by simp [hz]
        have HS2 : Hid (E = if posB g n i then tailE g n (dEnd g n (i + 1)) else 0) := by have h := HS.out; rw [if_neg (by rw [zeroB_in g hlt]; simp [hz])] at h; exact h
        clear HS hz
        by_cases h1 : 49 ≤ g i
        · by_cases h2 : g i ≤ 57
          · have HT : Hid (tailE g n (dEnd g n (i + 1)) = E) := by have h := HS2.out; rw [if_pos (by rw [posB_in g hlt]; simp [h1, h2])] at h; exact h.symm
            have hle := dEnd_le g (show i + 1 ≤ n by omega)
            go_wp2_with (go_at_call 24; refine (digitsEnd_any g n b off cap _ _ (by unfold maxLen; omega) HC.out HG.out (by omega) (by omega)).mono ?_; rintro e w' ⟨rfl, rfl⟩)
            go_meet
            case rel => exact ⟨dEnd g n (i + 1), by go_num, hle, HT, rfl⟩
          · have HT : Hid (E = 0) := by have h := HS2.out; rw [if_neg (by rw [posB_in g hlt]; simp [h2])] at h; exact h
            go_wp2
            go_ret
            exact ⟨by rw [HT.out]; rfl, rfl⟩
        · have HT : Hid (E = 0) := by have h := HS2.out; rw [if_neg (by rw [posB_in g hlt]; simp [h1])] at h; exact h
          go_wp2
          go_ret
          exact ⟨by rw [HT.out]; rfl, rfl⟩
    · have hd : decide ((i : Int) < (n : Int)) = false := by simp; omega
      have HT : Hid (E = 0) := by have h := HS.out; rw [if_neg (by rw [zeroB_out g hlt]; simp), if_neg (by rw [posB_out g hlt]; simp)] at h; exact h
      go_wp2
      go_ret
      exact ⟨by rw [HT.out]; rfl, rfl⟩
  case rest =>
  obtain ⟨j, rfl, hj, HT, rfl⟩ := hcut
  clear HS hin
  clear i
  -- the fraction
  go_upto_region 9 with fail
  go_cut [74] (fun t wx => t = .bool (fracB g n j) ∧ w = wx)
  case first =>
    by_cases hlt : j + 1 < n
    · have hcx := HC.out j (by omega)
      have hcy := HC.out (j + 1) hlt
      obtain ⟨g0, g1⟩ := HG.out (j + 1) hlt
      have hd : decide ((j : Int) + 1 < (n : Int)) = true := by simp; omega
      by_cases hz : g j = 46
      · have HM : Hid (fracB g n j = dig (g (j + 1))) := fracB_dot g hlt hz
        have hz' : (g j == 46) = true := by simp [hz]
        clear hz
        go_wp2_with (go_at_call 25; refine (isDigit_any _ _ g0 g1).mono ?_; rintro e w' ⟨rfl, rfl⟩)
        go_meet
        case rel => exact ⟨by rw [HM.out], rfl⟩
      · have HM : Hid (fracB g n j = false) := fracB_none g hz
        have hz' : (g j == 46) = false := by simp [hz]
        clear hz
        go_wp2
        go_meet
        case rel => exact ⟨by rw [HM.out], rfl⟩
    · have hd : decide ((j : Int) + 1 < (n : Int)) = false := by simp; omega
      have HM : Hid (fracB g n j = false) := fracB_out g hlt
      go_wp2
      go_meet
      case rel => exact ⟨by rw [HM.out], rfl⟩
  case rest =>
  obtain ⟨rfl, rfl⟩ := hcut
  go_upto_if 74 with fail
  go_cut [3] (fun s wx => s = .int .i64 (frac g n j : Nat) ∧ w = wx)
  case first =>
    by_cases hB : fracB g n j = true
    · have HI : Hid (frac g n j = dEnd g n (j + 2)) := by unfold frac; exact if_pos hB
      have hlt : j + 1 < n := by simp [fracB] at hB; omega
      rw [hB]
      go_wp2_with (go_at_call 24; refine (digitsEnd_any g n b off cap _ _ (by unfold maxLen; omega) HC.out HG.out (by omega) (by omega)).mono ?_; rintro e w' ⟨rfl, rfl⟩)
      go_meet
      case rel => exact ⟨by rw [HI.out]; go_num, rfl⟩
    · have HI : Hid (frac g n j = j) := by unfold frac; exact if_neg hB
      have hB' : fracB g n j = false := by simpa using hB
      rw [hB']
      go_wp2
      go_meet
      case rel => exact ⟨by rw [HI.out], rfl⟩
  case rest =>
  obtain ⟨rfl, rfl⟩ := hcut
  obtain ⟨i, hi⟩ : ∃ i, i = frac g n j := ⟨_, rfl⟩
  rw [← hi]
  have hin : i ≤ n := by rw [hi]; exact frac_le g hj
  have HX : Hid (expo g n i = E) := by rw [hi]; exact HT.out
  clear hi HT hj
  clear j
  -- the exponent
  go_upto_region 11 with fail
  go_cut [96] (fun t wx => t = .bool (expB g n i) ∧ w = wx)
  case first =>
    by_cases hlt : i < n
    · have hcx := HC.out i hlt
      have hd : decide ((i : Int) < (n : Int)) = true := by simp; omega
      have HM : Hid (expB g n i = ((g i == 101) || (g i == 69))) := expB_in g hlt
      by_cases hz : g i = 101
      · have hz' : (g i == 101) = true := by simp [hz]
        clear hz
        go_wp2
        go_meet
        case rel => exact ⟨by rw [HM.out, hz']; rfl, rfl⟩
      · have hz' : (g i == 101) = false := by simp [hz]
        clear hz
        go_wp2
        go_meet
        case rel => exact ⟨by rw [HM.out, hz']; rfl, rfl⟩
    · have hd : decide ((i : Int) < (n : Int)) = false := by simp; omega
      have HM : Hid (expB g n i = false) := expB_out g hlt
      go_wp2
      go_meet
      case rel => exact ⟨by rw [HM.out], rfl⟩
  case rest =>
  obtain ⟨rfl, rfl⟩ := hcut
  by_cases hB : expB g n i = true
  case neg =>
    have hB' : expB g n i = false := by simpa using hB
    have HI : Hid (i = E) := by have h := HX.out; unfold expo at h; rw [if_neg hB] at h; exact h
    rw [hB']
    go_wp2
    go_ret
    exact ⟨by rw [← HI.out]; rfl, rfl⟩
  case pos =>
  have hlt : i < n := by simp [expB] at hB; omega
  have HY : Hid ((if digB g n (signE g n (i + 1)) then dEnd g n (signE g n (i + 1) + 1) else i) = E) := by have h := HX.out; unfold expo at h; rw [if_pos hB] at h; exact h
  rw [hB]
  clear HX hB
  go_upto_region 13 with fail
  go_cut [116] (fun t wx => t = .bool (signB g n (i + 1)) ∧ w = wx)
  case first =>
    by_cases hlt : i + 1 < n
    · have hcx := HC.out (i + 1) hlt
      have hd : decide ((i : Int) + 1 < (n : Int)) = true := by simp; omega
      have HM : Hid (signB g n (i + 1) = ((g (i + 1) == 43) || (g (i + 1) == 45))) := signB_in g hlt
      by_cases hz : g (i + 1) = 43
      · have hz' : (g (i + 1) == 43) = true := by simp [hz]
        clear hz
        go_wp2
        go_meet
        case rel => exact ⟨by rw [HM.out, hz']; rfl, rfl⟩
      · have hz' : (g (i + 1) == 43) = false := by simp [hz]
        clear hz
        go_wp2
        go_meet
        case rel => exact ⟨by rw [HM.out, hz']; rfl, rfl⟩
    · have hd : decide ((i : Int) + 1 < (n : Int)) = false := by simp; omega
      have HM : Hid (signB g n (i + 1) = false) := signB_out g hlt
      go_wp2
      go_meet
      case rel => exact ⟨by rw [HM.out], rfl⟩
  case rest =>
  obtain ⟨rfl, rfl⟩ := hcut
  go_upto_if 116 with fail
  go_cut [4] (fun s wx => s = .int .i64 (signE g n (i + 1) : Nat) ∧ w = wx)
  case first =>
    by_cases hB : signB g n (i + 1) = true
    · have HI : Hid (signE g n (i + 1) = i + 2) := by unfold signE; exact if_pos hB
      rw [hB]
      go_wp2
      go_meet
      case rel => exact ⟨by rw [HI.out]; go_num, rfl⟩
    · have HI : Hid (signE g n (i + 1) = i + 1) := by unfold signE; exact if_neg hB
      have hB' : signB g n (i + 1) = false := by simpa using hB
      rw [hB']
      go_wp2
      go_meet
      case rel => exact ⟨by rw [HI.out]; go_num, rfl⟩
  case rest =>
  obtain ⟨rfl, rfl⟩ := hcut
  obtain ⟨j, hj⟩ : ∃ j, j = signE g n (i + 1) := ⟨_, rfl⟩
  rw [← hj]
  have hjn : j ≤ n := by rw [hj]; exact signE_le g (by omega)
  have HZ : Hid ((if digB g n j then dEnd g n (j + 1) else i) = E) := by rw [hj]; exact HY.out
  clear hj HY
  by_cases hjl : j < n
  · have hcx := HC.out j hjl
    obtain ⟨g0, g1⟩ := HG.out j hjl
    have hd : decide ((j : Int) < (n : Int)) = true := by simp; omega
    by_cases hdg : dig (g j) = true
    · have HI : Hid (dEnd g n (j + 1) = E) := by have h := HZ.out; rw [if_pos (by rw [digB_in g hjl]; exact hdg)] at h; exact h
      go_wp2_with (first | (go_at_call 25; refine (isDigit_any _ _ g0 g1).mono ?_; rintro e w' ⟨rfl, rfl⟩) | (go_at_call 24; refine (digitsEnd_any g n b off cap _ _ (by unfold maxLen; omega) HC.out HG.out (by omega) (by omega)).mono ?_; rintro e w' ⟨rfl, rfl⟩))
      go_ret
      exact ⟨by rw [← HI.out]; rfl, rfl⟩
    · have hdf : dig (g j) = false := by simpa using hdg
      have HI : Hid (i = E) := by have h := HZ.out; rw [if_neg (by rw [digB_in g hjl, hdf]; simp)] at h; exact h
      go_wp2_with (go_at_call 25; refine (isDigit_any _ _ g0 g1).mono ?_; rintro e w' ⟨rfl, rfl⟩)
      go_ret
      exact ⟨by rw [← HI.out]; rfl, rfl⟩
  · have hd : decide ((j : Int) < (n : Int)) = false := by simp; omega
    have HI : Hid (i = E) := by have h := HZ.out; rw [if_neg (by rw [digB_out g hjl]; simp)] at h; exact h
    go_wp2
    go_ret
    exact ⟨by rw [← HI.out]; rfl, rfl⟩
end Go.Proofs.Qxb6617277a.Scan
