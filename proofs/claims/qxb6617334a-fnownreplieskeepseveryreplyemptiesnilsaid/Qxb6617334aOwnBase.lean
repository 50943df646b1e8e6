import Derived.Test.Qxb6617334aRows
import Derived.WalkKit
import Derived.WalkSpells
import Derived.WalkLawsBesides
import Derived.Handy
import Derived.BigQuiet
import Derived.Deep.OwnRows
import Derived.Deep.DeepCutAuto
import Derived.Deep.CutBlock
namespace Go.Proofs.Qxb6617334a.Own
open Go.RowKit

theorem info5 : (Try.prog.info? 5).map (fun i => (i.zero, i.size, i.bytes)) = some (some (.int .u8 0), 1, 1) := by kernel_rfl

/-- One entry: its numbers, and its two slices of bytes with what they hold. -/
structure Ent where
  s : Int
  q : Int
  t : Int
  o : Int
  va : Option Addr
  vl : Nat
  vc : Nat
  vz : List Int
  ra : Option Addr
  rl : Nat
  rc : Nat
  rz : List Int

/-- A slice of bytes, in a block below lim. -/
def SliceAt (w : World) (lim : Nat) (a : Option Addr) (l : Nat) (z : List Int) : Prop :=
  z.length = l ∧ l ≤ maxLen ∧ (0 < l → ∃ b off, a = some ⟨b, off, none⟩ ∧ b < lim ∧ ∀ j, j < l → w.cell? ⟨b, off + j, none⟩ = some (.int .u8 (z.getD j 0)))

/-- The entry's six cells from place p on. -/
def CellsAt (w : World) (b p : Nat) (e : Ent) : Prop :=
  w.cell? ⟨b, p, none⟩ = some (.int .u64 e.s) ∧ w.cell? ⟨b, p + 1, none⟩ = some (.int .u64 e.q) ∧ w.cell? ⟨b, p + 2, none⟩ = some (.int .u64 e.t) ∧ w.cell? ⟨b, p + 3, none⟩ = some (.int .u8 e.o) ∧
  w.cell? ⟨b, p + 4, none⟩ = some (.slice e.va e.vl e.vc) ∧ w.cell? ⟨b, p + 5, none⟩ = some (.slice e.ra e.rl e.rc)

/-- n entries from off on in block b, that block and all their bytes below lim. -/
def Ents (w : World) (lim b off n : Nat) (E : Nat → Ent) : Prop :=
  b < lim ∧ ∀ i, i < n → CellsAt w b (off + i * 6) (E i) ∧ SliceAt w lim (E i).va (E i).vl (E i).vz ∧ SliceAt w lim (E i).ra (E i).rl (E i).rz

def EntsAt (w : World) (lim : Nat) (a : Option Addr) (n : Nat) (E : Nat → Ent) : Prop := 0 < n → ∃ b off, a = some ⟨b, off, none⟩ ∧ Ents w lim b off n E

/-- What the first k entries weigh. -/
def tot (E : Nat → Ent) : Nat → Nat
  | 0 => 0
  | k + 1 => tot E k + (80 + ((E k).vl + (E k).rl))

theorem tot_le {E : Nat → Ent} {i j : Nat} (h : i ≤ j) : tot E i ≤ tot E j := by
  induction j with
  | zero => obtain rfl : i = 0 := by omega
            exact Nat.le_refl _
  | succ j ih =>
    by_cases e : i = j + 1
    · subst e; exact Nat.le_refl _
    · have := ih (by omega); simp only [tot]; omega

def Light (E : Nat → Ent) (n : Nat) (e : Ending) : Prop := ∃ r : Bool, e = .returned (.bool r) ∧ (r = false → n ≤ 16384 ∧ tot E n ≤ 1048576)
def SomeBool (e : Ending) : Prop := ∃ r : Bool, e = .returned (.bool r)

set_option maxHeartbeats 1000000 in
set_option maxRecDepth 100000 in
theorem tooBig (E : Nat → Ent) (n : Nat) (ao : Option Addr) (cap lim : Nat) (w : World) (hn : n ≤ maxLen) (hE : EntsAt w lim ao n E) :
    Calls Try.prog 16 #[.slice ao n cap] w fun e w' => Light E n e ∧ w = w' := by
  unfold maxLen at hn
  have HE : Hid (EntsAt w lim ao n E) := hE
  clear hE
  by_cases hbig : 16384 < n
  · go_enter Try.func16, Try.ntmps16
    go_wp2
    go_ret
    exact ⟨⟨true, rfl, fun h => by cases h⟩, rfl⟩
  go_enter Try.func16, Try.ntmps16
  go_wp2
  go_loop [3, 4] (fun z i => ∃ (k : Nat), k ≤ n ∧ i = .int .i64 k ∧ z = .int .i64 (tot E k : Nat) ∧ ((tot E k : Nat) : Int) ≤ 1048576) (fun _ i => n - (intOf i).toNat)
  case atStart => exact ⟨0, Nat.zero_le _, rfl, rfl, by simp [tot]⟩
  case round =>
    obtain ⟨k, hk, rfl, rfl, hs1⟩ := hrel
    by_cases hlt : k < n
    · obtain ⟨b, off, rfl, hb, hc⟩ := HE.out (by omega)
      obtain ⟨⟨_, _, _, _, c4, c5⟩, ⟨_, v2, _⟩, ⟨_, r2, _⟩⟩ := hc k hlt
      clear hc
      have HT : Hid (tot E (k + 1) = tot E k + (80 + ((E k).vl + (E k).rl))) := rfl
      unfold maxLen at v2 r2
      generalize (E k).va = va at c4
      generalize (E k).vl = vl at c4 HT v2
      generalize (E k).vc = vc at c4
      generalize (E k).ra = ra at c5
      generalize (E k).rl = rl at c5 HT r2
      generalize (E k).rc = rc at c5
      generalize tot E k = s at *
      by_cases h1 : (1048576 : Int) < (s : Int) + 80
      · go_wp2
        go_ret
        exact ⟨⟨true, rfl, fun h => by cases h⟩, rfl⟩
      by_cases h2 : (1048576 : Int) - ((s : Int) + 80) < (vl : Int)
      · go_wp2
        go_ret
        exact ⟨⟨true, rfl, fun h => by cases h⟩, rfl⟩
      by_cases h3 : (1048576 : Int) - ((s : Int) + 80 + (vl : Int)) < (rl : Int)
      · go_wp2
        go_ret
        exact ⟨⟨true, rfl, fun h => by cases h⟩, rfl⟩
      · go_wp2
        go_round
        case rel => exact ⟨k + 1, by omega, by go_num, by rw [HT.out]; go_num, by rw [HT.out]; omega⟩
        case measure => simp [intOf]; omega
    · obtain rfl : k = n := by omega
      go_wp2
      go_ret
      exact ⟨⟨false, rfl, fun _ => ⟨by omega, by omega⟩⟩, rfl⟩

set_option maxHeartbeats 1000000 in
set_option maxRecDepth 100000 in
theorem bytes15 (E : Nat → Ent) (n : Nat) (ao : Option Addr) (cap lim : Nat) (w : World) (hn : n ≤ maxLen) (hE : EntsAt w lim ao n E) :
    Calls Try.prog 15 #[.slice ao n cap] w fun e w' => SomeBool e ∧ w = w' := by
  unfold maxLen at hn
  have HE : Hid (EntsAt w lim ao n E) := hE
  clear hE
  by_cases hbig : 1048576 < n
  · go_enter Try.func15, Try.ntmps15
    go_wp2
    go_ret
    exact ⟨⟨false, rfl⟩, rfl⟩
  go_enter Try.func15, Try.ntmps15
  go_wp2
  go_loop [3, 4] (fun z i => ∃ (k : Nat) (s : Int), k ≤ n ∧ i = .int .i64 k ∧ z = .int .i64 s ∧ 0 ≤ s ∧ s ≤ 1048576) (fun _ i => n - (intOf i).toNat)
  case atStart => exact ⟨0, n, Nat.zero_le _, rfl, by go_num, by omega, by omega⟩
  case round =>
    obtain ⟨k, s, hk, rfl, rfl, hs0, hs1⟩ := hrel
    by_cases hlt : k < n
    · obtain ⟨b, off, rfl, hb, hc⟩ := HE.out (by omega)
      obtain ⟨⟨_, _, _, _, c4, c5⟩, ⟨_, v2, _⟩, ⟨_, r2, _⟩⟩ := hc k hlt
      clear hc
      unfold maxLen at v2 r2
      generalize (E k).va = va at c4
      generalize (E k).vl = vl at c4 v2
      generalize (E k).vc = vc at c4
      generalize (E k).ra = ra at c5
      generalize (E k).rl = rl at c5 r2
      generalize (E k).rc = rc at c5
      by_cases h1 : (1048576 : Int) < (vl : Int)
      · go_wp2
        go_ret
        exact ⟨⟨false, rfl⟩, rfl⟩
      by_cases h2 : (1048576 : Int) < s + (vl : Int)
      · go_wp2
        go_ret
        exact ⟨⟨false, rfl⟩, rfl⟩
      by_cases h3 : (1048576 : Int) < (rl : Int)
      · go_wp2
        go_ret
        exact ⟨⟨false, rfl⟩, rfl⟩
      by_cases h4 : (1048576 : Int) < s + (vl : Int) + (rl : Int)
      · go_wp2
        go_ret
        exact ⟨⟨false, rfl⟩, rfl⟩
      · go_wp2
        go_round
        case rel => exact ⟨k + 1, s + (vl : Int) + (rl : Int), by omega, by go_num, by go_num, by omega, by omega⟩
        case measure => simp [intOf]; omega
    · go_wp2
      go_ret
      exact ⟨⟨true, rfl⟩, rfl⟩
end Go.Proofs.Qxb6617334a.Own
