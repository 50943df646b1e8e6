import Derived.Test.Qxb6617334aVer
import Derived.Deep.DeepCutAuto
namespace Go.Proofs.Qxb6617334a.Ver
open Go.RowKit
set_option linter.unusedSimpArgs false

/-- Less, its answer known. -/
theorem less_is {a0 a1 a2 a3 b0 b1 b2 b3 : Int} {r : Bool} (h : lessB a0 a1 a2 a3 b0 b1 b2 b3 = r) (w : World) :
    Calls Try.prog 8 #[.agg #[.int .u64 a0, .int .u64 a1, .int .u64 a2, .int .u64 a3], .agg #[.int .u64 b0, .int .u64 b1, .int .u64 b2, .int .u64 b3]] w fun e w' =>
      e = .returned (.bool r) ∧ ∃ x y : Array Value, w' = (w.alloc (.cells x 24)).alloc (.cells y 24) := by rw [← h]; exact less_any a0 a1 a2 a3 b0 b1 b2 b3 w

/-- A version lies at an address. -/
def At (w : World) (n : Nat) (a b c d : Int) : Prop := w.cell? ⟨n, 0, none⟩ = some (.int .u64 a) ∧ w.cell? ⟨n, 1, none⟩ = some (.int .u64 b) ∧ w.cell? ⟨n, 2, none⟩ = some (.int .u64 c) ∧ w.cell? ⟨n, 3, none⟩ = some (.int .u64 d)

theorem cell_alloc {w : World} {a : Addr} {v : Value} {o : Obj} (h : w.cell? a = some v) : (w.alloc o).cell? a = some v := by
  rw [World.cell?_alloc_some _ _ _ (by simp [h])]; exact h
theorem cell_drew {w : World} {a : Addr} {v : Value} (h : w.cell? a = some v) : w.drew.cell? a = some v := h

theorem At.alloc {w : World} {n : Nat} {a b c d : Int} (h : At w n a b c d) (o : Obj) : At (w.alloc o) n a b c d :=
  ⟨by rw [World.cell?_alloc_some _ _ _ (by simp [h.1])]; exact h.1, by rw [World.cell?_alloc_some _ _ _ (by simp [h.2.1])]; exact h.2.1, by rw [World.cell?_alloc_some _ _ _ (by simp [h.2.2.1])]; exact h.2.2.1, by rw [World.cell?_alloc_some _ _ _ (by simp [h.2.2.2])]; exact h.2.2.2⟩

set_option maxHeartbeats 4000000 in
theorem law4_walk (c cl b s pc pcl pb ps : Int) (r1 x : Bool) (w : World) (hb : (b != 0 || s != 0) = r1)
    (e1 : lessB c cl 0 0 c cl b s = r1) (e2 : lessB c cl b s c cl 0 0 = false)
    (e3 : (pc = c ∧ pcl = cl) ∨ (¬ (pc = c ∧ pcl = cl) ∧ lessB c cl b s pc pcl pb ps = x ∧ lessB c cl 0 0 pc pcl pb ps = x ∧ lessB pc pcl pb ps c cl b s = !x ∧ lessB pc pcl pb ps c cl 0 0 = !x)) :
    Calls Try.prog 4 #[.int .u64 c, .int .u64 cl, .int .u64 b, .int .u64 s, .int .u64 pc, .int .u64 pcl, .int .u64 pb, .int .u64 ps] w fun e w' => e = .returned (.bool true) ∧ Grown w w' := by
  have E1 : Hid (lessB c cl 0 0 c cl b s = r1) := e1
  have E2 : Hid (lessB c cl b s c cl 0 0 = false) := e2
  have E3 : Hid ((pc = c ∧ pcl = cl) ∨ (¬ (pc = c ∧ pcl = cl) ∧ lessB c cl b s pc pcl pb ps = x ∧ lessB c cl 0 0 pc pcl pb ps = x ∧ lessB pc pcl pb ps c cl b s = !x ∧ lessB pc pcl pb ps c cl 0 0 = !x)) := e3
  have HB : Hid ((b != 0 || s != 0) = r1) := hb
  clear e1 e2 e3 hb
  go_enter Try.func4, Try.ntmps4
  go_wp2_with fail
  refine (mk_any _ _ _ _ _).mono ?_
  rintro e w1 ⟨rfl, x1, rfl⟩
  go_wp2_with fail
  refine (mk_any _ _ _ _ _).mono ?_
  rintro e w1 ⟨rfl, x2, rfl⟩
  go_wp2_with fail
  refine (mk_any _ _ _ _ _).mono ?_
  rintro e w1 ⟨rfl, x3, rfl⟩
  go_upto_region 4 with fail
  go_cut [42] (fun t wx => t = .bool false ∧ Grown w wx ∧ Hid (At wx (w.heap.size + 1) c cl 0 0) ∧ Hid (At wx (w.heap.size + 1 + 1 + 1) c cl b s) ∧ Hid (At wx (w.heap.size + 1 + 1 + 1 + 1 + 1) pc pcl pb ps))
  case first =>
    have C1 : ∀ w, Calls Try.prog 8 #[.agg #[.int .u64 c, .int .u64 cl, .int .u64 0, .int .u64 0], .agg #[.int .u64 c, .int .u64 cl, .int .u64 b, .int .u64 s]] w fun e w' => e = .returned (.bool r1) ∧ ∃ x y : Array Value, w' = (w.alloc (.cells x 24)).alloc (.cells y 24) := less_is E1.out
    have D1 : Hid (∀ w, Calls Try.prog 8 #[.agg #[.int .u64 c, .int .u64 cl, .int .u64 0, .int .u64 0], .agg #[.int .u64 c, .int .u64 cl, .int .u64 b, .int .u64 s]] w fun e w' => e = .returned (.bool r1) ∧ ∃ x y : Array Value, w' = (w.alloc (.cells x 24)).alloc (.cells y 24)) := C1
    clear C1
    by_cases h1 : (b != 0) = true
    · obtain rfl : r1 = true := by rw [← HB.out]; simp [h1]
      go_wp2_with (go_at_call 8; refine (D1.out _).mono ?_; rintro e w' ⟨rfl, y1, y2, rfl⟩)
      go_meet
      case rel => 
        refine ⟨rfl, by go_grown, ?_, ?_, ?_⟩
        · show At _ _ _ _ _ _
          simp [At, go_sem]
        · show At _ _ _ _ _ _
          simp [At, go_sem]
        · show At _ _ _ _ _ _
          simp [At, go_sem]
    · have h1' : (b != 0) = false := by simpa using h1
      clear h1
      go_wp2_with (go_at_call 8; refine (D1.out _).mono ?_; rintro e w' ⟨rfl, y1, y2, rfl⟩)
      obtain rfl : r1 = (s != 0) := by rw [← HB.out]; simp [h1']
      go_meet
      case rel =>
        refine ⟨by simp, by go_grown, ?_, ?_, ?_⟩
        · show At _ _ _ _ _ _
          simp [At, go_sem]
        · show At _ _ _ _ _ _
          simp [At, go_sem]
        · show At _ _ _ _ _ _
          simp [At, go_sem]
  case rest =>
  obtain ⟨rfl, hG, H1, H2, H3⟩ := hcut
  obtain ⟨a0, a1, a2, a3⟩ := H1.out
  obtain ⟨b0, b1, b2, b3⟩ := H2.out
  go_upto_if 45 with (go_at_call 8; refine (less_is E2.out _).mono ?_; rintro e w' ⟨rfl, y1, y2, rfl⟩)
  clear a0 a1 a2 a3 b0 b1 b2 b3
  obtain ⟨wo, ho⟩ : ∃ wo, wo = (wc.alloc (.cells y1 24)).alloc (.cells y2 24) := ⟨_, rfl⟩
  have hG2 : Grown w wo := by rw [ho]; exact (hG.alloc _ _).alloc _ _
  have K1 : Hid (At wo (w.heap.size + 1) c cl 0 0) := by rw [ho]; exact (H1.out.alloc _).alloc _
  have K2 : Hid (At wo (w.heap.size + 1 + 1 + 1) c cl b s) := by rw [ho]; exact (H2.out.alloc _).alloc _
  have K3 : Hid (At wo (w.heap.size + 1 + 1 + 1 + 1 + 1) pc pcl pb ps) := by rw [ho]; exact (H3.out.alloc _).alloc _
  rw [← ho]
  clear ho H1 H2 H3 hG E1 E2 HB
  rcases E3.out with ⟨rfl, rfl⟩ | ⟨hne, f1, f2, f3, f4⟩
  · go_wp2
    go_ret
    exact ⟨rfl, hG2⟩
  · obtain ⟨a0, a1, a2, a3⟩ := K1.out
    obtain ⟨b0, b1, b2, b3⟩ := K2.out
    obtain ⟨p0, p1, p2, p3⟩ := K3.out
    clear E3 K1 K2 K3
    by_cases h1 : pc = c
    · have h1' : (pc == c) = true := by simp [h1]
      have h2' : (pcl == cl) = false := by
        simp only [beq_eq_false_iff_ne, ne_eq]
        exact fun h => hne ⟨h1, h⟩
      clear h1 hne
      cases x
      · simp only [Bool.not_false] at f3 f4
        go_wp2
        go_region_held3 (fun w' => w'.cell? ⟨w.heap.size + 1, 0, none⟩ = some (.int .u64 c) ∧ w'.cell? ⟨w.heap.size + 1, 1, none⟩ = some (.int .u64 cl) ∧ w'.cell? ⟨w.heap.size + 1, 2, none⟩ = some (.int .u64 0) ∧ w'.cell? ⟨w.heap.size + 1, 3, none⟩ = some (.int .u64 0) ∧
          w'.cell? ⟨w.heap.size + 1 + 1 + 1, 0, none⟩ = some (.int .u64 c) ∧ w'.cell? ⟨w.heap.size + 1 + 1 + 1, 1, none⟩ = some (.int .u64 cl) ∧ w'.cell? ⟨w.heap.size + 1 + 1 + 1, 2, none⟩ = some (.int .u64 b) ∧ w'.cell? ⟨w.heap.size + 1 + 1 + 1, 3, none⟩ = some (.int .u64 s) ∧
          w'.cell? ⟨w.heap.size + 1 + 1 + 1 + 1 + 1, 0, none⟩ = some (.int .u64 pc) ∧ w'.cell? ⟨w.heap.size + 1 + 1 + 1 + 1 + 1, 1, none⟩ = some (.int .u64 pcl) ∧ w'.cell? ⟨w.heap.size + 1 + 1 + 1 + 1 + 1, 2, none⟩ = some (.int .u64 pb) ∧ w'.cell? ⟨w.heap.size + 1 + 1 + 1 + 1 + 1, 3, none⟩ = some (.int .u64 ps)) (refine ⟨?_, ?_, ?_, ?_, ?_, ?_, ?_, ?_, ?_, ?_, ?_, ?_⟩ <;> repeat (first | (with_reducible assumption) | (with_reducible refine cell_drew ?_) | (with_reducible refine cell_alloc ?_)))
          (first | (go_at_call 8; refine (less_any _ _ _ _ _ _ _ _ _).mono ?_; rintro e w' ⟨rfl, y3, y4, rfl⟩))
        go_wp2
        go_ret
        exact ⟨rfl, by repeat (first | (with_reducible exact hG2) | (with_reducible refine Grown.drew ?_) | (with_reducible refine Grown.alloc ?_ _ _))⟩
      · simp only [Bool.not_true] at f3 f4
        go_wp2
        go_region_held3 (fun w' => w'.cell? ⟨w.heap.size + 1, 0, none⟩ = some (.int .u64 c) ∧ w'.cell? ⟨w.heap.size + 1, 1, none⟩ = some (.int .u64 cl) ∧ w'.cell? ⟨w.heap.size + 1, 2, none⟩ = some (.int .u64 0) ∧ w'.cell? ⟨w.heap.size + 1, 3, none⟩ = some (.int .u64 0) ∧
          w'.cell? ⟨w.heap.size + 1 + 1 + 1, 0, none⟩ = some (.int .u64 c) ∧ w'.cell? ⟨w.heap.size + 1 + 1 + 1, 1, none⟩ = some (.int .u64 cl) ∧ w'.cell? ⟨w.heap.size + 1 + 1 + 1, 2, none⟩ = some (.int .u64 b) ∧ w'.cell? ⟨w.heap.size + 1 + 1 + 1, 3, none⟩ = some (.int .u64 s) ∧
          w'.cell? ⟨w.heap.size + 1 + 1 + 1 + 1 + 1, 0, none⟩ = some (.int .u64 pc) ∧ w'.cell? ⟨w.heap.size + 1 + 1 + 1 + 1 + 1, 1, none⟩ = some (.int .u64 pcl) ∧ w'.cell? ⟨w.heap.size + 1 + 1 + 1 + 1 + 1, 2, none⟩ = some (.int .u64 pb) ∧ w'.cell? ⟨w.heap.size + 1 + 1 + 1 + 1 + 1, 3, none⟩ = some (.int .u64 ps)) (refine ⟨?_, ?_, ?_, ?_, ?_, ?_, ?_, ?_, ?_, ?_, ?_, ?_⟩ <;> repeat (first | (with_reducible assumption) | (with_reducible refine cell_drew ?_) | (with_reducible refine cell_alloc ?_)))
          (first | (go_at_call 8; refine (less_any _ _ _ _ _ _ _ _ _).mono ?_; rintro e w' ⟨rfl, y3, y4, rfl⟩))
        go_wp2
        go_ret
        exact ⟨rfl, by repeat (first | (with_reducible exact hG2) | (with_reducible refine Grown.drew ?_) | (with_reducible refine Grown.alloc ?_ _ _))⟩
    · have h1' : (pc == c) = false := by simp [h1]
      clear h1 hne
      cases x
      · simp only [Bool.not_false] at f3 f4
        go_wp2
        go_region_held3 (fun w' => w'.cell? ⟨w.heap.size + 1, 0, none⟩ = some (.int .u64 c) ∧ w'.cell? ⟨w.heap.size + 1, 1, none⟩ = some (.int .u64 cl) ∧ w'.cell? ⟨w.heap.size + 1, 2, none⟩ = some (.int .u64 0) ∧ w'.cell? ⟨w.heap.size + 1, 3, none⟩ = some (.int .u64 0) ∧
          w'.cell? ⟨w.heap.size + 1 + 1 + 1, 0, none⟩ = some (.int .u64 c) ∧ w'.cell? ⟨w.heap.size + 1 + 1 + 1, 1, none⟩ = some (.int .u64 cl) ∧ w'.cell? ⟨w.heap.size + 1 + 1 + 1, 2, none⟩ = some (.int .u64 b) ∧ w'.cell? ⟨w.heap.size + 1 + 1 + 1, 3, none⟩ = some (.int .u64 s) ∧
          w'.cell? ⟨w.heap.size + 1 + 1 + 1 + 1 + 1, 0, none⟩ = some (.int .u64 pc) ∧ w'.cell? ⟨w.heap.size + 1 + 1 + 1 + 1 + 1, 1, none⟩ = some (.int .u64 pcl) ∧ w'.cell? ⟨w.heap.size + 1 + 1 + 1 + 1 + 1, 2, none⟩ = some (.int .u64 pb) ∧ w'.cell? ⟨w.heap.size + 1 + 1 + 1 + 1 + 1, 3, none⟩ = some (.int .u64 ps)) (refine ⟨?_, ?_, ?_, ?_, ?_, ?_, ?_, ?_, ?_, ?_, ?_, ?_⟩ <;> repeat (first | (with_reducible assumption) | (with_reducible refine cell_drew ?_) | (with_reducible refine cell_alloc ?_)))
          (first | (go_at_call 8; refine (less_any _ _ _ _ _ _ _ _ _).mono ?_; rintro e w' ⟨rfl, y3, y4, rfl⟩))
        go_wp2
        go_ret
        exact ⟨rfl, by repeat (first | (with_reducible exact hG2) | (with_reducible refine Grown.drew ?_) | (with_reducible refine Grown.alloc ?_ _ _))⟩
      · simp only [Bool.not_true] at f3 f4
        go_wp2
        go_region_held3 (fun w' => w'.cell? ⟨w.heap.size + 1, 0, none⟩ = some (.int .u64 c) ∧ w'.cell? ⟨w.heap.size + 1, 1, none⟩ = some (.int .u64 cl) ∧ w'.cell? ⟨w.heap.size + 1, 2, none⟩ = some (.int .u64 0) ∧ w'.cell? ⟨w.heap.size + 1, 3, none⟩ = some (.int .u64 0) ∧
          w'.cell? ⟨w.heap.size + 1 + 1 + 1, 0, none⟩ = some (.int .u64 c) ∧ w'.cell? ⟨w.heap.size + 1 + 1 + 1, 1, none⟩ = some (.int .u64 cl) ∧ w'.cell? ⟨w.heap.size + 1 + 1 + 1, 2, none⟩ = some (.int .u64 b) ∧ w'.cell? ⟨w.heap.size + 1 + 1 + 1, 3, none⟩ = some (.int .u64 s) ∧
          w'.cell? ⟨w.heap.size + 1 + 1 + 1 + 1 + 1, 0, none⟩ = some (.int .u64 pc) ∧ w'.cell? ⟨w.heap.size + 1 + 1 + 1 + 1 + 1, 1, none⟩ = some (.int .u64 pcl) ∧ w'.cell? ⟨w.heap.size + 1 + 1 + 1 + 1 + 1, 2, none⟩ = some (.int .u64 pb) ∧ w'.cell? ⟨w.heap.size + 1 + 1 + 1 + 1 + 1, 3, none⟩ = some (.int .u64 ps)) (refine ⟨?_, ?_, ?_, ?_, ?_, ?_, ?_, ?_, ?_, ?_, ?_, ?_⟩ <;> repeat (first | (with_reducible assumption) | (with_reducible refine cell_drew ?_) | (with_reducible refine cell_alloc ?_)))
          (first | (go_at_call 8; refine (less_any _ _ _ _ _ _ _ _ _).mono ?_; rintro e w' ⟨rfl, y3, y4, rfl⟩))
        go_wp2
        go_ret
        exact ⟨rfl, by repeat (first | (with_reducible exact hG2) | (with_reducible refine Grown.drew ?_) | (with_reducible refine Grown.alloc ?_ _ _))⟩
end Go.Proofs.Qxb6617334a.Ver
