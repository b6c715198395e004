/-
  THE WALK of LawS2954BTwice.
-/
import Derived.Test.YbulkbidqMid
import Derived.ProofKit
namespace Go.Proofs.Ybulkbidq
open Go.RowKit

theorem two64 : wrap64 (1 + 1) = 2 := by simp only [wrap64]; omega

set_option maxHeartbeats 1000000 in
theorem walkTwice (a0 a1 a2 a3 a4 : Int) (w : World) :
    Calls Yba.prog 4 #[.int .i64 a0, .int .i64 a1, .int .i64 a2, .int .i64 a3, .int .i64 a4] w fun e w' => e = .returned (.bool true) ∧ Grown w w' := by
  go_enter Yba.func4, Yba.ntmps4
  go_wp2_with fail
  refine (store5 w.heap.size 1 0 a1 _ (by go_simp) (by go_simp)).mono ?_
  rintro e w1 ⟨rfl, rfl⟩
  go_wp2_with fail
  refine (end6_first (w.heap.size + 3) w.heap.size (w.heap.size + 2) (w.heap.size + 1) a2 a3 a4 a0 a1 _ (by omega) (by omega) (by go_simp) (by go_simp) (by go_simp) (by go_simp) (by go_simp) (by go_simp) (by go_simp) (by go_simp) (by go_simp) (by go_simp) (by go_simp) (by go_simp)).mono ?_
  rintro e w1 ⟨rfl, hw1⟩
  have hg : Grown w w1 := by
    rw [hw1]
    refine Grown.drew (Grown.drew (Grown.drew ?_))
    refine Grown.setCell (Grown.setCell (Grown.setCell ?_ (by simp) _) (by simp) _) (by simp) _
    repeat (first | exact Grown.refl _ | apply Grown.drew | apply Grown.alloc)
  have c0 : w1.cell? ⟨w.heap.size, 0, none⟩ = some (.int .i64 (wrap64 (a0 - share a2 a3 a4))) := by rw [hw1]; go_simp
  have f0 : w1.frozen? ⟨w.heap.size, 0, none⟩ = false := by rw [hw1]; go_simp
  have c1 : w1.cell? ⟨w.heap.size, 1, none⟩ = some (.int .i64 (wrap64 (a1 + a2))) := by rw [hw1]; go_simp
  have l0 : w1.cell? ⟨w.heap.size + 1, 0, none⟩ = some (.int .i64 1) := by rw [hw1]; go_simp
  have fl : w1.frozen? ⟨w.heap.size + 1, 0, none⟩ = false := by rw [hw1]; go_simp
  have n0 : w1.cell? ⟨w.heap.size + 1 + 1, 0, none⟩ = some (.int .i64 a2) := by rw [hw1]; go_simp
  have s0 : w1.cell? ⟨w.heap.size + 1 + 1 + 1, 0, none⟩ = some (.pointer (some ⟨w.heap.size, 0, none⟩)) := by rw [hw1]; go_simp
  have s1 : w1.cell? ⟨w.heap.size + 1 + 1 + 1, 1, none⟩ = some (.pointer (some ⟨w.heap.size + 1 + 1, 0, none⟩)) := by rw [hw1]; go_simp
  have s2 : w1.cell? ⟨w.heap.size + 1 + 1 + 1, 2, none⟩ = some (.pointer (some ⟨w.heap.size + 1, 0, none⟩)) := by rw [hw1]; go_simp
  have s3 : w1.cell? ⟨w.heap.size + 1 + 1 + 1, 3, none⟩ = some (.int .i64 a3) := by rw [hw1]; go_simp
  have s4 : w1.cell? ⟨w.heap.size + 1 + 1 + 1, 4, none⟩ = some (.int .i64 a4) := by rw [hw1]; go_simp
  clear hw1
  go_wp2_with fail
  refine (end6_more (w.heap.size + 1 + 1 + 1) w.heap.size (w.heap.size + 1 + 1) (w.heap.size + 1) a2 a3 a4 (wrap64 (a0 - share a2 a3 a4)) 1 _ (by omega) (by omega) (by omega) (by rw [two64]; rfl) s0 s1 s2 s3 s4 c0 f0 n0 l0 fl).mono ?_
  rintro e w2 ⟨rfl, hw2⟩
  rw [two64] at hw2
  have hg2 : Grown w w2 := by
    rw [hw2]
    refine Grown.drew (Grown.drew (Grown.drew ?_))
    exact Grown.setCell (Grown.setCell hg (by simp) _) (by simp) _
  have d0 : w2.cell? ⟨w.heap.size, 0, none⟩ = some (.int .i64 (wrap64 (wrap64 (a0 - share a2 a3 a4) - share a2 a3 a4))) := by rw [hw2]; go_simp
  have d1 : w2.cell? ⟨w.heap.size, 1, none⟩ = some (.int .i64 (wrap64 (a1 + a2))) := by rw [hw2]; go_simp
  have m0 : w2.cell? ⟨w.heap.size + 1, 0, none⟩ = some (.int .i64 2) := by rw [hw2]; go_simp
  have o0 : w2.cell? ⟨w.heap.size + 1 + 1, 0, none⟩ = some (.int .i64 a2) := by rw [hw2]; go_simp
  clear hw2 hg c0 f0 c1 l0 fl n0 s0 s1 s2 s3 s4
  go_wp2_with fail
  refine (share7 a2 a3 a4 _).mono ?_
  rintro e w3 ⟨rfl, rfl⟩
  go_wp2_with fail
  refine (load8 w.heap.size 1 (wrap64 (a1 + a2)) _ (by go_simp)).mono ?_
  rintro e w3 ⟨rfl, rfl⟩
  go_wp2_with fail
  refine (load8 (w.heap.size + 1) 0 2 _ (by go_simp)).mono ?_
  rintro e w3 ⟨rfl, rfl⟩
  go_wp2_with fail
  go_ret
  exact ⟨rfl, hg2⟩

end Go.Proofs.Ybulkbidq
