/-
  THE WALK of LawS2954BEnd.
-/
import Derived.Test.YbulkbidqMid
import Derived.ProofKit
import Derived.LaidEqlPtr
namespace Go.Proofs.Ybulkbidq
open Go.RowKit

/-- Two pointers of one address are equal: at the three pointer types that the law compares. -/
theorem eqp22 (a : Addr) (w : World) : (binOp .eql 22 (.pointer (some a)) (.pointer (some a))).run Yba.prog w = .ok (.bool true) w := by
  obtain ⟨j, hj⟩ : ∃ j, Yba.prog.info? 31 = some j := Option.isSome_iff_exists.1 (by kernel_rfl)
  exact run_eql_ptr_same w a Yba.underlying22 hj
theorem eqp33 (a : Addr) (w : World) : (binOp .eql 33 (.pointer (some a)) (.pointer (some a))).run Yba.prog w = .ok (.bool true) w := by
  obtain ⟨j, hj⟩ : ∃ j, Yba.prog.info? 35 = some j := Option.isSome_iff_exists.1 (by kernel_rfl)
  exact run_eql_ptr_same w a Yba.underlying33 hj
theorem eqp37 (a : Addr) (w : World) : (binOp .eql 37 (.pointer (some a)) (.pointer (some a))).run Yba.prog w = .ok (.bool true) w := by
  obtain ⟨j, hj⟩ : ∃ j, Yba.prog.info? 2 = some j := Option.isSome_iff_exists.1 (by kernel_rfl)
  exact run_eql_ptr_same w a Yba.underlying37 hj

set_option maxHeartbeats 1000000 in
theorem walkEnd_more (a0 a1 a2 a3 a4 a5 : Int) (hn : (wrap64 (a2 + 1) == 1) = false) (hz : (a2 == 0) = false) (w : World) :
    Calls Yba.prog 3 #[.int .i64 a0, .int .i64 a1, .int .i64 a2, .int .i64 a3, .int .i64 a4, .int .i64 a5] w fun e w' => e = .returned (.bool true) ∧ Grown w w' := by
  have e22 := eqp22
  have e33 := eqp33
  have e37 := eqp37
  go_enter Yba.func3, Yba.ntmps3
  go_wp2_with fail
  refine (store5 w.heap.size 1 0 a1 _ (by go_simp) (by go_simp)).mono ?_
  rintro e w1 ⟨rfl, rfl⟩
  go_wp2_with fail
  refine (store5 (w.heap.size + 1) 0 0 a2 _ (by go_simp) (by go_simp)).mono ?_
  rintro e w1 ⟨rfl, rfl⟩
  go_wp2_with fail
  refine (end6_more (w.heap.size + 3) w.heap.size (w.heap.size + 2) (w.heap.size + 1) a3 a4 a5 a0 a2 _ (by omega) (by omega) (by omega) hn (by go_simp) (by go_simp) (by go_simp) (by go_simp) (by go_simp) (by go_simp) (by go_simp) (by go_simp) (by go_simp) (by go_simp)).mono ?_
  rintro e w1 ⟨rfl, hw1⟩
  have hg : Grown w w1 := by
    rw [hw1]
    refine Grown.drew (Grown.drew (Grown.drew ?_))
    refine Grown.setCell (Grown.setCell ?_ (by simp) _) (by simp) _
    repeat (first | exact Grown.refl _ | apply Grown.drew | apply Grown.alloc)
  have c0 : w1.cell? ⟨w.heap.size, 0, none⟩ = some (.int .i64 (wrap64 (a0 - share a3 a4 a5))) := by rw [hw1]; go_simp
  have c1 : w1.cell? ⟨w.heap.size, 1, none⟩ = some (.int .i64 a1) := by rw [hw1]; go_simp
  have c2 : w1.cell? ⟨w.heap.size, 2, none⟩ = some .nilIface := by rw [hw1]; go_simp
  have l0 : w1.cell? ⟨w.heap.size + 1, 0, none⟩ = some (.int .i64 (wrap64 (a2 + 1))) := by rw [hw1]; go_simp
  have n0 : w1.cell? ⟨w.heap.size + 1 + 1, 0, none⟩ = some (.int .i64 a3) := by rw [hw1]; go_simp
  have s0 : w1.cell? ⟨w.heap.size + 1 + 1 + 1, 0, none⟩ = some (.pointer (some ⟨w.heap.size, 0, none⟩)) := by rw [hw1]; go_simp
  have s1 : w1.cell? ⟨w.heap.size + 1 + 1 + 1, 1, none⟩ = some (.pointer (some ⟨w.heap.size + 1 + 1, 0, none⟩)) := by rw [hw1]; go_simp
  have s2 : w1.cell? ⟨w.heap.size + 1 + 1 + 1, 2, none⟩ = some (.pointer (some ⟨w.heap.size + 1, 0, none⟩)) := by rw [hw1]; go_simp
  have s3 : w1.cell? ⟨w.heap.size + 1 + 1 + 1, 3, none⟩ = some (.int .i64 a4) := by rw [hw1]; go_simp
  have s4 : w1.cell? ⟨w.heap.size + 1 + 1 + 1, 4, none⟩ = some (.int .i64 a5) := by rw [hw1]; go_simp
  clear hw1
  go_wp2_with fail
  go_quiet ((go_at_call 7; exact Calls.quiet_of_same (share7 _ _ _ _)))
  go_wp2_with fail
  refine (load8 w.heap.size 1 a1 _ (by go_simp)).mono ?_
  rintro e w2 ⟨rfl, rfl⟩
  go_wp2_with fail
  refine (load8 (w.heap.size + 1) 0 (wrap64 (a2 + 1)) _ (by go_simp)).mono ?_
  rintro e w2 ⟨rfl, rfl⟩
  go_wp2_with fail
  go_ret
  exact ⟨rfl, hg⟩

set_option maxHeartbeats 1000000 in
theorem walkEnd_first (a0 a1 a3 a4 a5 : Int) (w : World) :
    Calls Yba.prog 3 #[.int .i64 a0, .int .i64 a1, .int .i64 0, .int .i64 a3, .int .i64 a4, .int .i64 a5] w fun e w' => e = .returned (.bool true) ∧ Grown w w' := by
  have e22 := eqp22
  have e33 := eqp33
  have e37 := eqp37
  go_enter Yba.func3, Yba.ntmps3
  go_wp2_with fail
  refine (store5 w.heap.size 1 0 a1 _ (by go_simp) (by go_simp)).mono ?_
  rintro e w1 ⟨rfl, rfl⟩
  go_wp2_with fail
  refine (store5 (w.heap.size + 1) 0 0 0 _ (by go_simp) (by go_simp)).mono ?_
  rintro e w1 ⟨rfl, rfl⟩
  go_wp2_with fail
  refine (end6_first (w.heap.size + 3) w.heap.size (w.heap.size + 2) (w.heap.size + 1) a3 a4 a5 a0 a1 _ (by omega) (by omega) (by go_simp) (by go_simp) (by go_simp) (by go_simp) (by go_simp) (by go_simp) (by go_simp) (by go_simp) (by go_simp) (by go_simp) (by go_simp) (by go_simp)).mono ?_
  rintro e w1 ⟨rfl, hw1⟩
  have hg : Grown w w1 := by
    rw [hw1]
    refine Grown.drew (Grown.drew (Grown.drew ?_))
    refine Grown.setCell (Grown.setCell (Grown.setCell ?_ (by simp) _) (by simp) _) (by simp) _
    repeat (first | exact Grown.refl _ | apply Grown.drew | apply Grown.alloc)
  have c0 : w1.cell? ⟨w.heap.size, 0, none⟩ = some (.int .i64 (wrap64 (a0 - share a3 a4 a5))) := by rw [hw1]; go_simp
  have c1 : w1.cell? ⟨w.heap.size, 1, none⟩ = some (.int .i64 (wrap64 (a1 + a3))) := by rw [hw1]; go_simp
  have c2 : w1.cell? ⟨w.heap.size, 2, none⟩ = some .nilIface := by rw [hw1]; go_simp
  have l0 : w1.cell? ⟨w.heap.size + 1, 0, none⟩ = some (.int .i64 1) := by rw [hw1]; go_simp
  have n0 : w1.cell? ⟨w.heap.size + 1 + 1, 0, none⟩ = some (.int .i64 a3) := by rw [hw1]; go_simp
  have s0 : w1.cell? ⟨w.heap.size + 1 + 1 + 1, 0, none⟩ = some (.pointer (some ⟨w.heap.size, 0, none⟩)) := by rw [hw1]; go_simp
  have s1 : w1.cell? ⟨w.heap.size + 1 + 1 + 1, 1, none⟩ = some (.pointer (some ⟨w.heap.size + 1 + 1, 0, none⟩)) := by rw [hw1]; go_simp
  have s2 : w1.cell? ⟨w.heap.size + 1 + 1 + 1, 2, none⟩ = some (.pointer (some ⟨w.heap.size + 1, 0, none⟩)) := by rw [hw1]; go_simp
  have s3 : w1.cell? ⟨w.heap.size + 1 + 1 + 1, 3, none⟩ = some (.int .i64 a4) := by rw [hw1]; go_simp
  have s4 : w1.cell? ⟨w.heap.size + 1 + 1 + 1, 4, none⟩ = some (.int .i64 a5) := by rw [hw1]; go_simp
  clear hw1
  go_wp2_with fail
  go_quiet ((go_at_call 7; exact Calls.quiet_of_same (share7 _ _ _ _)))
  go_wp2_with fail
  refine (load8 w.heap.size 1 (wrap64 (a1 + a3)) _ (by go_simp)).mono ?_
  rintro e w2 ⟨rfl, rfl⟩
  go_wp2_with fail
  refine (load8 (w.heap.size + 1) 0 1 _ (by go_simp)).mono ?_
  rintro e w2 ⟨rfl, rfl⟩
  go_wp2_with fail
  go_ret
  exact ⟨rfl, hg⟩


end Go.Proofs.Ybulkbidq
