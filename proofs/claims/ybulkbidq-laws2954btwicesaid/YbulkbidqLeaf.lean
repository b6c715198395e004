/-
  THE LEAVES of the roads of LawS2954BEnd and LawS2954BTwice: what each callee does to the world, said of cells.
-/
import Derived.Test.YbulkbidqRows
import Derived.WalkKit
import Derived.WalkSpells
import Derived.WalkLawsBesides
import Derived.Laws.LoneSync
import Derived.RegionTactic
namespace Go.Proofs.Ybulkbidq
open Go.RowKit

set_option maxHeartbeats 400000 in
theorem store5 (b off : Nat) (x y : Int) (w : World) (h0 : w.cell? ⟨b, off, none⟩ = some (.int .i64 x)) (f0 : w.frozen? ⟨b, off, none⟩ = false) :
    Calls Yba.prog 5 #[.pointer (some ⟨b, off, none⟩), .int .i64 y] w fun e w' => e = .returned (.tuple #[]) ∧ w' = w.setCell ⟨b, off, none⟩ (.int .i64 y) := by
  have hst := run_call_store (P := Yba.prog) Yba.func9 (by kernel_rfl) (by kernel_rfl) (by kernel_rfl) (by kernel_rfl) (k := .i64) (y := y) h0 f0
  go_enter Yba.func5, Yba.ntmps5
  go_wp2
  go_end0
  exact ⟨rfl, rfl⟩

set_option maxHeartbeats 400000 in
theorem load8 (b off : Nat) (x : Int) (w : World) (h0 : w.cell? ⟨b, off, none⟩ = some (.int .i64 x)) :
    Calls Yba.prog 8 #[.pointer (some ⟨b, off, none⟩)] w fun e w' => e = .returned (.int .i64 x) ∧ w' = w := by
  have hld := run_call_load (P := Yba.prog) Yba.func12 (by kernel_rfl) (by kernel_rfl) (by kernel_rfl) .i64 (by kernel_rfl) h0
  go_enter Yba.func8, Yba.ntmps8
  go_wp2
  go_ret
  exact ⟨rfl, rfl⟩

set_option maxHeartbeats 400000 in
theorem add13 (b off : Nat) (x y : Int) (w : World) (h0 : w.cell? ⟨b, off, none⟩ = some (.int .i64 x)) (f0 : w.frozen? ⟨b, off, none⟩ = false) :
    Calls Yba.prog 13 #[.pointer (some ⟨b, off, none⟩), .int .i64 y] w fun e w' => e = .returned (.int .i64 (wrap64 (x + y))) ∧ w' = w.setCell ⟨b, off, none⟩ (.int .i64 (wrap64 (x + y))) := by
  have had := run_call_add (P := Yba.prog) Yba.func14 (by kernel_rfl) (by kernel_rfl) (by kernel_rfl) .i64 (by kernel_rfl) (y := y) (s := wrap64 (x + y)) h0 f0 (by simp [go_sem, wrap64, IntKind.wrap_i64])
  go_enter Yba.func13, Yba.ntmps13
  go_wp2
  go_ret
  exact ⟨rfl, rfl⟩

end Go.Proofs.Ybulkbidq
