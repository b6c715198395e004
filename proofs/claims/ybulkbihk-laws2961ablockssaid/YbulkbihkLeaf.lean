/-
  THE LEAVES of the roads of LawS2961ABlocks and LawS2961AConcat.
-/
import Derived.Test.YbulkbihkRows
import Derived.WalkKit
import Derived.WalkSpells
import Derived.WalkLawsBesides
namespace Go.Proofs.Ybulkbihk
open Go.RowKit

theorem sys_procs (w : World) : w.sys (.procs 0) = (.int w.os.procs, w) := by kernel_rfl

theorem next8 : Extern.findNext Yba.f8 = some (Extern.OsHooks.gomaxprocs #[3] #[3]) := by kernel_rfl

theorem run_everSet {P : Program} {w : World} {cs : Array (Nat × Deferred)} {r : Option Nat} (h : w.heap[cleanupTable P]? = some (.finalizers cs r)) :
    Extern.RuntimeCleanup.everSet.run P w = .ok (!cs.isEmpty) w := by
  simp [Extern.RuntimeCleanup.everSet, getObj, program, Sem.run, h]

theorem run_procs {P : Program} (w : World) : (Extern.OsHooks.procs 0).run P w = .ok (w.os.procs : Int) w := by
  simp [Extern.OsHooks.procs, sys, Sem.run, sys_procs]

theorem gomax_form : ∃ K : Int → Bool → Sem Next, Extern.OsHooks.gomaxprocs #[3] #[3] #[.int .i64 0] = (Extern.OsHooks.procs 0 >>= fun old => Extern.RuntimeCleanup.everSet >>= fun b => K old b) ∧
    ∀ old b, K old b = pure (.value (goInt old)) := ⟨_, rfl, fun old b => by cases b <;> rfl⟩

theorem run_gomaxprocs {P : Program} {w : World} {cs : Array (Nat × Deferred)} {r : Option Nat} (h : w.heap[cleanupTable P]? = some (.finalizers cs r)) :
    (Extern.OsHooks.gomaxprocs #[3] #[3] #[.int .i64 0]).run P w = .ok (.value (.int .i64 w.os.procs)) w := by
  obtain ⟨K, hK, hk⟩ := gomax_form
  rw [hK]
  simp [run_procs, run_everSet h, goInt, hk]

theorem maxprocs8 {w : World} {cs : Array (Nat × Deferred)} {r : Option Nat} (h : w.heap[cleanupTable Yba.prog]? = some (.finalizers cs r)) :
    (callFunc 8 #[.int .i64 0]).run Yba.prog w = .ok (.value (.int .i64 w.os.procs)) w := by
  have h0 : ¬ Yba.f8.name = "runtime.NumGoroutine" := by decide
  have h1 : Yba.f8.body = none := by kernel_rfl
  simp [callFunc, program, Sem.run, Yba.func8, h0, h1, next8, mark, run_gomaxprocs h]

end Go.Proofs.Ybulkbihk
