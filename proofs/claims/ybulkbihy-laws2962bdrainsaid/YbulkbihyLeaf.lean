/-
  THE LEAVES of the roads of LawS2962BStep and LawS2962BDrain: sync/atomic's Int64, the Cond's two entries.
-/
import Derived.Test.YbulkbihyRows
import Derived.WalkKit
import Derived.WalkSpells
import Derived.WalkLawsBesides
import Derived.Laws.LoneSync
import Derived.BigQuiet
import Derived.Deep.QuietTactic
namespace Go.Proofs.Ybulkbihy
open Go.RowKit

set_option maxHeartbeats 400000 in
theorem store11 (b off : Nat) (x y : Int) (w : World) (h0 : w.cell? ⟨b, off, none⟩ = some (.int .i64 x)) (f0 : w.frozen? ⟨b, off, none⟩ = false) :
    Calls Yba.prog 11 #[.pointer (some ⟨b, off, none⟩), .int .i64 y] w fun e w' => e = .returned (.tuple #[]) ∧ w' = w.setCell ⟨b, off, none⟩ (.int .i64 y) := by
  have hst := run_call_store (P := Yba.prog) Yba.func22 (by kernel_rfl) (by kernel_rfl) (by kernel_rfl) (by kernel_rfl) (k := .i64) (y := y) h0 f0
  go_enter Yba.func11, Yba.ntmps11
  go_wp2
  go_end0
  exact ⟨rfl, rfl⟩

set_option maxHeartbeats 400000 in
theorem load12 (b off : Nat) (x : Int) (w : World) (h0 : w.cell? ⟨b, off, none⟩ = some (.int .i64 x)) :
    Calls Yba.prog 12 #[.pointer (some ⟨b, off, none⟩)] w fun e w' => e = .returned (.int .i64 x) ∧ w' = w := by
  have hld := run_call_load (P := Yba.prog) Yba.func23 (by kernel_rfl) (by kernel_rfl) (by kernel_rfl) .i64 (by kernel_rfl) h0
  go_enter Yba.func12, Yba.ntmps12
  go_wp2
  go_ret
  exact ⟨rfl, rfl⟩

set_option maxHeartbeats 400000 in
theorem add30 (b off : Nat) (x y : Int) (w : World) (h0 : w.cell? ⟨b, off, none⟩ = some (.int .i64 x)) (f0 : w.frozen? ⟨b, off, none⟩ = false) :
    Calls Yba.prog 30 #[.pointer (some ⟨b, off, none⟩), .int .i64 y] w fun e w' => e = .returned (.int .i64 (wrap64 (x + y))) ∧ w' = w.setCell ⟨b, off, none⟩ (.int .i64 (wrap64 (x + y))) := by
  have had := run_call_add (P := Yba.prog) Yba.func44 (by kernel_rfl) (by kernel_rfl) (by kernel_rfl) .i64 (by kernel_rfl) (y := y) (s := wrap64 (x + y)) h0 f0 (by simp [go_sem, wrap64, IntKind.wrap_i64])
  go_enter Yba.func30, Yba.ntmps30
  go_wp2
  go_ret
  exact ⟨rfl, rfl⟩

/-! ### sync.Cond.Signal where nobody waits -/
theorem check_form (c : Addr) : ∃ K : Bool → Sem Value, ∃ K2 : Value → Sem Value,
    Extern.SyncCond.check #[.pointer (some c)] = (load c >>= fun v => Extern.SyncCond.isSelf c v >>= K) ∧ K true = pure Extern.SyncCond.none_ ∧
    K false = (mark .disable >>= fun _ => load c .atomic >>= K2) ∧ K2 (.int .u64 0) = (store c (.pointer (some c)) .atomic >>= fun _ => mark .enable >>= fun _ => pure Extern.SyncCond.none_) :=
  ⟨_, _, rfl, rfl, rfl, rfl⟩

theorem run_check_first {P : Program} {w : World} {c : Addr} (h : w.cell? c = some (.int .u64 0)) (hf : w.frozen? c = false) :
    (Extern.SyncCond.check #[.pointer (some c)]).run P w = .ok (.tuple #[]) (w.setCell c (.pointer (some c))) := by
  obtain ⟨K, K2, h1, h2, h3, h4⟩ := check_form c
  rw [h1]
  simp [h, Extern.SyncCond.isSelf, h3, h4, mark, Sem.run, run_store P w c (.pointer (some c)) .atomic rfl, hf, Extern.SyncCond.none_]

theorem run_check_again {P : Program} {w : World} {c : Addr} (h : w.cell? c = some (.pointer (some c))) :
    (Extern.SyncCond.check #[.pointer (some c)]).run P w = .ok (.tuple #[]) w := by
  obtain ⟨K, K2, h1, h2, h3, h4⟩ := check_form c
  rw [h1]
  simp [h, Extern.SyncCond.isSelf, h2, Extern.SyncCond.none_]

theorem run_notifyOne {P : Program} {w : World} {b off : Nat} (h0 : w.cell? ⟨b, off, none⟩ = some (.int .u32 0)) (h1 : w.cell? ⟨b, off + 1, none⟩ = some (.int .u32 0)) :
    (Extern.SyncCond.notifyOne #[.pointer (some ⟨b, off, none⟩)]).run P w = .ok (.tuple #[]) w := by
  simp [Extern.SyncCond.notifyOne, Extern.SyncCond.list, Extern.SyncCond.counter, Addr.add, mark, Sem.run, h0, h1, Extern.SyncCond.none_]

theorem call45 (c : Addr) (w w' : World) (h : (Extern.SyncCond.check #[.pointer (some c)]).run Yba.prog w = .ok (.tuple #[]) w') :
    (callFunc 45 #[.pointer (some c)]).run Yba.prog w = .ok (.value (.tuple #[])) w' := by
  rw [run_callFunc_extern Yba.func45 (by kernel_rfl) (by kernel_rfl) (by kernel_rfl) (e := Extern.SyncCond.check) (by kernel_rfl), h]
  rfl
theorem call46 (c : Addr) (w w' : World) (h : (Extern.SyncCond.notifyOne #[.pointer (some c)]).run Yba.prog w = .ok (.tuple #[]) w') :
    (callFunc 46 #[.pointer (some c)]).run Yba.prog w = .ok (.value (.tuple #[])) w' := by
  rw [run_callFunc_extern Yba.func46 (by kernel_rfl) (by kernel_rfl) (by kernel_rfl) (e := Extern.SyncCond.notifyOne) (by kernel_rfl), h]
  rfl

set_option maxHeartbeats 400000 in
theorem signal31_first (b : Nat) (w : World) (h0 : w.cell? ⟨b, 17, none⟩ = some (.int .u32 0)) (h1 : w.cell? ⟨b, 18, none⟩ = some (.int .u32 0))
    (hc : w.cell? ⟨b, 22, none⟩ = some (.int .u64 0)) (hf : w.frozen? ⟨b, 22, none⟩ = false) :
    Calls Yba.prog 31 #[.pointer (some ⟨b, 16, none⟩)] w fun e w' => e = .returned (.tuple #[]) ∧ w' = w.setCell ⟨b, 22, none⟩ (.pointer (some ⟨b, 22, none⟩)) := by
  have k1 := call45 ⟨b, 22, none⟩ w _ (run_check_first hc hf)
  have k2 := call46 ⟨b, 17, none⟩ (w.setCell ⟨b, 22, none⟩ (.pointer (some ⟨b, 22, none⟩))) _ (run_notifyOne (off := 17) (by go_simp) (by go_simp))
  go_enter Yba.func31, Yba.ntmps31
  go_wp2
  go_end0
  exact ⟨rfl, rfl⟩

set_option maxHeartbeats 400000 in
theorem signal31_again (b : Nat) (w : World) (h0 : w.cell? ⟨b, 17, none⟩ = some (.int .u32 0)) (h1 : w.cell? ⟨b, 18, none⟩ = some (.int .u32 0))
    (hc : w.cell? ⟨b, 22, none⟩ = some (.pointer (some ⟨b, 22, none⟩))) :
    Calls Yba.prog 31 #[.pointer (some ⟨b, 16, none⟩)] w fun e w' => e = .returned (.tuple #[]) ∧ w' = w := by
  have k1 := call45 ⟨b, 22, none⟩ w _ (run_check_again hc)
  have k2 := call46 ⟨b, 17, none⟩ w _ (run_notifyOne (off := 17) h0 h1)
  go_enter Yba.func31, Yba.ntmps31
  go_wp2
  go_end0
  exact ⟨rfl, rfl⟩

end Go.Proofs.Ybulkbihy
