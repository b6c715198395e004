/-
  What every world that fits holds at the run-time's table of cleanups (runtime.GOMAXPROCS looks there).
-/
import Derived.Test.YbulkbihkFill
import Derived.HandedShaped
namespace Go.Proofs.Ybulkbihk
open Go.RowKit

def isFin : Obj → Bool
  | .finalizers _ _ => true
  | _ => false

theorem fin_start : ((begin Yba.prog (fun _ _ => 0) default).world.heap[cleanupTable Yba.prog]?).map isFin = some true := by kernel_rfl

theorem fin_of_shaped {W : World} (h : W.ShapedOpen Yba.prog) : ∃ cs rn, W.heap[cleanupTable Yba.prog]? = some (.finalizers cs rn) := by
  have hs := fin_start
  generalize hw : (begin Yba.prog (fun _ _ => 0) default).world = w0 at hs
  have hlt : cleanupTable Yba.prog < w0.heap.size := by
    rcases Nat.lt_or_ge (cleanupTable Yba.prog) w0.heap.size with hlt | hge
    · exact hlt
    · rw [Array.getElem?_eq_none hge] at hs; cases hs
  have h2 := h.2 (cleanupTable Yba.prog) (by unfold cleanupTable; omega)
  rw [hw] at h2
  obtain ⟨o, o0, e1, e2, e3⟩ := h2 hlt
  rw [e2] at hs
  rw [if_pos (by unfold cleanupTable; rw [Nat.add_sub_cancel_left]; rfl)] at e3
  cases o0 with
  | finalizers fs rr =>
    cases o with
    | finalizers cs rn => exact ⟨cs, rn, e1⟩
    | _ => simp [Obj.alike] at e3
  | _ => simp [isFin] at hs

theorem lt_of_cell {w : World} {b off : Nat} {v : Value} (h : w.cell? ⟨b, off, none⟩ = some v) : b < w.heap.size := by
  rcases Nat.lt_or_ge b w.heap.size with hlt | hge
  · exact hlt
  · simp [World.cell?, Array.getElem?_eq_none hge] at h

end Go.Proofs.Ybulkbihk
