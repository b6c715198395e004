/-
  THE MIDDLE of the roads of LawS2954BEnd and LawS2954BTwice: share, at, add, end.
-/
import Derived.Test.YbulkbidqLeaf
import Derived.BigQuiet
import Derived.Deep.QuietTactic
import Derived.Deep.RegionHeld3
import Derived.Deep.RegionWith
namespace Go.Proofs.Ybulkbidq
open Go.RowKit

/-- A fill's share: the larger of the body's count and its stated room, plus the entry's room, as int64 adds. -/
def share (c br er : Int) : Int := wrap64 ((if c < br then br else c) + er)
theorem share_hi {c br er : Int} (h : c < br) : Ending.returned (.int .i64 (wrap64 (br + er))) = .returned (.int .i64 (share c br er)) := by
  rw [share, if_pos h]
theorem share_lo {c br er : Int} (h : br ≤ c) : Ending.returned (.int .i64 (wrap64 (c + er))) = .returned (.int .i64 (share c br er)) := by
  rw [share, if_neg (by omega)]

set_option maxHeartbeats 400000 in
theorem share7 (c br er : Int) (w : World) :
    Calls Yba.prog 7 #[.int .i64 c, .int .i64 br, .int .i64 er] w fun e w' => e = .returned (.int .i64 (share c br er)) ∧ w' = w := by
  by_cases h : c < br
  · go_enter Yba.func7, Yba.ntmps7
    go_wp2
    go_ret
    exact ⟨share_hi h, rfl⟩
  · go_enter Yba.func7, Yba.ntmps7
    go_wp2
    go_ret
    exact ⟨share_lo h, rfl⟩

set_option maxHeartbeats 400000 in
theorem at10 (b : Nat) (c br er : Int) (w : World) (h3 : w.cell? ⟨b, 3, none⟩ = some (.int .i64 br)) (h4 : w.cell? ⟨b, 4, none⟩ = some (.int .i64 er)) :
    Calls Yba.prog 10 #[.pointer (some ⟨b, 0, none⟩), .int .i64 c] w fun e w' => e = .returned (.int .i64 (share c br er)) ∧ w' = w.drew := by
  by_cases h : c < br
  · go_enter Yba.func10, Yba.ntmps10
    go_wp2
    go_region
    all_goals
      go_wp2
      go_ret
      exact ⟨share_hi h, rfl⟩
  · go_enter Yba.func10, Yba.ntmps10
    go_wp2
    go_region
    all_goals
      go_wp2
      go_ret
      exact ⟨share_lo h, rfl⟩

set_option maxHeartbeats 400000 in
theorem add11_first (bl bc : Nat) (sz lent : Int) (w : World)
    (hl : w.cell? ⟨bl, 0, none⟩ = some (.int .i64 0)) (fl : w.frozen? ⟨bl, 0, none⟩ = false)
    (hc : w.cell? ⟨bc, 1, none⟩ = some (.int .i64 lent)) (fc : w.frozen? ⟨bc, 1, none⟩ = false) :
    Calls Yba.prog 11 #[.pointer (some ⟨bl, 0, none⟩), .pointer (some ⟨bc, 0, none⟩), .int .i64 sz] w fun e w' =>
      e = .returned (.tuple #[]) ∧ w' = (w.setCell ⟨bl, 0, none⟩ (.int .i64 1)).setCell ⟨bc, 1, none⟩ (.int .i64 (wrap64 (lent + sz))) := by
  go_enter Yba.func11, Yba.ntmps11
  go_wp2_with fail
  refine (add13 bl 0 0 1 _ hl fl).mono ?_
  rintro e w1 ⟨rfl, rfl⟩
  rw [show wrap64 (0 + 1) = 1 from by simp only [wrap64]; omega]
  go_wp2_with fail
  refine (add13 bc 1 lent sz _ (by go_simp) (by go_simp)).mono ?_
  rintro e w1 ⟨rfl, rfl⟩
  go_wp2_with fail
  go_end0
  exact ⟨rfl, rfl⟩

set_option maxHeartbeats 400000 in
theorem add11_more (bl bc : Nat) (sz n : Int) (w : World) (hn : (wrap64 (n + 1) == 1) = false)
    (hl : w.cell? ⟨bl, 0, none⟩ = some (.int .i64 n)) (fl : w.frozen? ⟨bl, 0, none⟩ = false) :
    Calls Yba.prog 11 #[.pointer (some ⟨bl, 0, none⟩), .pointer (some ⟨bc, 0, none⟩), .int .i64 sz] w fun e w' =>
      e = .returned (.tuple #[]) ∧ w' = w.setCell ⟨bl, 0, none⟩ (.int .i64 (wrap64 (n + 1))) := by
  go_enter Yba.func11, Yba.ntmps11
  go_wp2_with fail
  refine (add13 bl 0 n 1 _ hl fl).mono ?_
  rintro e w1 ⟨rfl, rfl⟩
  go_wp2_with fail
  go_end0
  exact ⟨rfl, rfl⟩

set_option maxHeartbeats 1000000 in
theorem end6_more (bs bc bn bl : Nat) (cnt br er recv n : Int) (w : World) (hcs : ¬ bc = bs) (hcn : ¬ bc = bn) (hcl : ¬ bc = bl) (hn : (wrap64 (n + 1) == 1) = false)
    (s0 : w.cell? ⟨bs, 0, none⟩ = some (.pointer (some ⟨bc, 0, none⟩))) (s1 : w.cell? ⟨bs, 1, none⟩ = some (.pointer (some ⟨bn, 0, none⟩))) (s2 : w.cell? ⟨bs, 2, none⟩ = some (.pointer (some ⟨bl, 0, none⟩)))
    (s3 : w.cell? ⟨bs, 3, none⟩ = some (.int .i64 br)) (s4 : w.cell? ⟨bs, 4, none⟩ = some (.int .i64 er))
    (c0 : w.cell? ⟨bc, 0, none⟩ = some (.int .i64 recv)) (f0 : w.frozen? ⟨bc, 0, none⟩ = false)
    (n0 : w.cell? ⟨bn, 0, none⟩ = some (.int .i64 cnt))
    (l0 : w.cell? ⟨bl, 0, none⟩ = some (.int .i64 n)) (fl : w.frozen? ⟨bl, 0, none⟩ = false) :
    Calls Yba.prog 6 #[.pointer (some ⟨bs, 0, none⟩)] w fun e w' =>
      e = .returned (.tuple #[]) ∧ w' = ((w.setCell ⟨bc, 0, none⟩ (.int .i64 (wrap64 (recv - share cnt br er)))).setCell ⟨bl, 0, none⟩ (.int .i64 (wrap64 (n + 1)))).drew.drew.drew := by
  go_enter Yba.func6, Yba.ntmps6
  go_wp2_with fail
  go_region_with (go_at_call 10; refine (at10 bs cnt br er _ ?_ ?_).mono ?_; go_simp; go_simp; rintro e w' ⟨rfl, rfl⟩)
  all_goals
    go_wp2_with fail
    go_region_with (go_at_call 11; refine (add11_more bl bc cnt n _ hn ?_ ?_).mono ?_; go_simp; go_simp; rintro e w' ⟨rfl, rfl⟩)
    all_goals
      go_wp2_with fail
      go_end0
      exact ⟨rfl, by rw [IntWalk.i64_left]⟩

set_option maxHeartbeats 1000000 in
theorem end6_first (bs bc bn bl : Nat) (cnt br er recv lent : Int) (w : World) (hcs : ¬ bc = bs) (hcl : ¬ bc = bl)
    (s0 : w.cell? ⟨bs, 0, none⟩ = some (.pointer (some ⟨bc, 0, none⟩))) (s1 : w.cell? ⟨bs, 1, none⟩ = some (.pointer (some ⟨bn, 0, none⟩))) (s2 : w.cell? ⟨bs, 2, none⟩ = some (.pointer (some ⟨bl, 0, none⟩)))
    (s3 : w.cell? ⟨bs, 3, none⟩ = some (.int .i64 br)) (s4 : w.cell? ⟨bs, 4, none⟩ = some (.int .i64 er))
    (c0 : w.cell? ⟨bc, 0, none⟩ = some (.int .i64 recv)) (f0 : w.frozen? ⟨bc, 0, none⟩ = false)
    (c1 : w.cell? ⟨bc, 1, none⟩ = some (.int .i64 lent)) (f1 : w.frozen? ⟨bc, 1, none⟩ = false)
    (n0 : w.cell? ⟨bn, 0, none⟩ = some (.int .i64 cnt))
    (l0 : w.cell? ⟨bl, 0, none⟩ = some (.int .i64 0)) (fl : w.frozen? ⟨bl, 0, none⟩ = false) :
    Calls Yba.prog 6 #[.pointer (some ⟨bs, 0, none⟩)] w fun e w' =>
      e = .returned (.tuple #[]) ∧ w' = (((w.setCell ⟨bc, 0, none⟩ (.int .i64 (wrap64 (recv - share cnt br er)))).setCell ⟨bl, 0, none⟩ (.int .i64 1)).setCell ⟨bc, 1, none⟩ (.int .i64 (wrap64 (lent + cnt)))).drew.drew.drew := by
  go_enter Yba.func6, Yba.ntmps6
  go_wp2_with fail
  go_region_with (go_at_call 10; refine (at10 bs cnt br er _ ?_ ?_).mono ?_; go_simp; go_simp; rintro e w' ⟨rfl, rfl⟩)
  all_goals
    go_wp2_with fail
    go_region_with (go_at_call 11; refine (add11_first bl bc cnt lent _ ?_ ?_ ?_ ?_).mono ?_; go_simp; go_simp; go_simp; go_simp; rintro e w' ⟨rfl, rfl⟩)
    all_goals
      go_wp2_with fail
      go_end0
      exact ⟨rfl, by rw [IntWalk.i64_left]⟩

end Go.Proofs.Ybulkbidq
