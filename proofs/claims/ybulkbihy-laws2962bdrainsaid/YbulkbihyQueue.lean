/-
  The queue's methods: len, pop; the pool's Cap, busy, roomToStart, freeSlot.
-/
import Derived.Test.YbulkbihyLeaf
namespace Go.Proofs.Ybulkbihy
open Go.RowKit

set_option maxHeartbeats 400000 in
theorem len9 (p n : Nat) (w : World) (h : w.cell? ⟨p, 27, none⟩ = some (.int .i64 n)) :
    Calls Yba.prog 9 #[.pointer (some ⟨p, 25, none⟩)] w fun e w' => e = .returned (.int .i64 n) ∧ w' = w := by
  go_enter Yba.func9, Yba.ntmps9
  go_wp2
  go_ret
  exact ⟨rfl, rfl⟩

set_option maxHeartbeats 400000 in
theorem cap27 (p : Nat) (cap : Int) (w : World) (h : w.cell? ⟨p, 0, none⟩ = some (.int .i64 cap)) :
    Calls Yba.prog 27 #[.pointer (some ⟨p, 0, none⟩)] w fun e w' => e = .returned (.int .i64 cap) ∧ w' = w := by
  go_enter Yba.func27, Yba.ntmps27
  go_wp2_with fail
  refine (load12 p 0 cap _ h).mono ?_
  rintro e w1 ⟨rfl, rfl⟩
  go_wp2_with fail
  go_ret
  exact ⟨rfl, rfl⟩

set_option maxHeartbeats 400000 in
theorem busy28 (p n : Nat) (inf : Int) (w : World) (h : w.cell? ⟨p, 12, none⟩ = some (.int .i64 inf)) (hn : w.cell? ⟨p, 27, none⟩ = some (.int .i64 n)) :
    Calls Yba.prog 28 #[.pointer (some ⟨p, 0, none⟩)] w fun e w' => e = .returned (.int .i64 (wrap64 (inf - n))) ∧ ∃ m, w' = w.drewN m := by
  go_enter Yba.func28, Yba.ntmps28
  go_wp2_with fail
  go_quiet (first | (go_at_call 12; refine Calls.quiet_of_same (load12 p 12 inf _ ?_); go_simp) | (go_at_call 9; refine Calls.quiet_of_same (len9 p n _ ?_); go_simp))
  go_wp2_with fail
  go_ret
  exact ⟨by rfl, _, rfl⟩

/-- Does the capacity let one more task start? -/
def roomB (cap inf : Int) (n : Nat) : Bool := decide (cap < 0) || decide (wrap64 (inf - n) < cap)

set_option maxHeartbeats 400000 in
theorem room18 (p n : Nat) (cap inf : Int) (w : World) (h0 : w.cell? ⟨p, 0, none⟩ = some (.int .i64 cap)) (h : w.cell? ⟨p, 12, none⟩ = some (.int .i64 inf)) (hn : w.cell? ⟨p, 27, none⟩ = some (.int .i64 n)) :
    Calls Yba.prog 18 #[.pointer (some ⟨p, 0, none⟩)] w fun e w' => e = .returned (.bool (roomB cap inf n)) ∧ ∃ m, w' = w.drewN m := by
  by_cases hc : cap < 0
  · go_enter Yba.func18, Yba.ntmps18
    go_wp2_with fail
    refine (cap27 p cap _ h0).mono ?_
    rintro e w1 ⟨rfl, rfl⟩
    go_wp2_with fail
    go_ret
    exact ⟨by simp [roomB, hc], 0, rfl⟩
  · go_enter Yba.func18, Yba.ntmps18
    go_wp2_with fail
    refine (cap27 p cap _ h0).mono ?_
    rintro e w1 ⟨rfl, rfl⟩
    go_wp2_with fail
    refine (busy28 p n inf _ h hn).mono ?_
    rintro e w1 ⟨rfl, m, rfl⟩
    go_wp2_with fail
    go_ret
    exact ⟨by simp [roomB, show ¬ cap < 0 from by omega], m, rfl⟩

set_option maxHeartbeats 1000000 in
theorem pop19 (p bq size hd n : Nat) (tk x : Int) (w : World) (hpb : ¬ p = bq) (hs : size ≤ 1024) (hh : hd < size) (hn : 0 < n) (hn' : n ≤ 1024)
    (c25 : w.cell? ⟨p, 25, none⟩ = some (.slice (some ⟨bq, 0, none⟩) size size)) (c26 : w.cell? ⟨p, 26, none⟩ = some (.int .i64 hd)) (c27 : w.cell? ⟨p, 27, none⟩ = some (.int .i64 n)) (c28 : w.cell? ⟨p, 28, none⟩ = some (.int .u64 tk))
    (ch : w.cell? ⟨bq, hd, none⟩ = some (.int .i64 x)) (fp : ∀ j, w.frozen? ⟨p, j, none⟩ = false) (fq : ∀ j, w.frozen? ⟨bq, j, none⟩ = false) :
    Calls Yba.prog 19 #[.pointer (some ⟨p, 25, none⟩)] w fun e w' => e = .returned (.int .i64 x) ∧
      ∃ m, w' = (((((w.drewN m).setCell ⟨bq, hd, none⟩ (.int .i64 0)).setCell ⟨p, 26, none⟩ (.int .i64 (((hd + 1) % size : Nat) : Int))).setCell ⟨p, 27, none⟩ (.int .i64 ((n - 1 : Nat) : Int))).setCell ⟨p, 28, none⟩ (.int .u64 (IntKind.u64.wrap (tk + 1)))).drew := by
  have i1 : (0 : Int) ≤ (hd : Int) := by omega
  have i2 : (hd : Int) < (size : Int) := by omega
  go_enter Yba.func19, Yba.ntmps19
  go_wp2_with fail
  go_quiet (fail)
  go_wp2_with fail
  go_region
  go_wp2_with fail
  go_region
  all_goals
    go_wp2_with fail
    go_ret
    exact ⟨rfl, nq + 1, by rw [show ((hd : Int) + 1) % (size : Int) = (((hd + 1) % size : Nat) : Int) from by simp, show (n : Int) - 1 = ((n - 1 : Nat) : Int) from by omega]⟩

/-- The pool as the law built it: block p holds the core, block bq the ring. -/
structure Pool (w : World) (p bq : Nat) (cap run inf : Int) (size : Nat) (T : Nat → Int) (hd n : Nat) (tk : Int) : Prop where
  ne : ¬ p = bq
  c0 : w.cell? ⟨p, 0, none⟩ = some (.int .i64 cap)
  c9 : w.cell? ⟨p, 9, none⟩ = some (.int .i64 run)
  c12 : w.cell? ⟨p, 12, none⟩ = some (.int .i64 inf)
  c17 : w.cell? ⟨p, 17, none⟩ = some (.int .u32 0)
  c18 : w.cell? ⟨p, 18, none⟩ = some (.int .u32 0)
  c22 : w.cell? ⟨p, 22, none⟩ = some (.int .u64 0) ∨ w.cell? ⟨p, 22, none⟩ = some (.pointer (some ⟨p, 22, none⟩))
  c25 : w.cell? ⟨p, 25, none⟩ = some (.slice (some ⟨bq, 0, none⟩) size size)
  c26 : w.cell? ⟨p, 26, none⟩ = some (.int .i64 hd)
  c27 : w.cell? ⟨p, 27, none⟩ = some (.int .i64 n)
  c28 : w.cell? ⟨p, 28, none⟩ = some (.int .u64 tk)
  ring : ∀ i, i < size → w.cell? ⟨bq, i, none⟩ = some (.int .i64 (T i))
  fp : ∀ j, w.frozen? ⟨p, j, none⟩ = false
  fq : ∀ j, w.frozen? ⟨bq, j, none⟩ = false

theorem Pool.drewN {w : World} {p bq : Nat} {cap run inf : Int} {size : Nat} {T : Nat → Int} {hd n : Nat} {tk : Int} (h : Pool w p bq cap run inf size T hd n tk) (m : Nat) : Pool (w.drewN m) p bq cap run inf size T hd n tk :=
  ⟨h.ne, h.c0, h.c9, h.c12, h.c17, h.c18, h.c22, h.c25, h.c26, h.c27, h.c28, h.ring, h.fp, h.fq⟩

/-- The pool behind a task taken. -/
theorem Pool.taken {w : World} {p bq : Nat} {cap run inf : Int} {size : Nat} {T : Nat → Int} {hd n : Nat} {tk : Int} (h : Pool w p bq cap run inf size T hd n tk) (hh : hd < size) (h' n' : Nat) (tk' : Int) :
    Pool (((((w.setCell ⟨bq, hd, none⟩ (.int .i64 0)).setCell ⟨p, 26, none⟩ (.int .i64 (h' : Int))).setCell ⟨p, 27, none⟩ (.int .i64 (n' : Int))).setCell ⟨p, 28, none⟩ (.int .u64 tk')).drew) p bq cap run inf size (fun i => if i = hd then 0 else T i) h' n' tk' := by
  obtain ⟨ne, c0, c9, c12, c17, c18, c22, c25, c26, c27, c28, ring, fp, fq⟩ := h
  have hr := ring hd hh
  have ne' : ¬ bq = p := fun e => ne e.symm
  have far : ∀ (w : World) (a b o j : Nat) (x : Value), ¬ (a = b ∧ o = j) → (w.setCell ⟨a, o, none⟩ x).cell? ⟨b, j, none⟩ = w.cell? ⟨b, j, none⟩ := fun w a b o j x hne =>
    World.cell?_setCell_other _ _ _ _ (fun e => hne (by injection e with e1 e2; exact ⟨e1, e2⟩))
  refine ⟨ne, ?_, ?_, ?_, ?_, ?_, ?_, ?_, ?_, ?_, ?_, ?_, ?_, ?_⟩
  · go_simp
  · go_simp
  · go_simp
  · go_simp
  · go_simp
  · rcases c22 with c | c
    · left; go_simp
    · right; go_simp
  · go_simp
  · go_simp
  · go_simp
  · go_simp
  · intro i hi
    show World.cell? _ _ = _
    rw [World.cell?_drew, far _ _ _ _ _ _ (fun e => ne e.1), far _ _ _ _ _ _ (fun e => ne e.1), far _ _ _ _ _ _ (fun e => ne e.1)]
    by_cases e : i = hd
    · subst e
      rw [if_pos rfl]
      exact World.cell?_setCell_same _ _ _ hr
    · rw [if_neg e, far _ _ _ _ _ _ (fun x => e x.2.symm)]
      exact ring i hi
  · intro j
    have := fp j
    go_simp
  · intro j
    have := fq j
    go_simp

theorem Pool.ran {w : World} {p bq : Nat} {cap run inf : Int} {size : Nat} {T : Nat → Int} {hd n : Nat} {tk : Int} (h : Pool w p bq cap run inf size T hd n tk) (r : Int) :
    Pool (w.setCell ⟨p, 9, none⟩ (.int .i64 r)) p bq cap r inf size T hd n tk := by
  obtain ⟨ne, c0, c9, c12, c17, c18, c22, c25, c26, c27, c28, ring, fp, fq⟩ := h
  refine ⟨ne, ?_, ?_, ?_, ?_, ?_, ?_, ?_, ?_, ?_, ?_, ?_, ?_, ?_⟩
  · go_simp
  · go_simp
  · go_simp
  · go_simp
  · go_simp
  · rcases c22 with c | c
    · left; go_simp
    · right; go_simp
  · go_simp
  · go_simp
  · go_simp
  · go_simp
  · intro i hi
    rw [World.cell?_setCell_other _ _ _ _ (fun e => ne (by injection e))]
    exact ring i hi
  · intro j
    have := fp j
    go_simp
  · intro j
    have := fq j
    go_simp

theorem Pool.signalled {w : World} {p bq : Nat} {cap run inf : Int} {size : Nat} {T : Nat → Int} {hd n : Nat} {tk : Int} (h : Pool w p bq cap run inf size T hd n tk) :
    Pool (w.setCell ⟨p, 22, none⟩ (.pointer (some ⟨p, 22, none⟩))) p bq cap run inf size T hd n tk := by
  obtain ⟨ne, c0, c9, c12, c17, c18, c22, c25, c26, c27, c28, ring, fp, fq⟩ := h
  refine ⟨ne, ?_, ?_, ?_, ?_, ?_, ?_, ?_, ?_, ?_, ?_, ?_, ?_, ?_⟩
  · go_simp
  · go_simp
  · go_simp
  · go_simp
  · go_simp
  · right
    rcases c22 with c | c <;> exact World.cell?_setCell_same _ _ _ c
  · go_simp
  · go_simp
  · go_simp
  · go_simp
  · intro i hi
    rw [World.cell?_setCell_other _ _ _ _ (fun e => ne (by injection e))]
    exact ring i hi
  · intro j
    have := fp j
    go_simp
  · intro j
    have := fq j
    go_simp

set_option maxHeartbeats 400000 in
theorem free24 {w : World} {p bq : Nat} {cap run inf : Int} {size : Nat} {T : Nat → Int} {hd n : Nat} {tk : Int} (B : Nat) (hB : B ≤ p) (h : Pool w p bq cap run inf size T hd n tk) :
    Calls Yba.prog 24 #[.pointer (some ⟨p, 0, none⟩)] w fun e w' => e = .returned (.tuple #[]) ∧ Pool w' p bq cap (wrap64 (run + -1)) inf size T hd n tk ∧ Below B w w' := by
  have h2 := h.ran (wrap64 (run + -1))
  have f9 := h.fp 9
  have c9 := h.c9
  have hb : Below B w (w.setCell ⟨p, 9, none⟩ (.int .i64 (wrap64 (run + -1)))) := (Below.refl _ _).setCell hB _
  go_enter Yba.func24, Yba.ntmps24
  go_wp2_with fail
  refine (add30 p 9 run (-1) _ c9 f9).mono ?_
  rintro e w1 ⟨rfl, rfl⟩
  generalize w.setCell ⟨p, 9, none⟩ (.int .i64 (wrap64 (run + -1))) = w2 at *
  go_wp2_with fail
  rcases h2.c22 with c | c
  · refine (signal31_first p _ h2.c17 h2.c18 c (h2.fp 22)).mono ?_
    rintro e w3 ⟨rfl, rfl⟩
    go_wp2_with fail
    go_end0
    exact ⟨rfl, h2.signalled, hb.setCell hB _⟩
  · refine (signal31_again p _ h2.c17 h2.c18 c).mono ?_
    rintro e w3 ⟨rfl, rfl⟩
    go_wp2_with fail
    go_end0
    exact ⟨rfl, h2, hb⟩

set_option maxHeartbeats 1000000 in
theorem deq14_no {w : World} {p bq : Nat} {cap run inf : Int} {size : Nat} {T : Nat → Int} {hd n : Nat} {tk : Int} (h : Pool w p bq cap run inf size T hd n tk) (hno : n = 0 ∨ roomB cap inf n = false) :
    Calls Yba.prog 14 #[.pointer (some ⟨p, 0, none⟩)] w fun e w' => e = .returned (.tuple #[.int .i64 0, .bool false]) ∧ ∃ m, w' = w.drewN m := by
  by_cases hn : n = 0
  · have h0 : ((n : Int) == 0) = true := by rw [beq_iff_eq]; omega
    go_enter Yba.func14, Yba.ntmps14
    go_wp2_with fail
    refine (len9 p n _ h.c27).mono ?_
    rintro e w1 ⟨rfl, rfl⟩
    go_wp2_with fail
    go_ret2
    exact ⟨rfl, 0, rfl⟩
  · have h0 : ((n : Int) == 0) = false := by rw [beq_eq_false_iff_ne]; omega
    have hr : roomB cap inf n = false := by
      rcases hno with e | e
      · exact absurd e hn
      · exact e
    go_enter Yba.func14, Yba.ntmps14
    go_wp2_with fail
    refine (len9 p n _ h.c27).mono ?_
    rintro e w1 ⟨rfl, rfl⟩
    go_wp2_with fail
    refine (room18 p n cap inf _ h.c0 h.c12 h.c27).mono ?_
    rintro e w1 ⟨rfl, m, rfl⟩
    rw [hr]
    go_wp2_with fail
    go_ret2
    exact ⟨rfl, m, rfl⟩

set_option maxHeartbeats 1000000 in
theorem deq14_yes {w : World} {p bq : Nat} {cap run inf : Int} {size : Nat} {T : Nat → Int} {hd n : Nat} {tk : Int} (B : Nat) (hB : B ≤ p) (hB' : B ≤ bq) (h : Pool w p bq cap run inf size T hd n tk)
    (hs : size ≤ 1024) (hh : hd < size) (hn : 0 < n) (hn' : n ≤ 1024) (hr : roomB cap inf n = true) :
    Calls Yba.prog 14 #[.pointer (some ⟨p, 0, none⟩)] w fun e w' => e = .returned (.tuple #[.int .i64 (T hd), .bool true]) ∧
      Pool w' p bq cap (wrap64 (run + -1)) inf size (fun i => if i = hd then 0 else T i) ((hd + 1) % size) (n - 1) (IntKind.u64.wrap (tk + 1)) ∧ Below B w w' := by
  have h0 : ((n : Int) == 0) = false := by rw [beq_eq_false_iff_ne]; omega
  go_enter Yba.func14, Yba.ntmps14
  go_wp2_with fail
  refine (len9 p n _ h.c27).mono ?_
  rintro e wa ⟨rfl, rfl⟩
  go_wp2_with fail
  refine (room18 p n cap inf _ h.c0 h.c12 h.c27).mono ?_
  rintro e w1 ⟨rfl, m, rfl⟩
  rw [hr]
  have h1 := h.drewN m
  have hb1 : Below B wa (wa.drewN m) := below_drewN (Below.refl _ _) m
  generalize wa.drewN m = w1 at *
  go_wp2_with fail
  refine (pop19 p bq size hd n tk (T hd) _ h1.ne hs hh hn hn' h1.c25 h1.c26 h1.c27 h1.c28 (h1.ring hd hh) h1.fp h1.fq).mono ?_
  rintro e w2 ⟨rfl, mm, rfl⟩
  have h2 := (h1.drewN mm).taken hh ((hd + 1) % size) (n - 1) (IntKind.u64.wrap (tk + 1))
  have hb2 : Below B wa (((((w1.drewN mm).setCell ⟨bq, hd, none⟩ (.int .i64 0)).setCell ⟨p, 26, none⟩ (.int .i64 (((hd + 1) % size : Nat) : Int))).setCell ⟨p, 27, none⟩ (.int .i64 ((n - 1 : Nat) : Int))).setCell ⟨p, 28, none⟩ (.int .u64 (IntKind.u64.wrap (tk + 1)))).drew :=
    (((((below_drewN hb1 mm).setCell hB' _).setCell hB _).setCell hB _).setCell hB _).drew
  generalize (((((w1.drewN mm).setCell ⟨bq, hd, none⟩ (.int .i64 0)).setCell ⟨p, 26, none⟩ (.int .i64 (((hd + 1) % size : Nat) : Int))).setCell ⟨p, 27, none⟩ (.int .i64 ((n - 1 : Nat) : Int))).setCell ⟨p, 28, none⟩ (.int .u64 (IntKind.u64.wrap (tk + 1)))).drew = w2 at *
  go_wp2_with fail
  refine (free24 B hB h2).mono ?_
  rintro e w3 ⟨rfl, h3, hb3⟩
  go_wp2_with fail
  go_ret2
  exact ⟨rfl, h3, hb2.trans hb3⟩

end Go.Proofs.Ybulkbihy
