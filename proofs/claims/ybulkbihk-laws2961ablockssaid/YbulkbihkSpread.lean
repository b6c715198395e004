/-
  spreadParts on at most 1024 shares: one part, its pieces follow one another.
-/
import Derived.Test.YbulkbihkClone
namespace Go.Proofs.Ybulkbihk
open Go.RowKit

/-- The i-th piece of the shares that lie in block b: from cut s i to cut s (i + 1). -/
def piece (b n : Nat) (s : Nat → Nat) (i : Nat) : Value := .slice (some ⟨b, s i * 3, none⟩) (s (i + 1) - s i) (n - s i)
def pieces (b n : Nat) (s : Nat → Nat) (m : Nat) : List Value := (List.range m).map (piece b n s)

/-- The first m cuts. -/
def Cuts (r : Nat → Int) (n m : Nat) (s : Nat → Nat) : Prop :=
  s 0 = 0 ∧ ∀ i, i < m → s i < s (i + 1) ∧ s (i + 1) ≤ n ∧ blk (r (s (i + 1) - 1)) < blk (r (s i)) + 1 ∧ (s (i + 1) < n → blk (r (s i)) + 1 ≤ blk (r (s (i + 1))))

theorem info24 : (Yba.prog.info? 24).map (fun i => (i.zero, i.size, i.bytes)) = some (some (.slice none 0 0), 1, 24) := by kernel_rfl
theorem info24' : ∃ i, Yba.prog.info? 24 = some i ∧ i.zero = some (.slice none 0 0) ∧ i.size = 1 ∧ i.bytes = 24 := by
  have h := info24
  cases hi : Yba.prog.info? 24 with
  | none => rw [hi] at h; cases h
  | some i =>
    rw [hi] at h
    simp only [Option.map_some, Option.some.injEq, Prod.mk.injEq] at h
    exact ⟨i, rfl, h.1, h.2.1, h.2.2⟩

theorem make29 (w : World) : (Instr.makeSlice 29 (.int .i64 1) (.int .i64 1)).run Yba.prog w = .ok (.slice (some ⟨w.heap.size, 0, none⟩) 1 1) (w.alloc (.cells #[.slice none 0 0] 32)) := by kernel_rfl

/-- What spreadParts hands back: one part, in a new block; its pieces. -/
def Parted (b n : Nat) (r : Nat → Int) (w : World) (e : Ending) (w' : World) : Prop :=
  ∃ g pv m s, e = .returned (.slice (some ⟨g, 0, none⟩) 1 1) ∧ w.heap.size ≤ g ∧ g < w'.heap.size ∧ w'.cell? ⟨g, 0, none⟩ = some pv ∧ w'.ownsRow w.heap.size 24 1 pv m (pieces b n s m) ∧
    Cuts r n m s ∧ s m = n ∧ Below w.heap.size w w'

theorem blk_bd {x : Int} (h1 : -2147483648 ≤ x) (h2 : x ≤ 2147483647) : -65536 ≤ wrap32 (x.tdiv 32768) ∧ wrap32 (x.tdiv 32768) ≤ 65535 := by
  have hb : -65536 ≤ x.tdiv 32768 ∧ x.tdiv 32768 ≤ 65535 := by
    rcases Int.le_total 0 x with h | h
    · rw [Int.tdiv_eq_ediv_of_nonneg h]; omega
    · obtain ⟨y, rfl⟩ : ∃ y : Int, x = -y := ⟨-x, by omega⟩
      rw [Int.neg_tdiv, Int.tdiv_eq_ediv_of_nonneg (by omega)]
      omega
  simp only [wrap32]
  omega

theorem ownsRow_below {w w' : World} {base e size n : Nat} {v : Value} {xs : List Value} (h : w.ownsRow base e size v n xs) (hb : Below w.heap.size w w') : w'.ownsRow base e size v n xs := by
  refine ⟨h.1, ?_⟩
  rcases h.2 with ⟨h1, h2⟩ | ⟨g, cap, cur, h1, h2, h3, h4⟩
  · exact .inl ⟨h1, h2⟩
  · refine .inr ⟨g, cap, cur, h1, h2, ?_, h4⟩
    rw [hb.block g ?_]
    · exact h3
    · rcases Nat.lt_or_ge g w.heap.size with hlt | hge
      · exact hlt
      · rw [Array.getElem?_eq_none hge] at h3; cases h3
theorem ownsRow_mono {w : World} {base base' e size n : Nat} {v : Value} {xs : List Value} (h : w.ownsRow base e size v n xs) (hb : base' ≤ base) : w.ownsRow base' e size v n xs := by
  refine ⟨h.1, ?_⟩
  rcases h.2 with ⟨h1, h2⟩ | ⟨g, cap, cur, h1, h2, h4⟩
  · exact .inl ⟨h1, h2⟩
  · exact .inr ⟨g, cap, cur, h1, by omega, h4⟩

theorem kept_far {w1 w2 : World} {o : Obj} {pv : Value} {G : Nat} (hgrow : (w1.alloc o).grownBy w2 pv.ownBlock) (hne : pv.ownBlock ≠ some G) (hlt : G < w1.heap.size) (off : Nat) :
    w2.cell? ⟨G, off, none⟩ = w1.cell? ⟨G, off, none⟩ ∧ w2.frozen? ⟨G, off, none⟩ = w1.frozen? ⟨G, off, none⟩ := by
  have hb : Below w1.heap.size w1 (w1.alloc o) := (Below.refl w1.heap.size w1).alloc (Nat.le_refl _) o
  exact ⟨(hgrow.cell_far ⟨G, off, none⟩ (by simp; omega) (fun h => hne h.symm)).trans (hb.cell (p := ⟨G, off, none⟩) hlt),
    (hgrow.frozen_far ⟨G, off, none⟩ (by simp; omega) (fun h => hne h.symm)).trans (hb.frozen (p := ⟨G, off, none⟩) hlt)⟩

/-- The relation of the loop over the blocks. -/
def SpreadRel (b n : Nat) (r : Nat → Int) (w : World) (st : Value) (wr : World) : Prop :=
  ∃ (start m : Nat) (s : Nat → Nat) (pv : Value), st = .int .i64 start ∧ start ≤ n ∧ wr.cell? ⟨w.heap.size, 0, none⟩ = some pv ∧ wr.frozen? ⟨w.heap.size, 0, none⟩ = false ∧
    wr.ownsRow (w.heap.size + 1) 24 1 pv m (pieces b n s m) ∧ Cuts r n m s ∧ s m = start ∧ m ≤ start ∧ Below w.heap.size w wr ∧ w.heap.size < wr.heap.size

theorem pieces_snoc (b n m start a : Nat) (s : Nat → Nat) (hs : s m = start) :
    pieces b n (fun i => if i ≤ m then s i else start + a) (m + 1) = pieces b n s m ++ [.slice (some ⟨b, start * 3, none⟩) a (n - start)] := by
  unfold pieces
  rw [List.range_succ, List.map_append]
  congr 1
  · refine List.map_congr_left fun i hi => ?_
    have hi' : i < m := List.mem_range.1 hi
    simp only [piece, if_pos (show i ≤ m by omega), if_pos (show i + 1 ≤ m by omega)]
  · simp only [List.map_cons, List.map_nil, piece, if_pos (Nat.le_refl m), if_neg (show ¬ m + 1 ≤ m by omega), hs, Nat.add_sub_cancel_left]

theorem cuts_snoc {r : Nat → Int} {n m start a : Nat} {s : Nat → Nat} (h : Cuts r n m s) (hs : s m = start) (ha : 0 < a) (han : a ≤ n - start) (hlt : start < n)
    (hlo : 0 < a → blk (r (start + (a - 1))) < blk (r start) + 1) (hhi : a < n - start → blk (r start) + 1 ≤ blk (r (start + a))) :
    Cuts r n (m + 1) (fun i => if i ≤ m then s i else start + a) := by
  refine ⟨by simp [h.1], fun i hi => ?_⟩
  by_cases him : i < m
  · simp only [if_pos (show i ≤ m by omega), if_pos (show i + 1 ≤ m by omega)]
    exact h.2 i him
  · obtain rfl : i = m := by omega
    simp only [if_pos (Nat.le_refl i), if_neg (show ¬ i + 1 ≤ i by omega), hs]
    refine ⟨by omega, by omega, ?_, fun h => hhi (by omega)⟩
    rw [show start + a - 1 = start + (a - 1) from by omega]
    exact hlo ha

theorem spread_step {b n m start a g cap : Nat} {r : Nat → Int} {sc : Nat → Nat} {w wr w1 w2 : World} {pv : Value} {o : Obj} (hlt : start < n) (ha : 0 < a) (han : a ≤ n - start)
    (hcuts : Cuts r n m sc) (hsm : sc m = start) (hms : m ≤ start) (hbel : Below w.heap.size w wr) (hsz : w.heap.size < wr.heap.size) (hbel1 : Below wr.heap.size wr w1)
    (hlo : 0 < a → blk (r (start + (a - 1))) < blk (r start) + 1) (hhi : a < n - start → blk (r start) + 1 ≤ blk (r (start + a)))
    (hown : wr.ownsRow (w.heap.size + 1) 24 1 pv m (pieces b n sc m))
    (hown2 : w2.ownsRow (w.heap.size + 1) 24 1 (.slice (some ⟨g, 0, none⟩) (m + 1) cap) (m + 1) (pieces b n sc m ++ [.slice (some ⟨b, start * 3, none⟩) a (n - start)]))
    (hgrow : (w1.alloc o).grownBy w2 pv.ownBlock) (hpv2 : w2.cell? ⟨w.heap.size, 0, none⟩ = some pv) (hfz2 : w2.frozen? ⟨w.heap.size, 0, none⟩ = false) :
    SpreadRel b n r w (.int .i64 ((start : Int) + (a : Int))) (w2.setCell ⟨w.heap.size, 0, none⟩ (.slice (some ⟨g, 0, none⟩) (m + 1) cap)) := by
  have hz1 := hbel1.size
  have hz2 : w1.heap.size + 1 ≤ w2.heap.size := by simpa using hgrow.size
  have hb2 : Below w.heap.size w w2 := by
    refine (((hbel.trans (hbel1.mono (by omega))).alloc (by omega) o).grown hgrow (by simp; omega) ?_)
    intro k hk
    have := (hown.lt k hk).1
    omega
  refine ⟨start + a, m + 1, _, _, by go_num, by omega, World.cell?_setCell_same _ _ _ hpv2, by simpa using hfz2, ?_, cuts_snoc hcuts hsm ha han hlt hlo hhi, ?_, by omega, hb2.setCell (Nat.le_refl _) _, by simp; omega⟩
  · rw [pieces_snoc b n m start a sc hsm]
    exact ownsRow_setCell_below hown2 (by simp) _
  · exact if_neg (by omega)

theorem Row.shift {w : World} {b n : Nat} {r q : Nat → Int} {v : Nat → Nat} (h : Row w b 0 n r q v) (start : Nat) :
    Row w b (start * 3) (n - start) (fun i => r (start + i)) (fun i => q (start + i)) (fun i => v (start + i)) := by
  intro i hi
  have := h (start + i) (by omega)
  rwa [show 0 + (start + i) * 3 = start * 3 + i * 3 from by omega] at this

set_option maxRecDepth 100000 in
set_option maxHeartbeats 1000000 in
theorem spread6 (b n : Nat) (r q : Nat → Int) (v : Nat → Nat) (a1 : Int) (w : World) (hn : n ≤ 1024) (hB : b < w.heap.size) (hrow : Row w b 0 n r q v)
    (hr : ∀ i, i < n → -2147483648 ≤ r i ∧ r i ≤ 2147483647) {cs : Array (Nat × Deferred)} {rn : Option Nat} (hf : w.heap[cleanupTable Yba.prog]? = some (.finalizers cs rn)) :
    Calls Yba.prog 6 #[.slice (some ⟨b, 0, none⟩) n n, .int .i64 a1] w (Parted b n r w) := by
  obtain ⟨i24, hi, hz, hs, hby⟩ := info24'
  have hmp := maxprocs8 hf
  have hmk := make29
  have hq : (n : Int) / 65536 = 0 := by omega
  have hr' := hid hr
  clear hr
  obtain ⟨pr, hpr⟩ : ∃ pr : Int, (w.os.procs : Int) = pr := ⟨_, rfl⟩
  rw [hpr] at hmp
  have hp : pr = 0 ∨ 0 < pr := by omega
  clear hpr
  rcases hp with rfl | hp
  all_goals
    go_enter Yba.func6, Yba.ntmps6
    go_wp2_with fail
    clear hmp hmk hq
    go_loopw [14] (fun st wr => SpreadRel b n r w st wr)
      (fun st _ => n - (intOf st).toNat)
    case atStart =>
      exact ⟨0, 0, fun _ => 0, .slice none 0 0, rfl, Nat.zero_le _, by go_simp, by go_simp, World.ownsRow_nil _ _ _ _, ⟨rfl, fun i hi => absurd hi (by omega)⟩, rfl, Nat.le_refl _, (Below.refl _ _).alloc (Nat.le_refl _) _, by simp⟩
    case round =>
      obtain ⟨start, m, s, pv, rfl, hsn, hpv, hfz, hown, hcuts, hsm, hms, hbel, hsz⟩ := hrel
      have hcuts' := hid hcuts
      have hsm' := hid hsm
      clear hcuts hsm
      by_cases hlt : start < n
      · obtain ⟨c0, _, _⟩ := (hrow.below hbel hB) start hlt
        rw [Nat.zero_add] at c0
        obtain ⟨hb1, hb2⟩ := blk_bd (hr'.out start hlt).1 (hr'.out start hlt).2
        go_wp2_with fail
        refine (search9 b (start * 3) (n - start) (n - start) _ _ _ (wrap32 ((r start).tdiv 32768) + 1) _ (by omega) (by omega) ((hrow.below hbel hB).shift start)).mono ?_
        rintro e w1 ⟨a, fd, rfl, han, hlo, hhi, hbel1⟩
        have ha : 0 < a := by
          rcases Nat.eq_zero_or_pos a with h | h
          · subst h
            have := hhi (by omega)
            simp only [Nat.add_zero, blk] at this
            omega
          · exact h
        have hlo' := hid hlo
        have hhi' := hid hhi
        clear hlo hhi
        have hpv1 : w1.cell? ⟨w.heap.size, 0, none⟩ = some pv := (hbel1.cell (p := ⟨w.heap.size, 0, none⟩) hsz).trans hpv
        have hfz1 : w1.frozen? ⟨w.heap.size, 0, none⟩ = false := (hbel1.frozen (p := ⟨w.heap.size, 0, none⟩) hsz).trans hfz
        go_wp2_with fail
        refine wp_loop_rounds 1 ?_
        rw [rounds_succ]
        go_wp2_with (at_builtin; refine wpList_append_lies _ (by rfl) _ _ 32 (by rfl) (w.heap.size + 1) 24 i24 _ 1 24 Yba.underlying32 hi hz hs hby (by rfl) (by decide) pv m (pieces b n s m) (by rfl) ?_ ⟨w1.heap.size, 0, none⟩ 1 1 [.slice (some ⟨b, start * 3, none⟩) a (n - start)] (by rfl) (by rfl) ?_ ?_ (by decide) ?_ ?_ ?_ _ rfl ?_)
        · exact (ownsRow_below hown hbel1).alloc _
        · intro j u hj
          match j, hj with
          | 0, hj => simp at hj; subst hj; simp [Addr.add]
        · intro u hu; simp at hu; subst hu; rfl
        · unfold maxLen; omega
        · omega
        · have := hbel1.size; simp; omega
        · intro g cap w2 hown2 hgrow hat hlt2
          obtain ⟨k1, k2⟩ := kept_far (G := w.heap.size) hgrow (fun h => by have := (hown.lt _ h).1; omega) (by have := hbel1.size; omega) 0
          rw [hpv1] at k1
          rw [hfz1] at k2
          have hstep := hid (spread_step hlt ha han hcuts'.out hsm'.out hms hbel hsz hbel1 hlo'.out hhi'.out hown hown2 hgrow k1 k2)
          clear hown hown2 hgrow hat hbel hbel1 hrow
          go_wp2_with fail
          go_roundw
          case rel => exact hstep.out
          case measure => simp [intOf]; omega
      · go_wp2_with fail
        go_ret
        obtain rfl : start = n := by omega
        exact ⟨w.heap.size, pv, m, s, rfl, Nat.le_refl _, hsz, hpv, ownsRow_mono hown (by omega), hcuts'.out, hsm'.out, hbel⟩

end Go.Proofs.Ybulkbihk
