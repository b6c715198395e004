/-
  The plain law behind LawS2961ABlocks: where the raters' blocks do not fall, a cut lies just where the block changes.
-/
import Derived.Test.YbulkbihkFill
namespace Go.Proofs.Ybulkbihk
open Go.RowKit

/-- The sum of the first k steps. -/
def RS (D : Nat → Int) : Nat → Int
  | 0 => 0
  | k + 1 => RS D k + D k % 4 * 16384

theorem RS_bd (D : Nat → Int) : ∀ k, 0 ≤ RS D k ∧ RS D k ≤ 49152 * (k : Int)
  | 0 => by simp [RS]
  | k + 1 => by
    have := RS_bd D k
    simp only [RS]
    omega

theorem RS_mono (D : Nat → Int) (i : Nat) : ∀ d, RS D i ≤ RS D (i + d)
  | 0 => Int.le_refl _
  | d + 1 => by
    have := RS_mono D i d
    rw [show i + (d + 1) = (i + d) + 1 from rfl, RS]
    omega

theorem blk_nonneg {x : Int} (h : 0 ≤ x) (h' : x ≤ 2147483647) : blk x = x / 32768 := by
  unfold blk
  rw [Int.tdiv_eq_ediv_of_nonneg h]
  simp only [wrap32]
  omega

theorem blk_RS_mono (D : Nat → Int) (n : Nat) (hn : n ≤ 1024) (i j : Nat) (h : i ≤ j) (hj : j < n) : blk (RS D (i + 1)) ≤ blk (RS D (j + 1)) := by
  have h1 := RS_bd D (i + 1)
  have h2 := RS_bd D (j + 1)
  have h3 := RS_mono D (i + 1) (j - i)
  rw [show i + 1 + (j - i) = j + 1 from by omega] at h3
  rw [blk_nonneg h1.1 (by omega), blk_nonneg h2.1 (by omega)]
  omega

theorem in_piece {r : Nat → Int} {n m : Nat} {s : Nat → Nat} (hc : Cuts r n m s) (hm : ∀ i j, i ≤ j → j < n → blk (r i) ≤ blk (r j)) {j k : Nat} (hj : j < m) (hk1 : s j ≤ k) (hk2 : k < s (j + 1)) : blk (r k) = blk (r (s j)) := by
  obtain ⟨h1, h2, h3, _⟩ := hc.2 j hj
  have a := hm (s j) k hk1 (by omega)
  have b := hm k (s (j + 1) - 1) (by omega) (by omega)
  omega

theorem cut_no {r : Nat → Int} {n m : Nat} {s : Nat → Nat} (hc : Cuts r n m s) (hm : ∀ i j, i ≤ j → j < n → blk (r i) ≤ blk (r j)) {j k : Nat} (hj : j < m) (hk1 : s j ≤ k) (hk2 : k + 1 < s (j + 1)) : blk (r (k + 1)) = blk (r k) := by
  rw [in_piece hc hm hj (k := k + 1) (by omega) hk2, in_piece hc hm hj hk1 (by omega)]

theorem cut_yes {r : Nat → Int} {n m : Nat} {s : Nat → Nat} (hc : Cuts r n m s) (hm : ∀ i j, i ≤ j → j < n → blk (r i) ≤ blk (r j)) {j k : Nat} (hj : j < m) (hk1 : s j ≤ k) (hk2 : k + 1 = s (j + 1)) (hn : k + 1 < n) : blk (r (k + 1)) ≠ blk (r k) := by
  have h := (hc.2 j hj).2.2.2 (by omega)
  rw [← hk2] at h
  have := in_piece hc hm hj hk1 (by omega)
  omega

/-- The bounds that have been gathered when j cuts are passed. -/
def bnds (s : Nat → Nat) (j : Nat) : List Value := (List.range j).map fun t => .int .i64 ((s (t + 1) : Nat) : Int)
theorem bnds_snoc (s : Nat → Nat) (j : Nat) : bnds s (j + 1) = bnds s j ++ [.int .i64 ((s (j + 1) : Nat) : Int)] := by
  simp [bnds, List.range_succ]

theorem owned_bnds {w : World} {base m : Nat} {bv : Value} {s : Nat → Nat} (h : w.ownsRow base 3 1 bv m (bnds s m)) :
    ∃ ba cap, bv = .slice ba m cap ∧ ∀ j, j < m → ∃ g, ba = some ⟨g, 0, none⟩ ∧ g < w.heap.size ∧ w.cell? ⟨g, j, none⟩ = some (.int .i64 ((s (j + 1) : Nat) : Int)) := by
  rcases h.2 with ⟨h1, h2⟩ | ⟨g, cap, cur, h1, h2, h3, h4⟩
  · subst h2
    exact ⟨none, 0, h1, fun j hj => absurd hj (by omega)⟩
  · refine ⟨some ⟨g, 0, none⟩, cap, h1, fun j hj => ⟨g, rfl, ?_, ?_⟩⟩
    · rcases Nat.lt_or_ge g w.heap.size with hlt | hge
      · exact hlt
      · rw [Array.getElem?_eq_none hge] at h3; cases h3
    · have := h.cells (g := g) (by rw [h1]; rfl) j (.int .i64 ((s (j + 1) : Nat) : Int)) (by simp [bnds, hj])
      rwa [add_at, Nat.zero_add] at this

/-- Behind k rounds of the loop that gathers the bounds, j cuts are passed. -/
def At (s : Nat → Nat) (n m k j : Nat) : Prop := s j ≤ k ∧ (k < n → j < m ∧ k < s (j + 1)) ∧ (k = n → j = m)

theorem At.start {r : Nat → Int} {n m : Nat} {s : Nat → Nat} (hc : Cuts r n m s) (hm : s m = n) : At s n m 0 0 := by
  refine ⟨by rw [hc.1]; exact Nat.le_refl _, fun h => ?_, fun h => ?_⟩
  · have h0 : 0 < m := by
      rcases Nat.eq_zero_or_pos m with e | e
      · subst e; rw [hc.1] at hm; omega
      · exact e
    have := (hc.2 0 h0).1
    exact ⟨h0, by omega⟩
  · have := cuts_le hc m (Nat.le_refl _)
    omega

theorem At.stay {r : Nat → Int} {n m k j : Nat} {s : Nat → Nat} (hc : Cuts r n m s) (h : At s n m k j) (hk : k < n) (h' : k + 1 < s (j + 1)) : At s n m (k + 1) j := by
  obtain ⟨h1, h2, _⟩ := h
  obtain ⟨h3, _⟩ := h2 hk
  have := (hc.2 j h3).2.1
  exact ⟨by omega, fun _ => ⟨h3, h'⟩, fun e => by omega⟩

theorem At.next {r : Nat → Int} {n m k j : Nat} {s : Nat → Nat} (hc : Cuts r n m s) (hm : s m = n) (h : At s n m k j) (hk : k < n) (h' : k + 1 = s (j + 1)) : At s n m (k + 1) (j + 1) := by
  obtain ⟨h1, h2, _⟩ := h
  obtain ⟨h3, _⟩ := h2 hk
  refine ⟨by omega, fun hlt => ?_, fun e => ?_⟩
  · have h4 : j + 1 < m := by
      rcases Nat.lt_or_ge (j + 1) m with e | e
      · exact e
      · obtain rfl : m = j + 1 := by omega
        omega
    have := (hc.2 (j + 1) h4).1
    exact ⟨h4, by omega⟩
  · rcases Nat.lt_or_ge (j + 1) m with e' | e'
    · have := (hc.2 (j + 1) e')
      omega
    · omega

theorem bnds_step {w3 w5 w6 : World} {o : Obj} {k j : Nat} {bv bv' : Value} {s : Nat → Nat} (hown5 : w5.ownsRow w3.heap.size 3 1 bv j (bnds s j)) (hbq5 : Below w3.heap.size w3 w5)
    (hown6 : w6.ownsRow w3.heap.size 3 1 bv' (j + 1) (bnds s j ++ [.int .i64 ((k : Int) + 1)])) (hgrow : (w5.alloc o).grownBy w6 bv.ownBlock) (hB : k + 1 = s (j + 1)) :
    w6.ownsRow w3.heap.size 3 1 bv' (j + 1) (bnds s (j + 1)) ∧ Below w3.heap.size w3 w6 := by
  refine ⟨?_, ?_⟩
  · rw [bnds_snoc, ← hB, Int.natCast_add]
    exact hown6
  · refine ((hbq5.alloc hbq5.size o).grown hgrow ?_ ?_)
    · have := hbq5.size
      simp
      omega
    · intro x hx
      exact (hown5.lt x hx).1

theorem info3 : (Yba.prog.info? 3).map (fun i => (i.zero, i.size, i.bytes)) = some (some (.int .i64 0), 1, 8) := by kernel_rfl
theorem info3' : ∃ i, Yba.prog.info? 3 = some i ∧ i.zero = some (.int .i64 0) ∧ i.size = 1 ∧ i.bytes = 8 := by
  have h := info3
  cases hi : Yba.prog.info? 3 with
  | none => rw [hi] at h; cases h
  | some i =>
    rw [hi] at h
    simp only [Option.map_some, Option.some.injEq, Prod.mk.injEq] at h
    exact ⟨i, rfl, h.1, h.2.1, h.2.2⟩

end Go.Proofs.Ybulkbihk
