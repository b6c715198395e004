/-
  The rows that the two laws fill: a block of n edges, filled edge by edge; their values are no NaN.
-/
import Derived.Test.YbulkbihkSpread
import Derived.OpenShut
namespace Go.Proofs.Ybulkbihk
open Go.RowKit

/-- The value of edge i in both laws: float64(i). -/
def val (i : Nat) : Nat := floatOfInt .f64 (i : Int)

theorem val_ok : ∀ i : Nat, i < 1024 → FloatKind.f64.format.order (val i) (val i) = some .eq := by decide +kernel

theorem run_store_float {P : Program} {w : World} {a : Addr} {m : Mode} (k : FloatKind) (x : Nat) : (store a (.float k x) m).run P w = stored P w a (.float k x) m := run_store P w a _ m rfl

/-- The first m cells of block b are there and may be written. -/
def Room (w : World) (b m : Nat) : Prop := ∀ j, j < m → (∃ u, w.cell? ⟨b, j, none⟩ = some u) ∧ w.frozen? ⟨b, j, none⟩ = false

theorem room_made (w : World) (z : Array Value) (m : Nat) (t : TypeId) : Room (w.alloc (.cells (madeCells z m) t)) w.heap.size m := by
  intro j hj
  refine ⟨?_, by go_simp⟩
  have hs : j < (madeCells z m).size := by rw [size_madeCells]; exact hj
  refine ⟨(madeCells z m)[j], ?_⟩
  rw [cell_of_row _ w.heap.size j _ t (0, 0) (heap_alloc_new w _)]
  exact Array.getElem?_eq_getElem hs

theorem Room.setCell {w : World} {b m : Nat} (h : Room w b m) (a : Addr) (x : Value) : Room (w.setCell a x) b m := by
  intro j hj
  obtain ⟨⟨u, hu⟩, hf⟩ := h j hj
  exact ⟨cell?_setCell_some hu, by rw [World.frozen?_setCell]; exact hf⟩

theorem fill_step {w : World} {b n k : Nat} {r q : Nat → Int} {v : Nat → Nat} (h : Row w b 0 k r q v) (hr : Room w b (n * 3)) (hk : k < n) :
    Row (((w.setCell ⟨b, k * 3, none⟩ (.int .i32 (r k))).setCell ⟨b, k * 3 + 1, none⟩ (.int .i32 (q k))).setCell ⟨b, k * 3 + 2, none⟩ (.float .f64 (v k))) b 0 (k + 1) r q v ∧
    Room (((w.setCell ⟨b, k * 3, none⟩ (.int .i32 (r k))).setCell ⟨b, k * 3 + 1, none⟩ (.int .i32 (q k))).setCell ⟨b, k * 3 + 2, none⟩ (.float .f64 (v k))) b (n * 3) := by
  refine ⟨?_, ((hr.setCell _ _).setCell _ _).setCell _ _⟩
  have far : ∀ (w : World) (j o : Nat) (x : Value), o ≠ j → (w.setCell ⟨b, o, none⟩ x).cell? ⟨b, j, none⟩ = w.cell? ⟨b, j, none⟩ := fun w j o x hne =>
    World.cell?_setCell_other _ _ _ _ (fun e => hne (by injection e))
  intro i hi
  rw [Nat.zero_add]
  by_cases hik : i < k
  · obtain ⟨h0, h1, h2⟩ := h i hik
    rw [Nat.zero_add] at h0 h1 h2
    refine ⟨?_, ?_, ?_⟩
    · rw [far _ _ _ _ (by omega), far _ _ _ _ (by omega), far _ _ _ _ (by omega)]; exact h0
    · rw [far _ _ _ _ (by omega), far _ _ _ _ (by omega), far _ _ _ _ (by omega)]; exact h1
    · rw [far _ _ _ _ (by omega), far _ _ _ _ (by omega), far _ _ _ _ (by omega)]; exact h2
  · obtain rfl : i = k := by omega
    obtain ⟨⟨u0, c0⟩, _⟩ := hr (i * 3) (by omega)
    obtain ⟨⟨u1, c1⟩, _⟩ := hr (i * 3 + 1) (by omega)
    obtain ⟨⟨u2, c2⟩, _⟩ := hr (i * 3 + 2) (by omega)
    refine ⟨?_, ?_, ?_⟩
    · rw [far _ _ _ _ (by omega), far _ _ _ _ (by omega)]; exact World.cell?_setCell_same _ _ _ c0
    · rw [far _ _ _ _ (by omega)]
      exact World.cell?_setCell_same _ _ _ ((far _ _ _ _ (by omega)).trans c1)
    · exact World.cell?_setCell_same _ _ _ (((far _ _ _ _ (by omega)).trans (far _ _ _ _ (by omega))).trans c2)

/-- make([]edge, n), n at most 1024. -/
theorem make24 (w : World) (n : Nat) (hn : n ≤ 1024) :
    (Instr.makeSlice 24 (.int .i64 (n : Int)) (.int .i64 (n : Int))).run Yba.prog w = .ok (.slice (some ⟨w.heap.size, 0, none⟩) n n) (w.alloc (.cells (madeCells #[.int .i32 0, .int .i32 0, .float .f64 0] (n * 3)) 27)) := by
  obtain ⟨i, hi, hz, hs, hby⟩ := info27'
  have h := run_make (P := Yba.prog) w 24 27 i _ Yba.underlying24 hi hz .i64 .i64 (n : Int) (n : Int) (by omega) (Int.le_refl _) (by rw [hby]; omega) (by omega)
  rw [hs, Int.toNat_natCast] at h
  exact h

theorem owned_pieces {w : World} {base m b n : Nat} {pv : Value} {s : Nat → Nat} (h : w.ownsRow base 24 1 pv m (pieces b n s m)) :
    ∃ ga cap, pv = .slice ga m cap ∧ ∀ j, j < m → ∃ g, ga = some ⟨g, 0, none⟩ ∧ g < w.heap.size ∧ w.cell? ⟨g, j, none⟩ = some (piece b n s j) := by
  rcases h.2 with ⟨h1, h2⟩ | ⟨g, cap, cur, h1, h2, h3, h4⟩
  · subst h2
    exact ⟨none, 0, h1, fun j hj => absurd hj (by omega)⟩
  · refine ⟨some ⟨g, 0, none⟩, cap, h1, fun j hj => ⟨g, rfl, ?_, ?_⟩⟩
    · rcases Nat.lt_or_ge g w.heap.size with hlt | hge
      · exact hlt
      · rw [Array.getElem?_eq_none hge] at h3; cases h3
    · have := h.cells (g := g) (by rw [h1]; rfl) j (piece b n s j) (by simp [pieces, hj])
      rwa [add_at, Nat.zero_add] at this

theorem cuts_le {r : Nat → Int} {n m : Nat} {s : Nat → Nat} (h : Cuts r n m s) : ∀ j, j ≤ m → j ≤ s j
  | 0, _ => Nat.zero_le _
  | j + 1, hj => by
    have := cuts_le h j (by omega)
    have := (h.2 j (by omega)).1
    omega

theorem fin_kept {w w' : World} {k : Nat} {o : Obj} (hf : w.heap[k]? = some o) (hb : Below w.heap.size w w') : w'.heap[k]? = some o := by
  rw [hb.block k ?_]
  · exact hf
  · rcases Nat.lt_or_ge k w.heap.size with hlt | hge
    · exact hlt
    · rw [Array.getElem?_eq_none hge] at hf; cases hf

end Go.Proofs.Ybulkbihk
