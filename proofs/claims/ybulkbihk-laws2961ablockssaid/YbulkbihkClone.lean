/-
  A row of edges as a list of cells; slices.Clone of a row of edges.
-/
import Derived.Test.YbulkbihkEqual
import Derived.Deep.AppendLies
namespace Go.Proofs.Ybulkbihk
open Go.RowKit

/-- Cell j of a row of edges. -/
def rowCell (r q : Nat → Int) (v : Nat → Nat) (j : Nat) : Value :=
  if j % 3 = 0 then .int .i32 (r (j / 3)) else if j % 3 = 1 then .int .i32 (q (j / 3)) else .float .f64 (v (j / 3))

theorem rowCell0 (r q : Nat → Int) (v : Nat → Nat) (i : Nat) : rowCell r q v (i * 3) = .int .i32 (r i) := by
  rw [rowCell, if_pos (by omega), show i * 3 / 3 = i from by omega]
theorem rowCell1 (r q : Nat → Int) (v : Nat → Nat) (i : Nat) : rowCell r q v (i * 3 + 1) = .int .i32 (q i) := by
  rw [rowCell, if_neg (by omega), if_pos (by omega), show (i * 3 + 1) / 3 = i from by omega]
theorem rowCell2 (r q : Nat → Int) (v : Nat → Nat) (i : Nat) : rowCell r q v (i * 3 + 2) = .float .f64 (v i) := by
  rw [rowCell, if_neg (by omega), if_neg (by omega), show (i * 3 + 2) / 3 = i from by omega]

theorem Row.at {w : World} {b off n : Nat} {r q : Nat → Int} {v : Nat → Nat} (h : Row w b off n r q v) (j : Nat) (hj : j < n * 3) : w.cell? ⟨b, off + j, none⟩ = some (rowCell r q v j) := by
  obtain ⟨h0, h1, h2⟩ := h (j / 3) (by omega)
  have hc : j = j / 3 * 3 ∨ j = j / 3 * 3 + 1 ∨ j = j / 3 * 3 + 2 := by omega
  rcases hc with e | e | e <;> rw [e]
  · rw [rowCell0]; exact h0
  · rw [rowCell1, ← Nat.add_assoc]; exact h1
  · rw [rowCell2, ← Nat.add_assoc]; exact h2

theorem Row.of {w : World} {b off n : Nat} {r q : Nat → Int} {v : Nat → Nat} (h : ∀ j, j < n * 3 → w.cell? ⟨b, off + j, none⟩ = some (rowCell r q v j)) : Row w b off n r q v := by
  intro i hi
  have h0 := h (i * 3) (by omega)
  have h1 := h (i * 3 + 1) (by omega)
  have h2 := h (i * 3 + 2) (by omega)
  rw [rowCell0] at h0
  rw [rowCell1, ← Nat.add_assoc] at h1
  rw [rowCell2, ← Nat.add_assoc] at h2
  exact ⟨h0, h1, h2⟩

/-- The cells of a row of n edges. -/
def flat (r q : Nat → Int) (v : Nat → Nat) (n : Nat) : List Value := (List.range (n * 3)).map (rowCell r q v)
theorem flat_length (r q : Nat → Int) (v : Nat → Nat) (n : Nat) : (flat r q v n).length = n * 3 := by simp [flat]
theorem flat_at (r q : Nat → Int) (v : Nat → Nat) (n j : Nat) (hj : j < n * 3) : (flat r q v n)[j]? = some (rowCell r q v j) := by
  simp [flat, hj]
theorem flat_at' {r q : Nat → Int} {v : Nat → Nat} {n j : Nat} {u : Value} (h : (flat r q v n)[j]? = some u) : j < n * 3 ∧ u = rowCell r q v j := by
  have hl : j < n * 3 := by
    have := (List.getElem?_eq_some_iff.1 h).1
    rwa [flat_length] at this
  rw [flat_at r q v n j hl] at h
  exact ⟨hl, (Option.some.inj h).symm⟩
theorem add_at (b off j : Nat) : (⟨b, off, none⟩ : Addr).add j = ⟨b, off + j, none⟩ := by unfold Addr.add; split <;> simp_all

theorem rowCell_one (r q : Nat → Int) (v : Nat → Nat) (j : Nat) : (rowCell r q v j).oneCell' = true := by
  unfold rowCell
  split
  · rfl
  · split <;> rfl

theorem info27 : (Yba.prog.info? 27).map (fun i => (i.zero, i.size, i.bytes)) = some (some (.agg #[.int .i32 0, .int .i32 0, .float .f64 0]), 3, 16) := by kernel_rfl
theorem info27' : ∃ i, Yba.prog.info? 27 = some i ∧ i.zero = some (.agg #[.int .i32 0, .int .i32 0, .float .f64 0]) ∧ i.size = 3 ∧ i.bytes = 16 := by
  have h := info27
  cases hi : Yba.prog.info? 27 with
  | none => rw [hi] at h; cases h
  | some i =>
    rw [hi] at h
    simp only [Option.map_some, Option.some.injEq, Prod.mk.injEq] at h
    exact ⟨i, rfl, h.1, h.2.1, h.2.2⟩

set_option maxHeartbeats 1000000 in
theorem clone5 (b n : Nat) (r q : Nat → Int) (v : Nat → Nat) (w : World) (hn : n ≤ 1024) (h : Row w b 0 n r q v) (hB : b < w.heap.size) :
    Calls Yba.prog 5 #[.slice (some ⟨b, 0, none⟩) n n] w fun e w' =>
      ∃ g cap, e = .returned (.slice (some ⟨g, 0, none⟩) n cap) ∧ w.heap.size ≤ g ∧ g < w'.heap.size ∧ Row w' g 0 n r q v ∧ Below w.heap.size w w' := by
  obtain ⟨i, hi, hz, hs, hby⟩ := info27'
  have hnil := fun (wx : World) => Lib.run_eql_slice_nil (P := Yba.prog) wx 24 27 (some ⟨b, 0, none⟩) n n 0 0 Yba.underlying24
  by_cases h0 : n = 0
  · subst h0
    go_enter Yba.func5, Yba.ntmps5
    go_wp2_with fail
    go_ret
    exact ⟨w.heap.size, 0, rfl, Nat.le_refl _, by simp, fun i hi => absurd hi (by omega), (Below.refl _ _).alloc (Nat.le_refl _) _⟩
  · go_enter Yba.func5, Yba.ntmps5
    go_wp2_with (at_builtin; refine wpList_append_lies _ (by rfl) _ _ 24 (by rfl) w.heap.size 27 i _ 3 16 Yba.underlying24 hi hz hs hby (by rfl) (by decide) (.slice (some ⟨w.heap.size, 0, none⟩) 0 0) 0 [] (by rfl) ?hown ⟨b, 0, none⟩ n n (flat r q v n) (by rfl) (flat_length r q v n) ?hnews ?hone (by omega) ?h63 ?hbytes ?hbase _ rfl ?_)
    case hown => exact World.ownsRow_made w #[] 0 (Nat.le_refl _) (by unfold maxLen; omega) rfl
    case hnews =>
      intro j u hu
      obtain ⟨hj, rfl⟩ := flat_at' hu
      rw [add_at]
      exact ((Below.refl w.heap.size w).alloc (Nat.le_refl _) _).cell (p := ⟨b, 0 + j, none⟩) hB |>.trans (h.at j hj)
    case hone =>
      intro u hu
      obtain ⟨j, hj⟩ := List.mem_iff_getElem?.1 hu
      obtain ⟨_, rfl⟩ := flat_at' hj
      exact rowCell_one _ _ _ _
    case h63 => unfold maxLen; omega
    case hbytes => omega
    case hbase => simp
    · intro g cap w1 hown hgrow hat hlt
      go_wp2_with fail
      go_ret
      refine ⟨g, cap, rfl, ?_, hlt, ?_, ?_⟩
      · rcases hat with hat | hat
        · simp [Value.ownBlock] at hat; omega
        · omega
      · refine Row.of fun j hj => ?_
        have := hown.cells (g := g) rfl j _ (flat_at r q v n j hj)
        rwa [add_at] at this
      · exact (((Below.refl w.heap.size w).alloc (Nat.le_refl _) _).grown hgrow (by simp) (fun k hk => by simp [Value.ownBlock] at hk; omega))

end Go.Proofs.Ybulkbihk
