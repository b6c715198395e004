/-
  The plain law behind LawS2962BDrain: a full ring that is emptied from its head on.
-/
import Derived.Test.YbulkbihyBuild
namespace Go.Proofs.Ybulkbihy
open Go.RowKit

/-- The ring's cells when i tasks have been taken. -/
def TT (T : Nat → Int) (hd size : Nat) : Nat → Nat → Int
  | 0, j => T j
  | i + 1, j => if j = (hd + i) % size then 0 else TT T hd size i j

theorem TT_keep (T : Nat → Int) (hd size j : Nat) : ∀ i, (∀ t, t < i → j ≠ (hd + t) % size) → TT T hd size i j = T j
  | 0, _ => rfl
  | i + 1, h => by
    rw [TT, if_neg (h i (by omega))]
    exact TT_keep T hd size j i fun t ht => h t (by omega)

theorem TT_clear (T : Nat → Int) (hd size j : Nat) : ∀ i, (∃ t, t < i ∧ j = (hd + t) % size) → TT T hd size i j = 0
  | 0, ⟨t, ht, _⟩ => absurd ht (by omega)
  | i + 1, ⟨t, ht, e⟩ => by
    rw [TT]
    split
    · rfl
    · rename_i hne
      refine TT_clear T hd size j i ⟨t, ?_, e⟩
      rcases Nat.lt_or_ge t i with h | h
      · exact h
      · obtain rfl : t = i := by omega
        exact absurd e hne

theorem TT_next (T : Nat → Int) (hd size i : Nat) (hi : i < size) : TT T hd size i ((hd + i) % size) = T ((hd + i) % size) := by
  refine TT_keep T hd size _ i fun t ht e => ?_
  have h := Nat.sub_mod_eq_zero_of_mod_eq e
  rw [show hd + i - (hd + t) = i - t from by omega, Nat.mod_eq_of_lt (by omega)] at h
  omega

theorem TT_end (T : Nat → Int) (hd size j : Nat) (hh : hd < size) (hj : j < size) : TT T hd size size j = 0 := by
  refine TT_clear T hd size j size ?_
  by_cases h : hd ≤ j
  · exact ⟨j - hd, by omega, by rw [show hd + (j - hd) = j from by omega, Nat.mod_eq_of_lt hj]⟩
  · exact ⟨j + size - hd, by omega, by rw [show hd + (j + size - hd) = j + size from by omega, Nat.add_mod_right, Nat.mod_eq_of_lt hj]⟩

theorem Pool.setN {w : World} {p bq : Nat} {cap run inf : Int} {size : Nat} {T : Nat → Int} {hd n : Nat} {tk : Int} (h : Pool w p bq cap run inf size T hd n tk) (n' : Nat) :
    Pool (w.setCell ⟨p, 27, none⟩ (.int .i64 (n' : Int))) p bq cap run inf size T hd n' tk := by
  obtain ⟨ne, c0, c9, c12, c17, c18, c22, c25, c26, c27, c28, ring, fp, fq⟩ := h
  refine ⟨ne, ?_, ?_, ?_, ?_, ?_, ?_, ?_, ?_, ?_, ?_, ?_, ?_, ?_⟩
  · go_simp
  · go_simp
  · go_simp
  · go_simp
  · go_simp
  · rcases c22 with c | c
    · left; go_simp
    · right; go_simp
  · go_simp
  · go_simp
  · go_simp
  · go_simp
  · intro i hi
    rw [World.cell?_setCell_other _ _ _ _ (fun e => ne (by injection e))]
    exact ring i hi
  · intro j
    have := fp j
    go_simp
  · intro j
    have := fq j
    go_simp

/-- The pool behind i rounds. -/
def Drained (w : World) (p bq size : Nat) (T : Nat → Int) (hd i : Nat) : Prop :=
  Pool w p bq (-1) (((size - i : Nat) : Int)) (size : Int) size (TT T hd size i) ((hd + i) % size) (size - i) (i : Int)

theorem Drained.next {w : World} {p bq size : Nat} {T : Nat → Int} {hd i : Nat} (hi : i < size) (hs : size ≤ 1024)
    (h : Pool w p bq (-1) (wrap64 (((size - i : Nat) : Int) + -1)) (size : Int) size (fun j => if j = (hd + i) % size then 0 else TT T hd size i j) (((hd + i) % size + 1) % size) (size - i - 1) (IntKind.u64.wrap ((i : Int) + 1))) :
    Drained w p bq size T hd (i + 1) := by
  unfold Drained
  have e1 : wrap64 (((size - i : Nat) : Int) + -1) = ((size - (i + 1) : Nat) : Int) := by simp only [wrap64]; omega
  have e2 : ((hd + i) % size + 1) % size = (hd + (i + 1)) % size := by rw [Nat.mod_add_mod]; rfl
  have e3 : IntKind.u64.wrap ((i : Int) + 1) = ((i + 1 : Nat) : Int) := by rw [IntKind.wrap_u64]; omega
  have e4 : size - i - 1 = size - (i + 1) := by omega
  rw [e1, e2, e3, e4] at h
  exact h

theorem roomB_free (inf : Int) (n : Nat) : roomB (-1) inf n = true := by simp [roomB]

end Go.Proofs.Ybulkbihy
