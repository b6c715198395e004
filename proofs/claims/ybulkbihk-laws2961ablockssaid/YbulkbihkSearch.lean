/-
  cmp.Compare, the closure of spreadParts, slices.BinarySearchFunc at that closure.
-/
import Derived.Test.YbulkbihkLeaf
import Derived.BigQuiet
import Derived.Deep.QuietTactic
namespace Go.Proofs.Ybulkbihk
open Go.RowKit

/-- cmp.Compare on integers. -/
def cmpI (a b : Int) : Int := if a < b then -1 else if b < a then 1 else 0
theorem cmpI_lt {a b : Int} (h : a < b) : cmpI a b = -1 := by rw [cmpI, if_pos h]
theorem cmpI_gt {a b : Int} (h : b < a) : cmpI a b = 1 := by rw [cmpI, if_neg (by omega), if_pos h]
theorem cmpI_eq {a b : Int} (h : a = b) : cmpI a b = 0 := by rw [cmpI, if_neg (by omega), if_neg (by omega)]
theorem cmpI_neg (a b : Int) : cmpI a b < 0 ↔ a < b := by unfold cmpI; split <;> (try split) <;> omega
theorem ret_int {k : IntKind} {a b : Int} (h : a = b) : Ending.returned (.int k a) = .returned (.int k b) := by rw [h]

set_option maxHeartbeats 400000 in
theorem cmp11 (a b : Int) (w : World) :
    Calls Yba.prog 11 #[.int .i32 a, .int .i32 b] w fun e w' => e = .returned (.int .i64 (cmpI a b)) ∧ w' = w := by
  rcases Int.lt_trichotomy a b with h | h | h
  · have h' : ¬ b < a := by omega
    go_enter Yba.func11, Yba.ntmps11
    go_wp2
    go_ret
    exact ⟨ret_int (cmpI_lt h).symm, rfl⟩
  · subst h
    go_enter Yba.func11, Yba.ntmps11
    go_wp2
    go_ret
    exact ⟨ret_int (cmpI_eq rfl).symm, rfl⟩
  · have h' : ¬ a < b := by omega
    go_enter Yba.func11, Yba.ntmps11
    go_wp2
    go_ret
    exact ⟨ret_int (cmpI_gt h).symm, rfl⟩

theorem hid {p : Prop} (h : p) : Hid p := h

/-- The number of a rater's block, as Go's int32 division gives it. -/
def blk (r : Int) : Int := wrap32 (r.tdiv 32768)

set_option maxHeartbeats 400000 in
theorem clo10 (r q t : Int) (v : Nat) (w : World) :
    Calls Yba.prog 10 #[.agg #[.int .i32 r, .int .i32 q, .float .f64 v], .int .i32 t] w fun e w' =>
      e = .returned (.int .i64 (cmpI (blk r) t)) ∧ w' = w.alloc (.cells #[.int .i32 r, .int .i32 q, .float .f64 v] 27) := by
  go_enter Yba.func10, Yba.ntmps10
  go_wp2_with fail
  refine (cmp11 _ t _).mono ?_
  rintro e w1 ⟨rfl, rfl⟩
  go_wp2_with fail
  go_ret
  exact ⟨rfl, rfl⟩

/-- A row of n edges in block b from offset off on: their raters, rated peers, values. -/
def Row (w : World) (b off n : Nat) (r q : Nat → Int) (v : Nat → Nat) : Prop :=
  ∀ i, i < n → w.cell? ⟨b, off + i * 3, none⟩ = some (.int .i32 (r i)) ∧ w.cell? ⟨b, off + i * 3 + 1, none⟩ = some (.int .i32 (q i)) ∧ w.cell? ⟨b, off + i * 3 + 2, none⟩ = some (.float .f64 (v i))

theorem Row.below {w w' : World} {B b off n : Nat} {r q : Nat → Int} {v : Nat → Nat} (h : Row w b off n r q v) (hb : Below B w w') (hB : b < B) : Row w' b off n r q v := by
  intro i hi
  obtain ⟨h0, h1, h2⟩ := h i hi
  exact ⟨(hb.cell (p := ⟨b, _, none⟩) hB).trans h0, (hb.cell (p := ⟨b, _, none⟩) hB).trans h1, (hb.cell (p := ⟨b, _, none⟩) hB).trans h2⟩

set_option maxHeartbeats 1000000 in
theorem search9 (b off n cap : Nat) (r q : Nat → Int) (v : Nat → Nat) (t : Int) (w : World) (hn : n ≤ 1024) (hB : b < w.heap.size) (hrow : Row w b off n r q v) :
    Calls Yba.prog 9 #[.slice (some ⟨b, off, none⟩) n cap, .int .i32 t, .func (.func 10) #[] #[]] w fun e w' =>
      ∃ (a : Nat) (f : Bool), e = .returned (.tuple #[.int .i64 a, .bool f]) ∧ a ≤ n ∧ (0 < a → blk (r (a - 1)) < t) ∧ (a < n → t ≤ blk (r a)) ∧ Below w.heap.size w w' := by
  go_enter Yba.func9, Yba.ntmps9
  go_wp2_with fail
  go_loopw [9, 10] (fun i j wr => ∃ a c : Nat, a ≤ c ∧ c ≤ n ∧ i = .int .i64 a ∧ j = .int .i64 c ∧ (0 < a → blk (r (a - 1)) < t) ∧ (c < n → t ≤ blk (r c)) ∧ Below w.heap.size w wr)
    (fun i j _ => (intOf j - intOf i).toNat)
  case atStart => exact ⟨0, n, by omega, by omega, rfl, rfl, by omega, by omega, Below.refl _ _⟩
  case round =>
    obtain ⟨a, c, hac, hcn, rfl, rfl, hlo, hhi, hbel⟩ := hrel
    by_cases hlt : a < c
    · have hlo' := hid hlo
      have hhi' := hid hhi
      clear hlo hhi
      obtain ⟨r0, r1, r2⟩ := (hrow.below hbel hB) ((a + c) / 2) (by omega)
      have hbel1 : Below w.heap.size w (wr.alloc (.cells #[.int .i32 (r ((a + c) / 2)), .int .i32 (q ((a + c) / 2)), .float .f64 (v ((a + c) / 2))] 27)) := hbel.alloc hbel.size _
      by_cases hb : blk (r ((a + c) / 2)) < t
      · have hneg := (cmpI_neg _ _).2 hb
        go_wp2_with fail
        refine (clo10 (r ((a + c) / 2)) (q ((a + c) / 2)) t (v ((a + c) / 2)) _).mono ?_
        rintro e w1 ⟨rfl, rfl⟩
        go_wp2_with fail
        go_roundw
        case rel => exact ⟨(a + c) / 2 + 1, c, by omega, by omega, by go_num, rfl, fun _ => by simpa using hb, hhi'.out, hbel1⟩
        case measure => simp [intOf]; omega
      · have hneg : ¬ cmpI (blk (r ((a + c) / 2))) t < 0 := fun h => hb ((cmpI_neg _ _).1 h)
        go_wp2_with fail
        refine (clo10 (r ((a + c) / 2)) (q ((a + c) / 2)) t (v ((a + c) / 2)) _).mono ?_
        rintro e w1 ⟨rfl, rfl⟩
        go_wp2_with fail
        go_roundw
        case rel => exact ⟨a, (a + c) / 2, by omega, by omega, rfl, by go_num, hlo'.out, fun _ => hb, hbel1⟩
        case measure => simp [intOf]; omega
    · obtain rfl : a = c := by omega
      have hlo' := hid hlo
      have hhi' := hid hhi
      clear hlo hhi
      by_cases han : a < n
      · obtain ⟨r0, r1, r2⟩ := (hrow.below hbel hB) a han
        go_wp2_with fail
        refine (clo10 (r a) (q a) t (v a) _).mono ?_
        rintro e w1 ⟨rfl, rfl⟩
        go_wp2_with fail
        go_ret2
        exact ⟨a, _, rfl, hcn, hlo'.out, hhi'.out, hbel.alloc hbel.size _⟩
      · go_wp2_with fail
        go_ret2
        exact ⟨a, _, rfl, hcn, hlo'.out, hhi'.out, hbel⟩

end Go.Proofs.Ybulkbihk
