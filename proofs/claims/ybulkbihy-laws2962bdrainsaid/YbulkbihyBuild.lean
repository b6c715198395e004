/-
  zzs2962bbuild: the pool that both laws start from.
-/
import Derived.Test.YbulkbihyQueue
import Derived.Laws.CopyOwn
namespace Go.Proofs.Ybulkbihy
open Go.RowKit

theorem hid {p : Prop} (h : p) : Hid p := h

theorem info3 : (Yba.prog.info? 3).map (fun i => (i.zero, i.size, i.bytes)) = some (some (.int .i64 0), 1, 8) := by kernel_rfl
theorem info3' : ∃ i, Yba.prog.info? 3 = some i ∧ i.zero = some (.int .i64 0) ∧ i.size = 1 ∧ i.bytes = 8 := by
  have h := info3
  cases hi : Yba.prog.info? 3 with
  | none => rw [hi] at h; cases h
  | some i =>
    rw [hi] at h
    simp only [Option.map_some, Option.some.injEq, Prod.mk.injEq] at h
    exact ⟨i, rfl, h.1, h.2.1, h.2.2⟩

/-- make([]int, n), n at most 1024. -/
theorem make55 (w : World) (n : Nat) (hn : n ≤ 1024) :
    (Instr.makeSlice 55 (.int .i64 (n : Int)) (.int .i64 (n : Int))).run Yba.prog w = .ok (.slice (some ⟨w.heap.size, 0, none⟩) n n) (w.alloc (.cells (madeCells #[.int .i64 0] n) 3)) := by
  obtain ⟨i, hi, hz, hs, hby⟩ := info3'
  have h := run_make (P := Yba.prog) w 55 3 i _ Yba.underlying55 hi hz .i64 .i64 (n : Int) (n : Int) (by omega) (Int.le_refl _) (by rw [hby]; omega) (by omega)
  rw [hs, Int.toNat_natCast, Nat.mul_one] at h
  exact h

/-- The ring's cells. -/
def cellsOf (T : Nat → Int) (n : Nat) : List Value := (List.range n).map fun i => .int .i64 (T i)
theorem cellsOf_length (T : Nat → Int) (n : Nat) : (cellsOf T n).length = n := by simp [cellsOf]
theorem cellsOf_at (T : Nat → Int) (n i : Nat) (hi : i < n) : (cellsOf T n)[i]? = some (.int .i64 (T i)) := by simp [cellsOf, hi]
theorem cellsOf_at' {T : Nat → Int} {n i : Nat} {u : Value} (h : (cellsOf T n)[i]? = some u) : i < n ∧ u = .int .i64 (T i) := by
  have hl : i < n := by
    have := (List.getElem?_eq_some_iff.1 h).1
    rwa [cellsOf_length] at this
  rw [cellsOf_at T n i hl] at h
  exact ⟨hl, (Option.some.inj h).symm⟩
theorem add_at (b off j : Nat) : (⟨b, off, none⟩ : Addr).add j = ⟨b, off + j, none⟩ := by unfold Addr.add; split <;> simp_all

theorem copy_run (a0 : Option Addr) (size cap0 : Nat) (T : Nat → Int) (w : World)
    (hsrc : ∀ k, k < size → ∃ b off, a0 = some ⟨b, off, none⟩ ∧ b < w.heap.size ∧ ∀ i, i < size → w.cell? ⟨b, off + i, none⟩ = some (.int .i64 (T i))) :
    ∃ w1 : World, (Builtin.copy_ #[55, 55] 3 #[.slice (some ⟨w.heap.size, 0, none⟩) size size, .slice a0 size cap0]).run Yba.prog (w.alloc (.cells (madeCells #[.int .i64 0] size) 3)) = .ok (.int .i64 (size : Int)) w1 ∧
      w1.heap[w.heap.size]? = some (.cells (cellsOf T size).toArray 3 (0, 0)) ∧ Below w.heap.size w w1 ∧ w.heap.size < w1.heap.size := by
  obtain ⟨i, hi, hz, hs3, hby⟩ := info3'
  have hsz : (Yba.prog.info? 3).map (·.size) = some 1 := by rw [hi]; simp [hs3]
  have hb : Below w.heap.size w (w.alloc (.cells (madeCells #[.int .i64 0] size) 3)) := (Below.refl _ _).alloc (Nat.le_refl _) _
  have hg : (w.alloc (.cells (madeCells #[.int .i64 0] size) 3)).heap[w.heap.size]? = some (.cells (madeCells #[.int .i64 0] size) 3 (0, 0)) := heap_alloc_new w _
  by_cases h0 : 0 < size
  · obtain ⟨b, off, rfl, hlt, hc⟩ := hsrc 0 h0
    have hm : (madeCells #[.int .i64 0] size).size = size := size_madeCells _ _
    have hr := run_copy_row (P := Yba.prog) (w.alloc (.cells (madeCells #[.int .i64 0] size) 3)) 55 55 3 3 w.heap.size 0 size size ⟨b, off, none⟩ size cap0 (madeCells #[.int .i64 0] size) 3 (cellsOf T size)
      Yba.underlying55 hsz hg (by rw [cellsOf_length]; simp) (fun j v hv => by
        obtain ⟨hj, rfl⟩ := cellsOf_at' hv
        rw [add_at]
        exact (hb.cell (p := ⟨b, off + j, none⟩) hlt).trans (hc j hj)) (by rw [cellsOf_length, hm]; omega) (fun v hv => by
        obtain ⟨j, hj⟩ := List.mem_iff_getElem?.1 hv
        obtain ⟨_, rfl⟩ := cellsOf_at' hj
        rfl)
    have hl : (madeCells #[.int .i64 0] size).toList.take 0 ++ cellsOf T size ++ (madeCells #[.int .i64 0] size).toList.drop (0 + (cellsOf T size).length) = cellsOf T size := by
      rw [cellsOf_length, List.take_zero, List.nil_append, List.drop_of_length_le (by simp [hm]), List.append_nil]
    rw [hl, cellsOf_length] at hr
    refine ⟨_, hr, setRow_heap _ _ _ _ _ _ hg, below_setRow hb (Nat.le_refl _) _, ?_⟩
    simp [World.setRow]
  · obtain rfl : size = 0 := by omega
    have hr := run_copy_none (P := Yba.prog) (w.alloc (.cells (madeCells #[.int .i64 0] 0) 3)) 55 55 3 3 (some ⟨w.heap.size, 0, none⟩) a0 0 0 0 cap0 Yba.underlying55 hsz (by simp)
    refine ⟨_, hr, ?_, hb, by simp⟩
    rw [hg]
    simp [madeCells, cellsOf]

theorem pool_built {w w1 : World} {size : Nat} {T : Nat → Int} (cap run inf tk : Int) (hd k : Nat) (hrow : w1.heap[w.heap.size]? = some (.cells (cellsOf T size).toArray 3 (0, 0))) (hsz : w.heap.size < w1.heap.size) :
    Pool (w1.alloc (.cells #[.int .i64 cap, .int .i64 0, .bool false, .bool false, .bool false, .int .i64 0, .nilFunc, .nilIface, .nilFunc, .int .i64 run, .int .i64 0, .int .u32 0, .int .i64 inf, .bool false,
      .int .i32 0, .int .u32 0, .nilIface, .int .u32 0, .int .u32 0, .int .u64 0, .pointer none, .pointer none, .int .u64 0, .slice none 0 0, .int .i64 0,
      .slice (some ⟨w.heap.size, 0, none⟩) size size, .int .i64 (hd : Int), .int .i64 (k : Int), .int .u64 tk, .bool false, .int .i64 0, .int .u64 0, .chan none, .int .i64 0, .chan none] 60))
      w1.heap.size w.heap.size cap run inf size T hd k tk := by
  have hb := fun o => (Below.refl w1.heap.size w1).alloc (Nat.le_refl _) o
  refine ⟨by omega, by go_simp, by go_simp, by go_simp, by go_simp, by go_simp, .inl (by go_simp), by go_simp, by go_simp, by go_simp, by go_simp, ?_, ?_, ?_⟩
  · intro i hi
    rw [(hb _).cell (p := ⟨w.heap.size, i, none⟩) hsz, cell_of_row w1 w.heap.size i _ 3 (0, 0) hrow]
    simpa using cellsOf_at T size i hi
  · intro j
    go_simp
  · intro j
    rw [(hb _).frozen (p := ⟨w.heap.size, j, none⟩) hsz]
    simp [World.frozen?, hrow]

theorem mod_fits {head : Int} {size : Nat} (h0 : 0 < size) (hs : size ≤ 1025) : ∃ hd : Nat, hd < size ∧ wrap64 (head % (size : Int)) = (hd : Int) := by
  have a := Int.emod_nonneg head (show (size : Int) ≠ 0 by omega)
  have b := Int.emod_lt_of_pos head (show (0 : Int) < size by omega)
  refine ⟨(head % (size : Int)).toNat, by omega, ?_⟩
  simp only [wrap64]
  omega

set_option maxRecDepth 100000 in
set_option maxHeartbeats 1000000 in
theorem build13 (a0 : Option Addr) (size cap0 : Nat) (T : Nat → Int) (head nn cap inf run tk : Int) (w : World) (hs : size ≤ 1024)
    (hsrc : ∀ k, k < size → ∃ b off, a0 = some ⟨b, off, none⟩ ∧ b < w.heap.size ∧ ∀ i, i < size → w.cell? ⟨b, off + i, none⟩ = some (.int .i64 (T i)))
    (hh : 0 ≤ head) (hh' : head ≤ 18446744073709551615) (hn : 0 ≤ nn) (hn' : nn ≤ 18446744073709551615) :
    Calls Yba.prog 13 #[.slice a0 size cap0, .int .u64 head, .int .u64 nn, .int .i64 cap, .int .i64 inf, .int .i64 run, .int .u64 tk] w fun e w' =>
      ∃ p bq hd k : Nat, e = .returned (.tuple #[.pointer (some ⟨p, 0, none⟩), .int .i64 hd, .int .i64 k]) ∧ Pool w' p bq cap run inf size T hd k tk ∧ w.heap.size ≤ p ∧ w.heap.size ≤ bq ∧ Below w.heap.size w w' ∧
        (size = 0 → hd = 0 ∧ k = 0) ∧ (0 < size → hd < size ∧ k ≤ size) := by
  have hmk := make55 w size hs
  obtain ⟨w1, hcp, hrow, hbel, hsz⟩ := copy_run a0 size cap0 T w hsrc
  clear hsrc
  by_cases h0 : 0 < size
  · obtain ⟨hd, hd1, hd2⟩ := mod_fits (head := head) h0 (by omega)
    obtain ⟨k, k1, k2⟩ := mod_fits (head := nn) (size := size + 1) (by omega) (by omega)
    rw [Int.natCast_add] at k2
    have k2' := hid k2
    have hd2' := hid hd2
    clear hd2 k2
    go_enter Yba.func13, Yba.ntmps13
    go_wp2_with fail
    rw [hd2'.out, show wrap64 (nn % ((size : Int) + 1)) = (k : Int) from k2'.out]
    refine (store11 w1.heap.size 0 0 cap _ (by go_simp) (by go_simp)).mono ?_
    rintro e wx ⟨rfl, rfl⟩
    go_wp2_with fail
    refine (store11 w1.heap.size 12 0 inf _ (by go_simp) (by go_simp)).mono ?_
    rintro e wx ⟨rfl, rfl⟩
    go_wp2_with fail
    refine (store11 w1.heap.size 9 0 run _ (by go_simp) (by go_simp)).mono ?_
    rintro e wx ⟨rfl, rfl⟩
    go_wp2_with fail
    go_ret3
    exact ⟨w1.heap.size, w.heap.size, hd, k, rfl, pool_built cap run inf tk hd k hrow hsz, by omega, Nat.le_refl _, hbel.alloc (by omega) _, fun h => absurd h (by omega), fun _ => ⟨hd1, by omega⟩⟩
  · have hg : decide ((0 : Int) < (size : Int)) = false := by simp; omega
    have hz := hid h0
    clear h0
    go_enter Yba.func13, Yba.ntmps13
    go_wp2_with fail
    refine (store11 w1.heap.size 0 0 cap _ (by go_simp) (by go_simp)).mono ?_
    rintro e wx ⟨rfl, rfl⟩
    go_wp2_with fail
    refine (store11 w1.heap.size 12 0 inf _ (by go_simp) (by go_simp)).mono ?_
    rintro e wx ⟨rfl, rfl⟩
    go_wp2_with fail
    refine (store11 w1.heap.size 9 0 run _ (by go_simp) (by go_simp)).mono ?_
    rintro e wx ⟨rfl, rfl⟩
    go_wp2_with fail
    go_ret3
    exact ⟨w1.heap.size, w.heap.size, 0, 0, rfl, pool_built cap run inf tk 0 0 hrow hsz, by omega, Nat.le_refl _, hbel.alloc (by omega) _, fun _ => ⟨rfl, rfl⟩, fun h => absurd h hz.out⟩

theorem lt_of_cell {w : World} {b off : Nat} {v : Value} (h : w.cell? ⟨b, off, none⟩ = some v) : b < w.heap.size := by
  rcases Nat.lt_or_ge b w.heap.size with hlt | hge
  · exact hlt
  · simp [World.cell?, Array.getElem?_eq_none hge] at h

end Go.Proofs.Ybulkbihy
