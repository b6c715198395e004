/-
  THE WALK of LawS2961AConcat.
-/
import Derived.Test.YbulkbihkFill
namespace Go.Proofs.Ybulkbihk
open Go.RowKit
attribute [local go_sem] run_store_float

set_option maxRecDepth 100000 in
set_option maxHeartbeats 2000000 in
theorem walkConcat (a0 : Option Addr) (n cap : Nat) (R : Nat → Int) (a1 : Int) (w : World) (hn : n ≤ 1024)
    (hR : ∀ i, i < n → -2147483648 ≤ R i ∧ R i ≤ 2147483647)
    (hsrc : ∀ k, k < n → ∃ b off, a0 = some ⟨b, off, none⟩ ∧ b < w.heap.size ∧ w.cell? ⟨b, off + k, none⟩ = some (.int .i32 (R k)))
    {cs : Array (Nat × Deferred)} {rn : Option Nat} (hf : w.heap[cleanupTable Yba.prog]? = some (.finalizers cs rn)) :
    Calls Yba.prog 4 #[.slice a0 n cap, .int .i64 a1] w fun e w' => e = .returned (.bool true) ∧ Below w.heap.size w w' := by
  have hmk := make24 w n hn
  go_enter Yba.func4, Yba.ntmps4
  go_wp2_with fail
  clear hmk
  go_loopw [23] (fun i wr => ∃ k : Nat, k ≤ n ∧ i = .int .i64 k ∧ Row wr w.heap.size 0 k R (fun i => (i : Int)) val ∧ Room wr w.heap.size (n * 3) ∧ Below w.heap.size w wr ∧ w.heap.size < wr.heap.size)
    (fun i _ => n - (intOf i).toNat)
  case atStart => exact ⟨0, Nat.zero_le _, rfl, fun i hi => absurd hi (by omega), room_made _ _ _ _, (Below.refl _ _).alloc (Nat.le_refl _) _, by simp⟩
  case round =>
    obtain ⟨k, hk, rfl, hrow, hroom, hbel, hsz⟩ := hrel
    by_cases hlt : k < n
    · obtain ⟨b, off, rfl, hb, hc⟩ := hsrc k hlt
      have hc' := (hbel.cell (p := ⟨b, off + k, none⟩) hb).trans hc
      clear hc
      obtain ⟨⟨u0, c0⟩, f0⟩ := hroom (k * 3) (by omega)
      obtain ⟨⟨u1, c1⟩, f1⟩ := hroom (k * 3 + 1) (by omega)
      obtain ⟨⟨u2, c2⟩, f2⟩ := hroom (k * 3 + 2) (by omega)
      have hst := hid (fill_step hrow hroom hlt)
      clear hrow hroom
      go_wp2_with fail
      go_roundw
      case rel => exact ⟨k + 1, by omega, by go_num, hst.out.1, hst.out.2, ((hbel.setCell (Nat.le_refl _) _).setCell (Nat.le_refl _) _).setCell (Nat.le_refl _) _, by simpa using hsz⟩
      case measure => simp [intOf]; omega
    · obtain rfl : n = k := by omega
      have hv : ∀ i, i < n → FloatKind.f64.format.order (val i) (val i) = some .eq := fun i hi => val_ok i (by omega)
      go_wp2_with fail
      refine (clone5 w.heap.size n R (fun i => (i : Int)) val _ hn hrow hsz).mono ?_
      rintro e w2 ⟨go, co, rfl, hgo1, hgo2, hrow2, hbel2⟩
      have hrow1 := hrow.below hbel2 hsz
      have hbelA : Below w.heap.size w w2 := hbel.trans (hbel2.mono (by omega))
      have hsz2 : w.heap.size < w2.heap.size := by omega
      have hf2 := fin_kept hf hbelA
      clear hrow hroom hbel hbel2 hsz hsrc
      go_wp2_with fail
      refine (spread6 w.heap.size n R (fun i => (i : Int)) val a1 _ hn hsz2 hrow1 hR hf2).mono ?_
      rintro e w3 ⟨g, pv, m, s, rfl, hg1, hg2, hpv, hown, hcuts, hsm, hbel3⟩
      have hrow1' := hrow1.below hbel3 hsz2
      have hrow2' := hrow2.below hbel3 hgo2
      have hbelB : Below w.heap.size w w3 := hbelA.trans (hbel3.mono (by omega))
      have hsz3 := hbel3.size
      obtain ⟨ga, cp, rfl, hpc⟩ := owned_pieces hown
      have hmn := cuts_le hcuts m (Nat.le_refl _)
      rw [hsm] at hmn
      have hs0 := hcuts.1
      have hcuts' := hid hcuts.2
      have hsm' := hid hsm
      clear hf2 hf hbel3 hbelA hrow1 hrow2 hown hcuts hsm hR
      go_wp2_with fail
      go_loopw [10, 50] (fun pos c wq => ∃ j : Nat, j ≤ m ∧ c = .int .i64 j ∧ pos = .int .i64 (s j) ∧ Below w3.heap.size w3 wq) (fun _ c _ => m - (intOf c).toNat)
      case atStart => exact ⟨0, Nat.zero_le _, rfl, by rw [hs0]; rfl, Below.refl _ _⟩
      case round =>
        obtain ⟨j, hj, rfl, rfl, hbq⟩ := hrel
        by_cases hjm : j < m
        · obtain ⟨g2, rfl, hg2', hpj⟩ := hpc j hjm
          obtain ⟨hs1, hs2, _, _⟩ := hcuts'.out j hjm
          have hpj' := (hbq.cell (p := ⟨g2, j, none⟩) hg2').trans hpj
          simp only [piece] at hpj'
          clear hpj hs0
          have hne : (((s (j + 1) - s j : Nat) : Int) == 0) = false := by rw [beq_eq_false_iff_ne]; omega
          go_wp2_with fail
          go_loopw [10, 59] (fun pos c wq => ∃ k t : Nat, k ≤ s (j + 1) - s j ∧ c = .int .i64 k ∧ pos = .int .i64 t ∧ Hid (t = s j + k) ∧ Below w3.heap.size w3 wq) (fun _ c _ => (s (j + 1) - s j) - (intOf c).toNat)
          case atStart => exact ⟨0, s j, Nat.zero_le _, rfl, rfl, rfl, hbq⟩
          case round =>
            obtain ⟨k, t, hk, rfl, rfl, ht, hbk⟩ := hrel
            clear hpj' hbq
            by_cases hkl : k < s (j + 1) - s j
            · have htn : t < n := by have := ht.out; omega
              obtain ⟨p0, p1, p2⟩ := (hrow1'.below hbk (by omega)) t htn
              obtain ⟨q0, q1, q2⟩ := (hrow2'.below hbk (by omega)) t htn
              rw [show 0 + t * 3 = s j * 3 + k * 3 from by have := ht.out; omega] at p0 p1 p2
              rw [Nat.zero_add] at q0 q1 q2
              have hbz := hbk.size
              have hgo3 : go < wr.heap.size := by omega
              have hw3 : w.heap.size < wr.heap.size := by omega
              have hge : decide ((n : Int) ≤ (t : Int)) = false := by simp; omega
              have hneq := neq27 (R t) (t : Int) (val t) (hv _ htn)
              have hbk1 : Below w3.heap.size w3 (wr.alloc (.cells #[.int .i32 (R t), .int .i32 (t : Int), .float .f64 (val t)] 27)) := hbk.alloc hbk.size _
              go_wp2_with fail
              go_quiet (fail)
              go_wp2_with fail
              exact ⟨⟨k + 1, t + 1, by omega, by go_num, by go_num, (by have := ht.out; show t + 1 = s j + (k + 1); omega), below_drewN hbk1 _⟩, by simp [intOf]; omega⟩
            · obtain rfl : t = s (j + 1) := by have := ht.out; omega
              go_wp2_with fail
              go_roundw
              case rel => exact ⟨j + 1, by omega, by go_num, rfl, hbk⟩
              case measure => simp [intOf]; omega
        · obtain rfl : m = j := by omega
          have heq : (((s m : Nat) : Int) == (n : Int)) = true := by rw [hsm'.out]; simp
          go_wp2_with fail
          refine (equal7 w.heap.size 0 n go 0 co n R (fun i => (i : Int)) val _ hn (hrow1'.below hbq (by omega)) (hrow2'.below hbq (by omega)) hv).mono ?_
          rintro e w4 ⟨rfl, mm, rfl⟩
          go_wp2_with fail
          go_ret
          exact ⟨rfl, below_drewN (hbelB.trans (hbq.mono (by omega))) _⟩

end Go.Proofs.Ybulkbihk
