/-
  THE WALK of LawS2962BDrain.
-/
import Derived.Test.YbulkbihyDrainPlain
namespace Go.Proofs.Ybulkbihy
open Go.RowKit

set_option maxRecDepth 100000 in
set_option maxHeartbeats 2000000 in
theorem walkDrain (a0 : Option Addr) (size cap0 : Nat) (T : Nat → Int) (head : Int) (w : World) (hs : size ≤ 1024)
    (hsrc : ∀ k, k < size → ∃ b off, a0 = some ⟨b, off, none⟩ ∧ b < w.heap.size ∧ ∀ i, i < size → w.cell? ⟨b, off + i, none⟩ = some (.int .i64 (T i)))
    (hh : 0 ≤ head) (hh' : head ≤ 18446744073709551615) :
    Calls Yba.prog 7 #[.slice a0 size cap0, .int .u64 head] w fun e w' => e = .returned (.bool true) ∧ Below w.heap.size w w' := by
  go_enter Yba.func7, Yba.ntmps7
  go_wp2_with fail
  refine (build13 a0 size cap0 T head 0 (-1) (size : Int) (size : Int) 0 w hs hsrc hh hh' (by omega) (by omega)).mono ?_
  rintro e w1 ⟨p, bq, hd, k, rfl, hp, hp1, hp2, hbel, hz0, hz1⟩
  clear hh hh'
  have hhb : hd ≤ 1024 := by
    rcases Nat.eq_zero_or_pos size with e | e
    · have := (hz0 e).1; omega
    · have := (hz1 e).1; omega
  have hd0 : hd % size = hd := by
    rcases Nat.eq_zero_or_pos size with e | e
    · rw [(hz0 e).1]; exact Nat.zero_mod _
    · exact Nat.mod_eq_of_lt (hz1 e).1
  have hstart : Drained (w1.setCell ⟨p, 27, none⟩ (.int .i64 (size : Int))) p bq size T hd 0 := by
    have := hp.setN size
    unfold Drained
    rw [Nat.add_zero, hd0]
    exact this
  have hbel1 : Below w.heap.size w (w1.setCell ⟨p, 27, none⟩ (.int .i64 (size : Int))) := hbel.setCell hp1 _
  have f27 := hp.fp 27
  have c27 := hp.c27
  have hz1' := hid hz1
  clear hz0 hz1 hd0 hp hbel
  go_wp2_with fail
  clear c27 f27
  go_loopw [9] (fun c wq => ∃ i : Nat, i ≤ size ∧ c = .int .i64 i ∧ Drained wq p bq size T hd i ∧ Below w.heap.size w wq) (fun c _ => size - (intOf c).toNat)
  case atStart => exact ⟨0, Nat.zero_le _, rfl, hstart, hbel1⟩
  case round =>
    obtain ⟨i, hi, rfl, hq, hbq⟩ := hrel
    clear hstart hbel1
    by_cases hlt : i < size
    · obtain ⟨hd1, _⟩ := hz1'.out (by omega)
      go_wp2_with fail
      refine (deq14_yes w.heap.size hp1 hp2 hq hs (Nat.mod_lt _ (by omega)) (by omega) (by omega) (roomB_free _ _)).mono ?_
      rintro e w2 ⟨rfl, hq2, hbq2⟩
      rw [TT_next T hd size i hlt]
      have hnext := Drained.next hlt hs hq2
      have hbq3 := hbq.trans hbq2
      obtain ⟨b, off, rfl, hb, hc⟩ := hsrc i hlt
      have hci := (hbq3.cell (p := ⟨b, off + (hd + i) % size, none⟩) hb).trans (hc ((hd + i) % size) (Nat.mod_lt _ (by omega)))
      have ib1 : (0 : Int) ≤ ((hd : Int) + (i : Int)) % (size : Int) := Int.emod_nonneg _ (by omega)
      have ib2 : ((hd : Int) + (i : Int)) % (size : Int) < (size : Int) := Int.emod_lt_of_pos _ (by omega)
      clear hq hq2 hbq hbq2 hsrc hc
      go_wp2_with fail
      exact ⟨⟨i + 1, by omega, by go_num, hnext, hbq3⟩, by simp [intOf]; omega⟩
    · obtain rfl : size = i := by omega
      go_wp2_with fail
      refine (deq14_no hq (.inl (Nat.sub_self _))).mono ?_
      rintro e w2 ⟨rfl, m, rfl⟩
      have hq2 := hq.drewN m
      have hbq2 : Below w.heap.size w (wr.drewN m) := below_drewN hbq m
      clear hq hbq hsrc
      generalize wr.drewN m = w2 at *
      obtain ⟨ne, c0, c9, c12, c17, c18, c22, c25, c26, c27, c28, ring, fp, fq⟩ := hq2
      rw [Nat.sub_self] at c9 c27
      clear c0 c12 c17 c18 c22 fp fq c26
      go_wp2_with fail
      refine (load12 p 9 ((0 : Nat) : Int) _ c9).mono ?_
      rintro e wx ⟨rfl, hwx⟩
      subst hwx
      go_wp2_with fail
      go_loopw [14] (fun c wq => ∃ i : Nat, i ≤ size ∧ c = .int .i64 i ∧ wq = wx) (fun c _ => size - (intOf c).toNat)
      case atStart => exact ⟨0, Nat.zero_le _, rfl, rfl⟩
      case round =>
        obtain ⟨i, hi, rfl, rfl⟩ := hrel
        by_cases hlt : i < size
        · have hri := ring i hlt
          rw [TT_end T hd size i (hz1'.out (by omega)).1 hlt] at hri
          clear ring
          go_wp2_with fail
          exact ⟨⟨i + 1, by omega, by go_num, trivial⟩, by simp [intOf]; omega⟩
        · go_wp2_with fail
          go_ret
          exact ⟨rfl, hbq2⟩

end Go.Proofs.Ybulkbihy
