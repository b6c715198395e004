/-
  THE WALK of LawS2962BStep.
-/
import Derived.Test.YbulkbihyBuild
namespace Go.Proofs.Ybulkbihy
open Go.RowKit

set_option maxRecDepth 100000 in
set_option maxHeartbeats 4000000 in
theorem walkStep (a0 : Option Addr) (size cap0 : Nat) (T : Nat → Int) (head nn cap inf run tk : Int) (w : World) (hs : size ≤ 1024)
    (hsrc : ∀ k, k < size → ∃ b off, a0 = some ⟨b, off, none⟩ ∧ b < w.heap.size ∧ ∀ i, i < size → w.cell? ⟨b, off + i, none⟩ = some (.int .i64 (T i)))
    (hh : 0 ≤ head) (hh' : head ≤ 18446744073709551615) (hn : 0 ≤ nn) (hn' : nn ≤ 18446744073709551615) :
    Calls Yba.prog 6 #[.slice a0 size cap0, .int .u64 head, .int .u64 nn, .int .i64 cap, .int .i64 inf, .int .i64 run, .int .u64 tk] w fun e w' => e = .returned (.bool true) ∧ Below w.heap.size w w' := by
  go_enter Yba.func6, Yba.ntmps6
  go_wp2_with fail
  refine (build13 a0 size cap0 T head nn cap inf run tk w hs hsrc hh hh' hn hn').mono ?_
  rintro e w1 ⟨p, bq, hd, k, rfl, hp, hp1, hp2, hbel, hz0, hz1⟩
  clear hh hh' hn hn'
  have hkb : k ≤ 1024 := by
    rcases Nat.eq_zero_or_pos size with e | e
    · have := (hz0 e).2; omega
    · have := (hz1 e).2; omega
  have hhb : hd ≤ 1024 := by
    rcases Nat.eq_zero_or_pos size with e | e
    · have := (hz0 e).1; omega
    · have := (hz1 e).1; omega
  have hcases : (cap < 0 ∧ roomB cap inf k = true) ∨ (¬ cap < 0 ∧ wrap64 (inf - k) < cap ∧ roomB cap inf k = true) ∨ (¬ cap < 0 ∧ ¬ wrap64 (inf - k) < cap ∧ roomB cap inf k = false) := by
    unfold roomB
    by_cases h1 : cap < 0
    · left; simp [h1]
    · right
      by_cases h2 : wrap64 (inf - k) < cap
      · left; exact ⟨h1, h2, by simp [h2]⟩
      · right; exact ⟨h1, h2, by simp [h1, h2]⟩
  have hz0' := hid hz0
  have hz1' := hid hz1
  clear hz0 hz1
  have hsrc1 : ∀ k, k < size → ∃ b off, a0 = some ⟨b, off, none⟩ ∧ ∀ i, i < size → w1.cell? ⟨b, off + i, none⟩ = some (.int .i64 (T i)) := fun k hk => by
    obtain ⟨b, off, e1, e2, e3⟩ := hsrc k hk
    exact ⟨b, off, e1, fun i hi => (hbel.cell (p := ⟨b, off + i, none⟩) e2).trans (e3 i hi)⟩
  by_cases hyes : 0 < k ∧ roomB cap inf k = true
  · obtain ⟨hk1, hr1⟩ := hyes
    have hsz : 0 < size := by
      rcases Nat.eq_zero_or_pos size with e | e
      · have := (hz0'.out e).2; omega
      · exact e
    obtain ⟨hd1, hk2⟩ := hz1'.out hsz
    have hk0 : ((k : Int) == 0) = false := by rw [beq_eq_false_iff_ne]; omega
    have hc2 : decide (cap < 0) = true ∨ (decide (cap < 0) = false ∧ decide (wrap64 (inf - k) < cap) = true) := by
      rcases hcases with ⟨h1, _⟩ | ⟨h1, h2, _⟩ | ⟨h1, h2, hr⟩
      · exact .inl (decide_eq_true h1)
      · exact .inr ⟨decide_eq_false h1, decide_eq_true h2⟩
      · rw [hr] at hr1; cases hr1
    have hr' := hid hr1
    clear hcases hr1
    rcases hc2 with h1 | ⟨h1, h2⟩
    all_goals
      go_wp2_with fail
      refine (deq14_yes w.heap.size hp1 hp2 hp hs hd1 hk1 hkb hr'.out).mono ?_
      rintro e w2 ⟨rfl, hq, hbq1⟩
      have hbq : Below w.heap.size w w2 := hbel.trans hbq1
      have hsrc2 : ∀ k, k < size → ∃ b off, a0 = some ⟨b, off, none⟩ ∧ ∀ i, i < size → w2.cell? ⟨b, off + i, none⟩ = some (.int .i64 (T i)) := fun k hk => by
        obtain ⟨b, off, e1, e2, e3⟩ := hsrc k hk
        exact ⟨b, off, e1, fun i hi => (hbq.cell (p := ⟨b, off + i, none⟩) e2).trans (e3 i hi)⟩
      clear hp hbel hsrc1 hsrc hbq1
      obtain ⟨ne, c0, c9, c12, c17, c18, c22, c25, c26, c27, c28, ring, fp, fq⟩ := hq
      clear c17 c18 c22 fp fq
      have t1 : (((((hd + 1) % size : Nat) : Int)) != ((hd : Int) + 1) % (size : Int)) = false := by rw [bne_eq_false_iff_eq]; simp
      have t2 : ((((k - 1 : Nat) : Int)) != (k : Int) - 1) = false := by rw [bne_eq_false_iff_eq]; omega
      have t3 : (wrap64 (run + -1) != wrap64 (run - 1)) = false := by rw [bne_eq_false_iff_eq]; rfl
      generalize ((hd + 1) % size : Nat) = hd' at *
      generalize (k - 1 : Nat) = k' at *
      generalize wrap64 (run + -1) = run' at *
      obtain ⟨b, off, rfl, hc⟩ := hsrc2 hd hd1
      have hch := hc hd hd1
      have i1 : (0 : Int) ≤ (hd : Int) := by omega
      have i2 : (hd : Int) < (size : Int) := by omega
      clear hsrc2
      go_wp2_with fail
      refine (load12 p 0 cap _ c0).mono ?_
      rintro e wx ⟨rfl, hwx⟩
      subst hwx
      go_wp2_with fail
      refine (load12 p 12 inf _ c12).mono ?_
      rintro e wx ⟨rfl, hwx⟩
      subst hwx
      go_wp2_with fail
      go_quiet ((go_at_call 12; refine Calls.quiet_of_same (load12 p 9 run' _ ?_); go_simp))
      go_wp2_with fail
      go_loopw [24] (fun c wq => ∃ i : Nat, i ≤ size ∧ c = .int .i64 i ∧ wq = wx.drewN nq) (fun c _ => size - (intOf c).toNat)
      case atStart => exact ⟨0, Nat.zero_le _, rfl, rfl⟩
      case round =>
        obtain ⟨i, hi, rfl, rfl⟩ := hrel
        clear hch t1 t2 t3 hk0 h1
        by_cases hlt : i < size
        · have hci := hc i hlt
          have hri := ring i hlt
          by_cases hih : i = hd
          · have hb : ((i : Int) == (hd : Int)) = true := by rw [beq_iff_eq]; omega
            rw [if_pos hih] at hri
            have hih' := hid hih
            clear hih
            go_wp2_with fail
            exact ⟨⟨i + 1, by omega, by go_num, trivial⟩, by simp [intOf]; omega⟩
          · have hb : ((i : Int) == (hd : Int)) = false := by rw [beq_eq_false_iff_ne]; omega
            rw [if_neg hih] at hri
            go_wp2_with fail
            exact ⟨⟨i + 1, by omega, by go_num, trivial⟩, by simp [intOf]; omega⟩
        · go_wp2_with fail
          go_ret
          exact ⟨rfl, below_drewN hbq _⟩
  · have hno : k = 0 ∨ roomB cap inf k = false := by
      rcases Nat.eq_zero_or_pos k with e | e
      · exact .inl e
      · right
        cases hb : roomB cap inf k
        · rfl
        · exact absurd ⟨e, hb⟩ hyes
    have hc4 : ((((k : Int) == 0) = true ∧ decide (cap < 0) = true) ∨ (((k : Int) == 0) = true ∧ decide (cap < 0) = false ∧ decide (wrap64 (inf - k) < cap) = true)) ∨
        ((((k : Int) == 0) = true ∧ decide (cap < 0) = false ∧ decide (wrap64 (inf - k) < cap) = false) ∨ (((k : Int) == 0) = false ∧ decide (cap < 0) = false ∧ decide (wrap64 (inf - k) < cap) = false)) := by
      rcases Nat.eq_zero_or_pos k with e | e
      · have hk : ((k : Int) == 0) = true := by rw [beq_iff_eq]; omega
        rcases hcases with ⟨h1, _⟩ | ⟨h1, h2, _⟩ | ⟨h1, h2, _⟩
        · exact .inl (.inl ⟨hk, decide_eq_true h1⟩)
        · exact .inl (.inr ⟨hk, decide_eq_false h1, decide_eq_true h2⟩)
        · exact .inr (.inl ⟨hk, decide_eq_false h1, decide_eq_false h2⟩)
      · have hk : ((k : Int) == 0) = false := by rw [beq_eq_false_iff_ne]; omega
        rcases hcases with ⟨h1, hr⟩ | ⟨h1, h2, hr⟩ | ⟨h1, h2, _⟩
        · exact absurd ⟨e, hr⟩ hyes
        · exact absurd ⟨e, hr⟩ hyes
        · exact .inr (.inr ⟨hk, decide_eq_false h1, decide_eq_false h2⟩)
    have hno' := hid hno
    clear hno hyes hcases hsrc
    rcases hc4 with (⟨h1, h2⟩ | ⟨h1, h2, h3⟩) | (⟨h1, h2, h3⟩ | ⟨h1, h2, h3⟩)
    all_goals
      go_wp2_with fail
      refine (deq14_no hp hno'.out).mono ?_
      rintro e w2 ⟨rfl, m, rfl⟩
      have hq := hp.drewN m
      have hbq : Below w.heap.size w (w1.drewN m) := below_drewN hbel m
      have hsrc2 : ∀ k, k < size → ∃ b off, a0 = some ⟨b, off, none⟩ ∧ ∀ i, i < size → (w1.drewN m).cell? ⟨b, off + i, none⟩ = some (.int .i64 (T i)) := hsrc1
      clear hp hbel hsrc1
      generalize w1.drewN m = w2 at *
      obtain ⟨ne, c0, c9, c12, c17, c18, c22, c25, c26, c27, c28, ring, fp, fq⟩ := hq
      clear c17 c18 c22 fp fq
      go_wp2_with fail
      refine (load12 p 0 cap _ c0).mono ?_
      rintro e wx ⟨rfl, hwx⟩
      subst hwx
      go_wp2_with fail
      refine (load12 p 12 inf _ c12).mono ?_
      rintro e wx ⟨rfl, hwx⟩
      subst hwx
      go_wp2_with fail
      refine (load12 p 9 run _ c9).mono ?_
      rintro e wx ⟨rfl, hwx⟩
      subst hwx
      go_wp2_with fail
      go_loopw [23] (fun c wq => ∃ i mm : Nat, i ≤ size ∧ c = .int .i64 i ∧ wq = wx.drewN mm) (fun c _ => size - (intOf c).toNat)
      case atStart => exact ⟨0, 0, Nat.zero_le _, rfl, rfl⟩
      case round =>
        obtain ⟨i, mm, hi, rfl, rfl⟩ := hrel
        by_cases hlt : i < size
        · obtain ⟨b, off, rfl, hc⟩ := hsrc2 i hlt
          have hci := hc i hlt
          have hri := ring i hlt
          go_wp2_with fail
          go_quiet (fail)
          go_wp2_with fail
          exact ⟨⟨i + 1, _, by omega, by go_num, rfl⟩, by simp [intOf]; omega⟩
        · go_wp2_with fail
          go_ret
          exact ⟨rfl, below_drewN hbq _⟩

end Go.Proofs.Ybulkbihy
