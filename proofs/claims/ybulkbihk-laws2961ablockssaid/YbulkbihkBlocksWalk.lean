/-
  THE WALK of LawS2961ABlocks.
-/
import Derived.Test.YbulkbihkBlocksPlain
namespace Go.Proofs.Ybulkbihk
open Go.RowKit
attribute [local go_sem] run_store_float

set_option maxRecDepth 100000 in
set_option maxHeartbeats 2000000 in
theorem walkBlocks (a0 a1 : Option Addr) (n cap n1 cap1 : Nat) (D Q : Nat → Int) (a2 : Int) (w : World) (hn : n ≤ 1024)
    (hD : ∀ i, 0 ≤ D i ∧ D i ≤ 255)
    (hsrc : ∀ k, k < n → ∃ b off, a0 = some ⟨b, off, none⟩ ∧ b < w.heap.size ∧ w.cell? ⟨b, off + k, none⟩ = some (.int .u8 (D k)))
    (hsrq : ∀ k, k < n → k < n1 → ∃ b off, a1 = some ⟨b, off, none⟩ ∧ b < w.heap.size ∧ w.cell? ⟨b, off + k, none⟩ = some (.int .i32 (Q k)))
    (hQ0 : ∀ k, k < n → ¬ k < n1 → Q k = 0)
    {cs : Array (Nat × Deferred)} {rn : Option Nat} (hf : w.heap[cleanupTable Yba.prog]? = some (.finalizers cs rn)) :
    Calls Yba.prog 3 #[.slice a0 n cap, .slice a1 n1 cap1, .int .i64 a2] w fun e w' => e = .returned (.bool true) ∧ Below w.heap.size w w' := by
  have hmk := make24 w n hn
  go_enter Yba.func3, Yba.ntmps3
  go_wp2_with fail
  clear hmk
  go_loopw [8, 29] (fun rv i wr => ∃ k : Nat, k ≤ n ∧ i = .int .i64 k ∧ rv = .int .i32 (RS D k) ∧ Row wr w.heap.size 0 k (fun i => RS D (i + 1)) Q val ∧ Room wr w.heap.size (n * 3) ∧ Below w.heap.size w wr ∧ w.heap.size < wr.heap.size)
    (fun _ i _ => n - (intOf i).toNat)
  case atStart => exact ⟨0, Nat.zero_le _, rfl, rfl, fun i hi => absurd hi (by omega), room_made _ _ _ _, (Below.refl _ _).alloc (Nat.le_refl _) _, by simp⟩
  case round =>
    obtain ⟨k, hk, rfl, rfl, hrow, hroom, hbel, hsz⟩ := hrel
    by_cases hlt : k < n
    · obtain ⟨b, off, rfl, hb, hc⟩ := hsrc k hlt
      have hc' := (hbel.cell (p := ⟨b, off + k, none⟩) hb).trans hc
      clear hc
      obtain ⟨⟨u0, c0⟩, f0⟩ := hroom (k * 3) (by omega)
      obtain ⟨⟨u1, c1⟩, f1⟩ := hroom (k * 3 + 1) (by omega)
      obtain ⟨⟨u2, c2⟩, f2⟩ := hroom (k * 3 + 2) (by omega)
      have hst := hid (fill_step hrow hroom hlt)
      clear hrow hroom
      obtain ⟨hd1, hd2⟩ := hD k
      obtain ⟨hr1, hr2⟩ := RS_bd D k
      by_cases hq : k < n1
      · obtain ⟨b', off', rfl, hb', hq'⟩ := hsrq k hlt hq
        have hq'' := (hbel.cell (p := ⟨b', off' + k, none⟩) hb').trans hq'
        clear hq' hD hsrc hsrq hQ0
        go_wp2_with fail
        exact ⟨⟨k + 1, by omega, by go_num, rfl, hst.out.1, hst.out.2, ((hbel.setCell (Nat.le_refl _) _).setCell (Nat.le_refl _) _).setCell (Nat.le_refl _) _, by simpa using hsz⟩, by simp [intOf]; omega⟩
      · have hz := hid (hQ0 k hlt hq)
        clear hD hsrc hsrq hQ0
        go_wp2_with fail
        have hst' := hst.out
        rw [hz.out] at hst'
        exact ⟨⟨k + 1, by omega, by go_num, rfl, hst'.1, hst'.2, ((hbel.setCell (Nat.le_refl _) _).setCell (Nat.le_refl _) _).setCell (Nat.le_refl _) _, by simpa using hsz⟩, by simp [intOf]; omega⟩
    · obtain rfl : n = k := by omega
      have hv : ∀ i, i < n → FloatKind.f64.format.order (val i) (val i) = some .eq := fun i hi => val_ok i (by omega)
      have hR : ∀ i, i < n → -2147483648 ≤ RS D (i + 1) ∧ RS D (i + 1) ≤ 2147483647 := fun i hi => by have := RS_bd D (i + 1); omega
      have hmo := hid (blk_RS_mono D n hn)
      clear hD hsrc hsrq hQ0
      go_wp2_with fail
      refine (clone5 w.heap.size n (fun i => RS D (i + 1)) Q val _ hn hrow hsz).mono ?_
      rintro e w2 ⟨go, co, rfl, hgo1, hgo2, hrow2, hbel2⟩
      have hrow1 := hrow.below hbel2 hsz
      have hbelA : Below w.heap.size w w2 := hbel.trans (hbel2.mono (by omega))
      have hsz2 : w.heap.size < w2.heap.size := by omega
      have hf2 := fin_kept hf hbelA
      clear hrow hroom hbel hbel2 hsz
      go_wp2_with fail
      refine (spread6 w.heap.size n (fun i => RS D (i + 1)) Q val a2 _ hn hsz2 hrow1 hR hf2).mono ?_
      rintro e w3 ⟨g, pv, m, s, rfl, hg1, hg2, hpv, hown, hcuts, hsm, hbel3⟩
      have hrow1' := hrow1.below hbel3 hsz2
      have hrow2' := hrow2.below hbel3 hgo2
      have hbelB : Below w.heap.size w w3 := hbelA.trans (hbel3.mono (by omega))
      have hsz3 := hbel3.size
      obtain ⟨ga, cp, rfl, hpc⟩ := owned_pieces hown
      have hmn := cuts_le hcuts m (Nat.le_refl _)
      rw [hsm] at hmn
      have hs0 := hid hcuts.1
      have hcuts' := hid hcuts
      have hsm' := hid hsm
      clear hf2 hf hbel3 hbelA hrow1 hrow2 hown hcuts hsm hR
      obtain ⟨i3, hi3, hz3, hs3, hby3⟩ := info3'
      go_wp2_with fail
      have hstart := hid (At.start hcuts'.out hsm'.out)
      go_loopw [14, 67] (fun bv c wq => ∃ k j : Nat, k ≤ n ∧ c = .int .i64 k ∧ j ≤ m ∧ At s n m k j ∧ wq.ownsRow w3.heap.size 3 1 bv j (bnds s j) ∧ Below w3.heap.size w3 wq) (fun _ c _ => n - (intOf c).toNat)
      case atStart => exact ⟨0, 0, Nat.zero_le _, rfl, Nat.zero_le _, hstart.out, World.ownsRow_nil _ _ _ _, Below.refl _ _⟩
      case round =>
        obtain ⟨k, j, hk, rfl, hjm, hat, hown, hbq⟩ := hrel
        clear hstart
        by_cases hkn : k < n
        · obtain ⟨hj, hk2⟩ := hat.2.1 hkn
          have hat' := hid hat
          clear hat
          have hrq := hrow1'.below hbq (by omega)
          have p0 := (hrq k hkn).1
          rw [Nat.zero_add] at p0
          by_cases hB : k + 1 = s (j + 1)
          · have hnext := hid (At.next hcuts'.out hsm'.out hat'.out hkn hB)
            by_cases hN : k + 1 = n
            · have hg : (((k : Int) + 1) == (n : Int)) = true := by rw [beq_iff_eq]; omega
              have hB' := hid hB
              clear hB hN
              go_wp2_with fail
              go_quiet (fail)
              have hown5 : (wr.drewN nq).ownsRow w3.heap.size 3 1 u14 j (bnds s j) := hown
              have hbq5 : Below w3.heap.size w3 (wr.drewN nq) := below_drewN hbq nq
              clear hown hbq hrq
              generalize wr.drewN nq = w5 at *
              go_wp2_with (at_builtin; refine wpList_append_lies _ (by rfl) _ _ 31 (by rfl) w3.heap.size 3 i3 _ 1 8 Yba.underlying31 hi3 hz3 hs3 hby3 (by rfl) (by decide) u14 j (bnds s j) (by rfl) ?_ ⟨w5.heap.size, 0, none⟩ 1 1 [.int .i64 ((k : Int) + 1)] (by rfl) (by rfl) ?_ ?_ (by decide) ?_ ?_ ?_ _ rfl ?_)
              · exact hown5.alloc _
              · intro j u hj
                match j, hj with
                | 0, hj => simp at hj; subst hj; simp [Addr.add]
              · intro u hu; simp at hu; subst hu; rfl
              · unfold maxLen; omega
              · omega
              · have := hbq5.size; simp; omega
              · intro gg cg w6 hown6 hgrow _ _
                obtain ⟨x1, x2⟩ := bnds_step hown5 hbq5 hown6 hgrow hB'.out
                clear hown5 hbq5 hown6 hgrow
                go_wp2_with fail
                exact ⟨⟨k + 1, j + 1, by omega, by go_num, by omega, hnext.out, x1, x2⟩, by simp [intOf]; omega⟩
            · have hg : (((k : Int) + 1) == (n : Int)) = false := by rw [beq_eq_false_iff_ne]; omega
              have hkn1 : k + 1 < n := by omega
              have hB' := hid hB
              have p1 := (hrq (k + 1) hkn1).1
              rw [Nat.zero_add] at p1
              have hne : (wrap32 ((RS D (k + 1 + 1)).tdiv 32768) != wrap32 ((RS D (k + 1)).tdiv 32768)) = true := by
                rw [bne_iff_ne]
                exact cut_yes hcuts'.out hmo.out hj hat'.out.1 hB hkn1
              clear hB hN
              go_wp2_with fail
              go_quiet (fail)
              have hown5 : (wr.drewN nq).ownsRow w3.heap.size 3 1 u14 j (bnds s j) := hown
              have hbq5 : Below w3.heap.size w3 (wr.drewN nq) := below_drewN hbq nq
              clear hown hbq hrq
              generalize wr.drewN nq = w5 at *
              go_wp2_with (at_builtin; refine wpList_append_lies _ (by rfl) _ _ 31 (by rfl) w3.heap.size 3 i3 _ 1 8 Yba.underlying31 hi3 hz3 hs3 hby3 (by rfl) (by decide) u14 j (bnds s j) (by rfl) ?_ ⟨w5.heap.size, 0, none⟩ 1 1 [.int .i64 ((k : Int) + 1)] (by rfl) (by rfl) ?_ ?_ (by decide) ?_ ?_ ?_ _ rfl ?_)
              · exact hown5.alloc _
              · intro j u hj
                match j, hj with
                | 0, hj => simp at hj; subst hj; simp [Addr.add]
              · intro u hu; simp at hu; subst hu; rfl
              · unfold maxLen; omega
              · omega
              · have := hbq5.size; simp; omega
              · intro gg cg w6 hown6 hgrow _ _
                obtain ⟨x1, x2⟩ := bnds_step hown5 hbq5 hown6 hgrow hB'.out
                clear hown5 hbq5 hown6 hgrow
                go_wp2_with fail
                exact ⟨⟨k + 1, j + 1, by omega, by go_num, by omega, hnext.out, x1, x2⟩, by simp [intOf]; omega⟩
          · have hB2 : k + 1 < s (j + 1) := by omega
            have hs2 := (hcuts'.out.2 j hj).2.1
            have hg : (((k : Int) + 1) == (n : Int)) = false := by rw [beq_eq_false_iff_ne]; omega
            have hkn1 : k + 1 < n := by omega
            have p1 := (hrq (k + 1) hkn1).1
            rw [Nat.zero_add] at p1
            have hne : (wrap32 ((RS D (k + 1 + 1)).tdiv 32768) != wrap32 ((RS D (k + 1)).tdiv 32768)) = false := by
              rw [bne_eq_false_iff_eq]
              exact cut_no hcuts'.out hmo.out hj hat'.out.1 hB2
            have hstay := hid (At.stay hcuts'.out hat'.out hkn hB2)
            clear hB
            go_wp2_with fail
            go_quiet (fail)
            go_wp2_with fail
            exact ⟨⟨k + 1, j, by omega, by go_num, hjm, hstay.out, hown, below_drewN hbq _⟩, by simp [intOf]; omega⟩
        · obtain rfl : n = k := by omega
          obtain rfl : m = j := (hat.2.2 rfl).symm
          obtain ⟨ba, cb, rfl, hbc⟩ := owned_bnds hown
          have hpv' := (hbq.cell (p := ⟨g, 0, none⟩) hg2).trans hpv
          have hbC : Below w.heap.size w wr := hbelB.trans (hbq.mono (by omega))
          have hrA := hrow1'.below hbq (by omega)
          have hrB := hrow2'.below hbq (by omega)
          have hzq := hbq.size
          have hpc' : ∀ j, j < m → ∃ g, ga = some ⟨g, 0, none⟩ ∧ g < wr.heap.size ∧ wr.cell? ⟨g, j, none⟩ = some (piece w.heap.size n s j) := fun j hj => by
            obtain ⟨g2, e1, e2, e3⟩ := hpc j hj
            exact ⟨g2, e1, by omega, (hbq.cell (p := ⟨g2, j, none⟩) e2).trans e3⟩
          clear hpc hpv hrow1' hrow2' hown hat hbelB hbq hmo hi3 hz3 hs3 hby3
          go_wp2_with fail
          go_loopw [16, 106] (fun st c wq => ∃ j mm : Nat, j ≤ m ∧ c = .int .i64 j ∧ st = .int .i64 (s j) ∧ wq = wr.drewN mm) (fun _ c _ => m - (intOf c).toNat)
          case atStart => exact ⟨0, 0, Nat.zero_le _, rfl, by rw [hs0.out]; rfl, rfl⟩
          case round =>
            obtain ⟨j, mm, hj, rfl, rfl, rfl⟩ := hrel
            by_cases hjm : j < m
            · obtain ⟨g2, rfl, hg2', hpj⟩ := hpc' j hjm
              obtain ⟨g3, rfl, hg3', hbj⟩ := hbc j hjm
              obtain ⟨hs1, hs2, _, _⟩ := hcuts'.out.2 j hjm
              simp only [piece] at hpj
              have hne : (((s (j + 1) - s j : Nat) : Int) != ((s (j + 1) : Nat) : Int) - ((s j : Nat) : Int)) = false := by rw [bne_eq_false_iff_eq]; omega
              go_wp2_with fail
              go_loopw [125] (fun c wq => ∃ k mm : Nat, k ≤ s (j + 1) - s j ∧ c = .int .i64 k ∧ wq = wr.drewN mm) (fun c _ => (s (j + 1) - s j) - (intOf c).toNat)
              case atStart => exact ⟨0, mm, Nat.zero_le _, rfl, rfl⟩
              case round =>
                obtain ⟨k, mk, hk, rfl, rfl⟩ := hrel
                by_cases hkl : k < s (j + 1) - s j
                · obtain ⟨p0, p1, p2⟩ := hrA (s j + k) (by omega)
                  obtain ⟨q0, q1, q2⟩ := hrB (s j + k) (by omega)
                  rw [show 0 + (s j + k) * 3 = s j * 3 + k * 3 from by omega] at p0 p1 p2
                  rw [Nat.zero_add] at q0 q1 q2
                  have hneq := neq27 (RS D (s j + k + 1)) (Q (s j + k)) (val (s j + k)) (hv _ (by omega))
                  go_wp2_with fail
                  go_quiet (fail)
                  go_wp2_with fail
                  exact ⟨⟨k + 1, _, by omega, by go_num, rfl⟩, by simp [intOf]; omega⟩
                · go_wp2_with fail
                  exact ⟨⟨j + 1, mk, by omega, by go_num, rfl, rfl⟩, by simp [intOf]; omega⟩
            · obtain rfl : m = j := by omega
              go_wp2_with fail
              refine (equal7 w.heap.size 0 n go 0 co n (fun i => RS D (i + 1)) Q val _ hn hrA.drewN hrB.drewN hv).mono ?_
              rintro e w4 ⟨rfl, mk, rfl⟩
              go_wp2_with fail
              go_ret
              exact ⟨rfl, below_drewN hbC _⟩

end Go.Proofs.Ybulkbihk
