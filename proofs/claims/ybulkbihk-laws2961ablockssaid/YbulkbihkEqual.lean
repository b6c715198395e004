/-
  '==' on two edges; slices.Equal on two rows of edges that read alike.
-/
import Derived.Test.YbulkbihkSearch
import Derived.Laws.StructEq
import Derived.Laws.Cover2
namespace Go.Proofs.Ybulkbihk
open Go.RowKit

theorem run_equalIn_float {P : Program} (w : World) (d : Nat) (t : TypeId) (k k' : FloatKind) (a b : Nat) (h : P.underlying t = some (.float k')) :
    (Op.equalIn (d + 1) t (.float k a) (.float k b)).run P w = .ok (k.format.order a b == some .eq) w := by
  simp [Op.equalIn, run_underlying h, Op.floatEq]

/-- An edge is equal to itself, where its value is no NaN. -/
theorem eq27 (r q : Int) (v : Nat) (hv : FloatKind.f64.format.order v v = some .eq) (w : World) :
    (Op.equalIn 10000 27 (.agg #[.int .i32 r, .int .i32 q, .float .f64 v]) (.agg #[.int .i32 r, .int .i32 q, .float .f64 v])).run Yba.prog w = .ok true w := by
  have u25 := fun d a b w => run_equalIn_float (P := Yba.prog) w d 25 .f64 .f64 a b (by kernel_rfl)
  have hS : Yba.prog.underlying 27 = some (.struct (Yba.prog.fieldsOf 27)) := by kernel_rfl
  rw [show (10000 : Nat) = 9999 + 1 from rfl, run_equalIn_agg w 9999 27 _ _ hS (by kernel_rfl)]
  simp only [Program.fieldsOf, Yba.underlying27]
  go_simp

theorem neq27 (r q : Int) (v : Nat) (hv : FloatKind.f64.format.order v v = some .eq) (w : World) :
    (binOp .neq 27 (.agg #[.int .i32 r, .int .i32 q, .float .f64 v]) (.agg #[.int .i32 r, .int .i32 q, .float .f64 v])).run Yba.prog w = .ok (.bool false) w := by
  rw [run_neq_struct, eq27 r q v hv]
  rfl

theorem Row.drewN {w : World} {b off n m : Nat} {r q : Nat → Int} {v : Nat → Nat} (h : Row w b off n r q v) : Row (w.drewN m) b off n r q v := by
  intro i hi
  have := h i hi
  go_simp

set_option maxHeartbeats 1000000 in
theorem equal7 (b1 o1 c1 b2 o2 c2 n : Nat) (r q : Nat → Int) (v : Nat → Nat) (w : World) (hn : n ≤ 1024) (h1 : Row w b1 o1 n r q v) (h2 : Row w b2 o2 n r q v)
    (hv : ∀ i, i < n → FloatKind.f64.format.order (v i) (v i) = some .eq) :
    Calls Yba.prog 7 #[.slice (some ⟨b1, o1, none⟩) n c1, .slice (some ⟨b2, o2, none⟩) n c2] w fun e w' => e = .returned (.bool true) ∧ ∃ m, w' = w.drewN m := by
  go_enter Yba.func7, Yba.ntmps7
  go_wp2_with fail
  go_loopw [13] (fun i wr => ∃ k m : Nat, k ≤ n ∧ i = .int .i64 k ∧ wr = w.drewN m) (fun i _ => n - (intOf i).toNat)
  case atStart => exact ⟨0, 0, by omega, rfl, rfl⟩
  case round =>
    obtain ⟨k, m, hk, rfl, rfl⟩ := hrel
    by_cases hlt : k < n
    · obtain ⟨p0, p1, p2⟩ := h1 k hlt
      obtain ⟨s0, s1, s2⟩ := h2 k hlt
      have hne := neq27 (r k) (q k) (v k) (hv k hlt)
      go_wp2_with fail
      go_quiet (fail)
      go_wp2_with fail
      exact ⟨⟨k + 1, _, by omega, by go_num, rfl⟩, by simp [intOf]; omega⟩
    · go_wp2_with fail
      go_ret
      exact ⟨rfl, m, rfl⟩

end Go.Proofs.Ybulkbihk
