/-
  The walk of zzs3059acheck (function 5): true at every height.
-/
import Derived.Test.YbulkbkieFmtWalks
import Derived.BigQuiet
import Derived.Deep.QuietTactic
import Derived.Laws.StructEq
namespace Go.Proofs.YbulkbkieFmt
open Go.RowKit Go.Extern.Stop Go.Stop Go.Extern

set_option maxHeartbeats 800000 in
theorem check_below (h l c : Int) (w : World) (h1 : -9223372036854775808 ≤ h) (h2 : h < 10000) :
    Calls Ybaf.prog 5 #[.int .i64 h, .agg #[.int .i64 l, .int .i64 c]] w fun e w' =>
      e = .returned (.bool true) ∧ Below w.heap.size w w' := by
  go_enter Ybaf.func5, Ybaf.ntmps5
  go_wp2_with (go_at_call 6; refine (enclosing_below _ _ _ _ h1 h2).mono ?_; rintro e w' ⟨rfl, rfl⟩)
  go_ret
  exact ⟨rfl, ((Below.refl _ w).alloc (Nat.le_refl _) _).alloc (by simp) _⟩

set_option maxHeartbeats 800000 in
theorem check_wrap (h l c : Int) (w : World) (hm : wrap64 (h + 1) ≤ 10000) (hlt : ¬ h < 10000) (hmax : (h == 9223372036854775807) = true) :
    Calls Ybaf.prog 5 #[.int .i64 h, .agg #[.int .i64 l, .int .i64 c]] w fun e w' =>
      e = .returned (.bool true) ∧ Below w.heap.size w w' := by
  go_enter Ybaf.func5, Ybaf.ntmps5
  go_wp2_with (go_at_call 6; refine (enclosing_wrap _ _ _ _ hm).mono ?_; rintro e w' ⟨rfl, rfl⟩)
  go_ret
  exact ⟨rfl, ((Below.refl _ w).alloc (Nat.le_refl _) _).alloc (by simp) _⟩

/-- token.Pos against itself. -/
theorem eqPos (l c : Int) (w : World) : (binOp .eql 24 (.agg #[.int .i64 l, .int .i64 c]) (.agg #[.int .i64 l, .int .i64 c])).run Ybaf.prog w = .ok (.bool true) w := by
  have u3 := Ybaf.underlying3
  have a3 := Ybaf.isAgg3
  have z3 := Ybaf.sizeOf3
  have hS : Ybaf.prog.underlying 24 = some (.struct (Ybaf.prog.fieldsOf 24)) := by kernel_rfl
  have hp : Ybaf.prog.stoodInHeld 24 = false := by kernel_rfl
  rw [run_eql_struct, show (10000 : Nat) = 9999 + 1 from rfl, run_equalIn_agg w 9999 24 _ _ hS hp]
  simp only [Program.fieldsOf, Ybaf.underlying24]
  go_simp
theorem guardPos (op : BinOp) (x y : Operand) (xs ys : Array Value) (w : World) : (eqGuard op 24 x y (.agg xs) (.agg ys)).run Ybaf.prog w = .ok () w :=
  run_eqGuard_agg w op 24 x y xs ys (by kernel_rfl)

set_option maxHeartbeats 800000 in
theorem check_past (F : Interp) (h l c : Int) (w : World) (hF : F.answers w.tape) (h1 : 10000 ≤ h) (h2 : h < 9223372036854775807) :
    Calls Ybaf.prog 5 #[.int .i64 h, .agg #[.int .i64 l, .int .i64 c]] w fun e w' =>
      e = .returned (.bool true) ∧ Below w.heap.size w w' := by
  have hmax : (h == 9223372036854775807) = false := beq_eq_false_iff_ne.2 (by omega)
  have hta : ∀ (a : Addr) (w : World), (Instr.typeAssert (.iface 31 (.pointer (some a))) 28 31 true).run Ybaf.prog w = .ok (.tuple #[.pointer (some a), .bool true]) w := fun _ _ => by kernel_rfl
  go_enter Ybaf.func5, Ybaf.ntmps5
  go_wp2_with (go_at_call 6; refine (enclosing_past F _ _ _ _ (by exact hF) h1 h2).mono ?_; rintro e w' ⟨rfl, rfl⟩)
  have heq := eqPos l c
  have hgd := guardPos
  go_quiet (fail)
  go_wp2
  go_ret
  refine ⟨rfl, below_drewN ?_ _⟩
  exact (((((((Below.refl _ w).alloc (Nat.le_refl _) _).alloc (by simp) _).alloc (by simp; omega) _).alloc (by simp; omega) _).alloc (by simp; omega) _).drew).drew

/-- zzs3059acheck answers true at every height and place. -/
theorem check_any (F : Interp) (h l c : Int) (w : World) (hF : F.answers w.tape) (h1 : -9223372036854775808 ≤ h) (h2 : h ≤ 9223372036854775807) :
    Calls Ybaf.prog 5 #[.int .i64 h, .agg #[.int .i64 l, .int .i64 c]] w fun e w' =>
      e = .returned (.bool true) ∧ Below w.heap.size w w' := by
  by_cases a : h < 10000
  · exact check_below h l c w h1 a
  · by_cases b : h = 9223372036854775807
    · exact check_wrap h l c w (by rw [b]; unfold wrap64; omega) a (beq_iff_eq.2 b)
    · exact check_past F h l c w hF (by omega) (by omega)

set_option maxHeartbeats 800000 in
/-- LawS3059AExact. -/
theorem exact_any (F : Interp) (h l c : Int) (w : World) (hF : F.answers w.tape) (h1 : -9223372036854775808 ≤ h) (h2 : h ≤ 9223372036854775807) :
    Calls Ybaf.prog 3 #[.int .i64 h, .int .i64 l, .int .i64 c] w fun e w' => e = .returned (.bool true) ∧ Below w.heap.size w w' := by
  go_enter Ybaf.func3, Ybaf.ntmps3
  go_wp2_with (go_at_call 5; refine (check_any F _ _ _ _ (by exact hF) (by omega) (by omega)).mono ?_; rintro e w' ⟨rfl, hb⟩)
  go_ret
  exact ⟨rfl, hb⟩

set_option maxHeartbeats 800000 in
/-- LawS3059ABoundary. -/
theorem boundary_any (F : Interp) (d l c : Int) (w : World) (hF : F.answers w.tape) (h1 : 0 ≤ d) (h2 : d ≤ 255) :
    Calls Ybaf.prog 4 #[.int .u8 d, .int .i64 l, .int .i64 c] w fun e w' => e = .returned (.bool true) ∧ Below w.heap.size w w' := by
  go_enter Ybaf.func4, Ybaf.ntmps4
  go_wp2_with (go_at_call 5; refine (check_any F _ _ _ _ (by exact hF) (by omega) (by omega)).mono ?_; rintro e w' ⟨rfl, hb⟩)
  go_ret
  exact ⟨rfl, hb⟩

end Go.Proofs.YbulkbkieFmt
