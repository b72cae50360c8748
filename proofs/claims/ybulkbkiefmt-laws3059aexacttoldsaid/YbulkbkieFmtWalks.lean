/-
  The walks of seat b3059aF: token.Errorf, tooDeep, enclosing, zzs3059acheck, for every F (what fmt answers).
-/
import Derived.Test.YbulkbkieFmtCards
import Derived.WalkKit
import Derived.WalkSpells
import Derived.WalkLawsBesides
import Derived.Stop.CallBack
import Derived.Stop.IfaceNil
import Derived.Deep.RegionWith
import Derived.Outline
namespace Go.Proofs.YbulkbkieFmt
open Go.RowKit Go.Extern.Stop Go.Stop Go.Extern

theorem Ybaf.call9 (args : Array Value) (w : World) : (callFunc 9 args).run Ybaf.prog w = (FmtCalls.sprintf #[9, 37] #[9] args).run Ybaf.prog w :=
  run_callFunc_next Ybaf.func9 (by kernel_rfl) (by kernel_rfl) (by kernel_rfl) args w
theorem Ybaf.guard (name : String) (w : World) : (FmtStop.guard name).run Ybaf.prog w = .ok () w := by kernel_rfl
theorem Ybaf.nextTurns : Extern.next FmtCalls.turnsRow = some (FmtCalls.begun #[] #[]) := by kernel_rfl
/-- "expression nested too deeply" -/
theorem Ybaf.fmt0 : FmtStop.printed? ⟨#[101, 120, 112, 114, 101, 115, 115, 105, 111, 110, 32, 110, 101, 115, 116, 101, 100, 32, 116, 111, 111, 32, 100, 101, 101, 112, 108, 121]⟩ 0 = some [] := by kernel_rfl

attribute [local go_sem] Ybaf.call9 Ybaf.guard Ybaf.fmt0

/-- What fmt's text is, for whatever F. -/
def msg (F : Interp) : ByteArray := FmtStop.textOf (F "fmt.Sprintf" [[101, 120, 112, 114, 101, 115, 115, 105, 111, 110, 32, 110, 101, 115, 116, 101, 100, 32, 116, 111, 111, 32, 100, 101, 101, 112, 108, 121]] 0)

set_option maxHeartbeats 800000 in
theorem errorf_any (F : Interp) (l c : Int) (w : World) (hF : F.answers w.tape) :
    Calls Ybaf.prog 8 #[.agg #[.int .i64 l, .int .i64 c], .string ⟨#[101, 120, 112, 114, 101, 115, 115, 105, 111, 110, 32, 110, 101, 115, 116, 101, 100, 32, 116, 111, 111, 32, 100, 101, 101, 112, 108, 121]⟩, .slice none 0 0] w fun e w' =>
      e = .returned (.pointer (some ⟨w.heap.size + 1, 0, none⟩)) ∧ w' = ((w.alloc (.cells #[.int .i64 l, .int .i64 c] 24)).alloc (.cells #[.int .i64 l, .int .i64 c, .string (msg F)] 34)).drew.drew := by
  have hF' := answers_open hF
  go_enter Ybaf.func8, Ybaf.ntmps8
  go_wp2
  go_region_with (apply rows_value Ybaf.nextTurns; (case hr => go_simp; exact ⟨rfl, rfl⟩))
  all_goals (go_wp2; go_ret; exact ⟨rfl, rfl⟩)

set_option maxHeartbeats 800000 in
/-- tooDeep. -/
theorem tooDeep_any (F : Interp) (l c : Int) (w : World) (hF : F.answers w.tape) :
    Calls Ybaf.prog 7 #[.agg #[.int .i64 l, .int .i64 c]] w fun e w' =>
      e = .returned (.iface 31 (.pointer (some ⟨w.heap.size + 2, 0, none⟩))) ∧
      w' = (((w.alloc (.cells #[.int .i64 l, .int .i64 c] 24)).alloc (.cells #[.int .i64 l, .int .i64 c] 24)).alloc (.cells #[.int .i64 l, .int .i64 c, .string (msg F)] 34)).drew.drew := by
  go_enter Ybaf.func7, Ybaf.ntmps7
  go_wp2_with (go_at_call 8; refine (errorf_any F _ _ _ (by exact hF)).mono ?_; rintro e w' ⟨rfl, rfl⟩)
  go_ret
  exact ⟨rfl, rfl⟩

set_option maxHeartbeats 800000 in
/-- enclosing, past the bound. -/
theorem enclosing_past (F : Interp) (h l c : Int) (w : World) (hF : F.answers w.tape) (h1 : 10000 ≤ h) (h2 : h < 9223372036854775807) :
    Calls Ybaf.prog 6 #[.int .i64 h, .agg #[.int .i64 l, .int .i64 c]] w fun e w' =>
      e = .returned (.tuple #[.int .i64 0, .iface 31 (.pointer (some ⟨w.heap.size + 3, 0, none⟩))]) ∧
      w' = ((((w.alloc (.cells #[.int .i64 l, .int .i64 c] 24)).alloc (.cells #[.int .i64 l, .int .i64 c] 24)).alloc (.cells #[.int .i64 l, .int .i64 c] 24)).alloc (.cells #[.int .i64 l, .int .i64 c, .string (msg F)] 34)).drew.drew := by
  go_enter Ybaf.func6, Ybaf.ntmps6
  go_wp2_with (go_at_call 7; refine (tooDeep_any F _ _ _ (by exact hF)).mono ?_; rintro e w' ⟨rfl, rfl⟩)
  go_ret2
  exact ⟨rfl, rfl⟩

set_option maxHeartbeats 800000 in
/-- enclosing, below the bound. -/
theorem enclosing_below (h l c : Int) (w : World) (h1 : -9223372036854775808 ≤ h) (h2 : h < 10000) :
    Calls Ybaf.prog 6 #[.int .i64 h, .agg #[.int .i64 l, .int .i64 c]] w fun e w' =>
      e = .returned (.tuple #[.int .i64 (h + 1), .nilIface]) ∧ w' = w.alloc (.cells #[.int .i64 l, .int .i64 c] 24) := by
  go_enter Ybaf.func6, Ybaf.ntmps6
  go_wp2
  go_ret2
  exact ⟨rfl, rfl⟩

set_option maxHeartbeats 800000 in
/-- enclosing, where the sum wraps round (at the greatest int). -/
theorem enclosing_wrap (h l c : Int) (w : World) (hm : wrap64 (h + 1) ≤ 10000) :
    Calls Ybaf.prog 6 #[.int .i64 h, .agg #[.int .i64 l, .int .i64 c]] w fun e w' =>
      e = .returned (.tuple #[.int .i64 (wrap64 (h + 1)), .nilIface]) ∧ w' = w.alloc (.cells #[.int .i64 l, .int .i64 c] 24) := by
  go_enter Ybaf.func6, Ybaf.ntmps6
  go_wp2
  go_ret2
  exact ⟨rfl, rfl⟩

end Go.Proofs.YbulkbkieFmt
