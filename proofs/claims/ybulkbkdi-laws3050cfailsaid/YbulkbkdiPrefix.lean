/-
  Seat b3050a: zzs3050cprefix.
-/
import Derived.Test.YbulkbkdiLog
import Derived.Laws.StructEq
namespace Go.Proofs.Ybulkbkdi
open Go.RowKit

/-- The n records X lie behind the address q. -/
def RecsAt (W : World) (q : Option Addr) (n : Nat) (X : Nat → Rec) : Prop := ∀ i, i < n → ∃ b o, q = some ⟨b, o, none⟩ ∧ W.cell? ⟨b, o + i * 3, none⟩ = some (.int .u8 (X i).1) ∧ W.cell? ⟨b, o + i * 3 + 1, none⟩ = some (.int .u8 (X i).2.1) ∧ W.cell? ⟨b, o + i * 3 + 2, none⟩ = some (.int .u8 (X i).2.2)

set_option maxHeartbeats 1600000 in
set_option maxRecDepth 1000000 in
theorem prefix_walk (W : World) (b1 o1 n c1 b2 o2 m c2 : Nat) (X Y : Nat → Rec) (want : Nat) (hX : RecsAt W (some ⟨b1, o1, none⟩) n X) (hY : RecsAt W (some ⟨b2, o2, none⟩) m Y) (hm : m < 1000000) (hwm : want ≤ m) (hwn : n = want) (heq : ∀ i, i < want → X i = Y i) :
    Calls Yba.prog 9 #[.slice (some ⟨b1, o1, none⟩) n c1, .slice (some ⟨b2, o2, none⟩) m c2, .int .i64 want] W fun e w' => e = .returned (.bool true) ∧ ∃ q, w' = W.drewN q := by
  subst hwn
  have HX := hide hX
  have HY := hide hY
  have HE := hide heq
  clear hX hY heq
  go_enter Yba.func9, Yba.ntmps9
  go_wp2
  go_loopg [7] n (fun g v wr => ∃ (i q : Nat), v = .int .i64 i ∧ i ≤ n ∧ n - i ≤ g ∧ Hid (wr = W.drewN q))
  case atStart => exact ⟨0, 0, rfl, Nat.zero_le _, Nat.le_refl _, hide rfl⟩
  case round =>
    obtain ⟨i, q, rfl, hin, hg, hw⟩ := hrel
    by_cases hlt : i < n
    · obtain ⟨b, o, hq, x0, x1, x2⟩ := HX.out i hlt
      cases hq
      obtain ⟨b, o, hq, y0, y1, y2⟩ := HY.out i (by omega)
      cases hq
      rw [← HE.out i hlt] at y0 y1 y2
      have x0' : wr.cell? ⟨b1, o1 + i * 3, none⟩ = some (.int .u8 (X i).1) := by rw [hw.out]; exact x0
      have x1' : wr.cell? ⟨b1, o1 + i * 3 + 1, none⟩ = some (.int .u8 (X i).2.1) := by rw [hw.out]; exact x1
      have x2' : wr.cell? ⟨b1, o1 + i * 3 + 2, none⟩ = some (.int .u8 (X i).2.2) := by rw [hw.out]; exact x2
      have y0' : wr.cell? ⟨b2, o2 + i * 3, none⟩ = some (.int .u8 (X i).1) := by rw [hw.out]; exact y0
      have y1' : wr.cell? ⟨b2, o2 + i * 3 + 1, none⟩ = some (.int .u8 (X i).2.1) := by rw [hw.out]; exact y1
      have y2' : wr.cell? ⟨b2, o2 + i * 3 + 2, none⟩ = some (.int .u8 (X i).2.2) := by rw [hw.out]; exact y2
      clear x0 x1 x2 y0 y1 y2
      generalize X i = x at *
      go_wp2_with fail
      go_region
      all_goals go_wp2
      go_roundg (n - (i + 1))
      case measure => omega
      case rel => exact ⟨i + 1, q + 1, by go_num, by omega, Nat.le_refl _, by show wr.drew = _; rw [hw.out]; rfl⟩
    · go_wp2
      go_ret
      exact ⟨rfl, q, hw.out⟩

set_option maxHeartbeats 1600000 in
set_option maxRecDepth 1000000 in
/-- Nothing wanted, nothing logged. -/
theorem prefix_zero (W : World) (q1 q2 : Option Addr) (c1 m c2 : Nat) (hm : m < 1000000) :
    Calls Yba.prog 9 #[.slice q1 0 c1, .slice q2 m c2, .int .i64 (0 : Nat)] W fun e w' => e = .returned (.bool true) ∧ ∃ q, w' = W.drewN q := by
  have hz : ¬ ((m : Int) < 0) := by omega
  go_enter Yba.func9, Yba.ntmps9
  go_wp2
  refine wp_loop_rounds 1 ?_
  rw [rounds_succ]
  go_wp2
  go_ret
  exact ⟨rfl, 0, rfl⟩
end Go.Proofs.Ybulkbkdi
