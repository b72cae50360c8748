/-
  Seat b3059a: the walk of LawS3059COverflow (function 4).
-/
import Derived.Test.YbulkbkieTop
import Derived.Outline
namespace Go.Proofs.Ybulkbkie
open Go.RowKit
set_option linter.unusedVariables false

theorem neq_over (w : World) : (binOp .neq 30 (.iface 52 (.string ⟨#[115, 116, 97, 99, 107, 32, 111, 118, 101, 114, 102, 108, 111, 119]⟩)) (.iface 52 (.string ⟨#[115, 116, 97, 99, 107, 32, 111, 118, 101, 114, 102, 108, 111, 119]⟩))).run Yba.prog w = .ok (.bool false) w := by kernel_rfl
theorem guard_over (x y : Operand) (w : World) : (eqGuard .neq 30 x y (.iface 52 (.string ⟨#[115, 116, 97, 99, 107, 32, 111, 118, 101, 114, 102, 108, 111, 119]⟩)) (.iface 52 (.string ⟨#[115, 116, 97, 99, 107, 32, 111, 118, 101, 114, 102, 108, 111, 119]⟩))).run Yba.prog w = .ok () w := by kernel_rfl

theorem Segs.alloc {w : World} {B : Nat} {z : Nat → Int} {xs : List Value} {ok : Nat → Prop} (h : Segs w B z xs ok) (o : Obj) : Segs (w.alloc o) B z xs ok :=
  h.kept fun b c hb => heap_alloc_old w o (lt_of_block hb)

set_option maxHeartbeats 3200000 in
theorem over_law (a0 : Option Addr) (len cap : Nat) (z : Nat → Int) (a1 a2 a3 : Int) (w : World) (L : Lens w a0 len z) (hl63 : len ≤ 9223372036854775807) (h1 : 0 ≤ a1) (h1' : a1 ≤ 65535) (h2 : 0 ≤ a2) (h2' : a2 ≤ 65535) (h3 : 0 ≤ a3) (h3' : a3 ≤ 4294967295) :
    Calls Yba.prog 4 #[.slice a0 len cap, .int .u16 a1, .int .u16 a2, .int .u32 a3] w fun e w' => e = .returned (.bool true) ∧ Below w.heap.size w w' := by
  by_cases hlen : 256 < len
  · go_enter Yba.func4, Yba.ntmps4
    go_wp2
    go_ret
    exact ⟨rfl, Below.refl _ _⟩
  · have HL := hide L
    obtain ⟨ix, hix⟩ : ∃ ix : Int, a1 % ((len : Int) + 1) = ix := ⟨_, rfl⟩
    have hix0 : 0 ≤ ix := by rw [← hix]; exact Int.emod_nonneg _ (by omega)
    have hix1 : ix ≤ len := by have := Int.emod_lt_of_pos a1 (show (0 : Int) < (len : Int) + 1 by omega); omega
    have Hix := hide hix
    clear L hix
    go_enter Yba.func4, Yba.ntmps4
    go_wp2_with fail
    refine (build_any a0 len cap z w (by omega) (unhide HL)).mono ?_
    rintro e w1 ⟨rfl, ⟨v1, v2, xs, ys, S, hS, hE⟩, hB⟩
    have L1 := (unhide HL).below hB
    have HS := hide S
    have HSg := hide hS
    have HE := hide hE
    have HB := hide hB
    have HL1 := hide L1
    clear S hS hE hB L1
    go_wp2
    rw [unhide Hix]
    go_loop [12, 13] (fun s t => ∃ j : Nat, j ≤ len ∧ t = .int .i64 j ∧ s = .int .i64 (sumBut z ix j)) (fun _ t => len - (intOf t).toNat)
    case atStart => exact ⟨0, Nat.zero_le _, rfl, by simp [sumBut]⟩
    case round =>
      obtain ⟨j, hj, rfl, rfl⟩ := hrel
      have hsb := sumBut_bd z ix j
      by_cases hlt : j < len
      · obtain ⟨b, off, rfl, hbl, hz, hc⟩ : ∃ b off, a0 = some ⟨b, off, none⟩ ∧ b < w1.heap.size ∧ (0 ≤ z j ∧ z j ≤ 255) ∧ w1.cell? ⟨b, off + j, none⟩ = some (.int .u8 (z j)) := by
          rcases unhide HL1 with h | ⟨b, off, q1, q2, q3, q4⟩
          · omega
          · exact ⟨b, off, q1, q2, q3 j hlt, q4 j hlt⟩
        by_cases hne : (j : Int) = ix
        · have hb : ((j : Int) != ix) = false := by simp [hne]
          have Hne := hide hne
          clear hne
          go_wp2
          go_round
          case rel => exact ⟨j + 1, by omega, by go_num, by simp [sumBut, unhide Hne]⟩
          case measure => simp [intOf]; omega
        · have hb : ((j : Int) != ix) = true := by simp [hne]
          go_wp2
          go_round
          case rel => exact ⟨j + 1, by omega, by go_num, by simp only [sumBut, if_neg hne]⟩
          case measure => simp [intOf]; omega
      · have hjn : j = len := by omega
        subst hjn
        have hneq := neq_over
        have hgd := guard_over
        go_wp2_with fail
        refine (newseg_over w.heap.size j w.heap.size _ ix _ z v1 v2 xs ys _ ((unhide HS).alloc _) ((unhide HSg).alloc _) (by omega) (by omega) (by omega) (by omega)).mono ?_
        rintro e w2 ⟨rfl, rfl⟩
        obtain ⟨p1, p2, rfl⟩ := own_form (unhide HS).2.1
        obtain ⟨p3, p4, rfl⟩ := own_form (unhide HS).2.2
        obtain ⟨c0, c1, c2, hfz⟩ := (unhide HS).fields
        have hslt := lt_of_block (unhide HS).1
        go_wp2_with fail
        refine (kept_any w.heap.size w.heap.size j j cap a0 (-1) z _ _ xs ys _ (by omega) (Nat.le_refl _) (by omega) (by omega) (by omega) ((unhide HL1).below ((Below.refl _ w1).alloc (Nat.le_refl _) _)) ((unhide HS).alloc _) (fun i hi => (unhide HSg).alloc _ i hi.1) (fun i hi => unhide HE i hi.1)).mono ?_
        rintro e w2 ⟨rfl, rfl⟩
        go_wp2
        go_ret
        exact ⟨rfl, (unhide HB).alloc (by omega) _⟩

end Go.Proofs.Ybulkbkie
