/-
  Seat b3059a: the walk of LawS3059CMakes (function 3).
-/
import Derived.Test.YbulkbkieTop
import Derived.Outline
namespace Go.Proofs.Ybulkbkie
open Go.RowKit
set_option linter.unusedVariables false

theorem Segs.alloc {w : World} {B : Nat} {z : Nat → Int} {xs : List Value} {ok : Nat → Prop} (h : Segs w B z xs ok) (o : Obj) : Segs (w.alloc o) B z xs ok :=
  h.kept fun b c hb => heap_alloc_old w o (lt_of_block hb)

set_option maxHeartbeats 3200000 in
/-- The place is the count: the segment is appended. -/
theorem makes_end (a0 : Option Addr) (len cap m : Nat) (z : Nat → Int) (a1 a2 a3 : Int) (w : World) (L : Lens w a0 len z) (hlen : len ≤ 256) (h1 : 0 ≤ a1) (h1' : a1 ≤ 65535) (h2 : 0 ≤ a2) (h2' : a2 ≤ 65535) (h3 : 0 ≤ a3) (h3' : a3 ≤ 4294967295)
    (hix : a1 % ((len : Int) + 1) = (len : Int)) (hm : a2 % 4097 = (m : Int)) :
    Calls Yba.prog 3 #[.slice a0 len cap, .int .u16 a1, .int .u16 a2, .int .u32 a3] w fun e w' => e = .returned (.bool true) ∧ Below w.heap.size w w' := by
  have HL := hide L
  have Hix := hide hix
  have Hm := hide hm
  have hm4 : m ≤ 4096 := by omega
  clear L hix hm
  go_enter Yba.func3, Yba.ntmps3
  go_wp2_with fail
  refine (build_any a0 len cap z w (by omega) (unhide HL)).mono ?_
  rintro e w1 ⟨rfl, ⟨v1, v2, xs, ys, S, hS, hE⟩, hB⟩
  have L1 := (unhide HL).below hB
  have HS := hide S
  have HSg := hide hS
  have HE := hide hE
  have HB := hide hB
  have HL1 := hide L1
  clear S hS hE hB L1
  go_wp2_with fail
  rw [unhide Hix, unhide Hm]
  refine (newseg_end w.heap.size w1.heap.size len m w.heap.size (m : Int) (a3 % 1048576) z v1 v2 xs ys _ ((unhide HS).alloc _) ((unhide HSg).alloc _) ⟨_, heap_alloc_new w1 _, rfl⟩ (by omega) (Nat.le_refl _) (unhide HB).size rfl hm4 (by omega) (by omega)).mono ?_
  rintro e w2 ⟨rfl, v1', v2', g, S2, hSg2, hK2, hM2, hB2⟩
  obtain ⟨g1, p1, rfl⟩ := own_pos S2.2.1
  obtain ⟨g2, p2, rfl⟩ := own_pos S2.2.2
  obtain ⟨c0, c1, c2, hfz⟩ := S2.fields
  have hx := (unhide HS).2.1.1
  have hy := (unhide HS).2.2.1
  have e1 : w2.cell? ⟨g2, len, none⟩ = some (.int .i64 0) := (S2.2.2.cellAt len (by omega)).trans (by simp [List.getElem?_append, show ¬ len < ys.length by omega, show len - ys.length = 0 by omega])
  have e2 : w2.cell? ⟨g1, len, none⟩ = some (.slice (some ⟨g, 0, none⟩) m m) := (S2.2.1.cellAt len (by omega)).trans (by simp [List.getElem?_append, show ¬ len < xs.length by omega, show len - xs.length = 0 by omega])
  obtain ⟨e3, _⟩ := hM2.facts
  have hq : ((len : Int) == (len : Int)) = true := by simp
  have HS2 := hide S2
  have HSg2 := hide hSg2
  have HK2 := hide hK2
  have HB2 := hide hB2
  clear S2 hSg2 hK2 hM2 hB2 hx hy
  go_wp2
  go_loop [18] (fun t => ∃ k : Nat, k ≤ m ∧ t = .int .i64 k) (fun t => m - (intOf t).toNat)
  case atStart => exact ⟨0, Nat.zero_le _, rfl⟩
  case round =>
    obtain ⟨k, hk, rfl⟩ := hrel
    by_cases hkt : k < m
    · obtain ⟨q0, q1, q2⟩ := (unhide HK2).cells hkt (Nat.zero_le _)
      go_wp2
      go_round
      case rel => exact ⟨k + 1, by omega, by go_num⟩
      case measure => simp [intOf]; omega
    · have hBB : Below w.heap.size w w2 := ((unhide HB).alloc (unhide HB).size _).trans (unhide HB2)
      have HBB := hide hBB
      have hy := (unhide HS).2.2.1
      have HEn : Hid (Ents (ys ++ [.int .i64 0]) (fun i => i < len ∧ (i : Int) ≠ (len : Int))) := fun i hi => by
        rw [List.getElem?_append_left (by omega)]
        exact unhide HE i hi.1
      clear hBB hy
      go_wp2_with fail
      refine (kept_any w.heap.size w.heap.size (len + 1) len cap a0 (len : Int) z _ _ _ _ w2 (by omega) (by omega) (by omega) (by omega) (by omega) ((unhide HL).below (unhide HBB)) (unhide HS2) (fun i hi => unhide HSg2 i hi.1) (unhide HEn)).mono ?_
      rintro e w3 ⟨rfl, rfl⟩
      go_wp2
      go_ret
      exact ⟨rfl, unhide HBB⟩

set_option maxHeartbeats 3200000 in
/-- The place is below the count: the segment there is replaced. -/
theorem makes_in (a0 : Option Addr) (len cap m i : Nat) (z : Nat → Int) (a1 a2 a3 : Int) (w : World) (L : Lens w a0 len z) (hlen : len ≤ 256) (h1 : 0 ≤ a1) (h1' : a1 ≤ 65535) (h2 : 0 ≤ a2) (h2' : a2 ≤ 65535) (h3 : 0 ≤ a3) (h3' : a3 ≤ 4294967295)
    (hix : a1 % ((len : Int) + 1) = (i : Int)) (hil : i < len) (hm : a2 % 4097 = (m : Int)) :
    Calls Yba.prog 3 #[.slice a0 len cap, .int .u16 a1, .int .u16 a2, .int .u32 a3] w fun e w' => e = .returned (.bool true) ∧ Below w.heap.size w w' := by
  have HL := hide L
  have Hix := hide hix
  have Hm := hide hm
  have hm4 : m ≤ 4096 := by omega
  clear L hix hm
  go_enter Yba.func3, Yba.ntmps3
  go_wp2_with fail
  refine (build_any a0 len cap z w (by omega) (unhide HL)).mono ?_
  rintro e w1 ⟨rfl, ⟨v1, v2, xs, ys, S, hS, hE⟩, hB⟩
  have L1 := (unhide HL).below hB
  have HS := hide S
  have HSg := hide hS
  have HE := hide hE
  have HB := hide hB
  have HL1 := hide L1
  clear S hS hE hB L1
  go_wp2_with fail
  rw [unhide Hix, unhide Hm]
  refine (newseg_in w.heap.size w1.heap.size len i m w.heap.size (m : Int) (a3 % 1048576) z v1 v2 xs ys _ ((unhide HS).alloc _) ((unhide HSg).alloc _) ⟨_, heap_alloc_new w1 _, rfl⟩ (by omega) hil (Nat.le_refl _) (unhide HB).size rfl hm4 (by omega) (by omega)).mono ?_
  rintro e w2 ⟨rfl, g, S2, hSg2, hK2, hM2, hB2⟩
  obtain ⟨l', rfl⟩ : ∃ l', len = l' + 1 := ⟨len - 1, by omega⟩
  obtain ⟨g1, p1, rfl⟩ := own_pos S2.2.1
  obtain ⟨g2, p2, rfl⟩ := own_pos S2.2.2
  obtain ⟨c0, c1, c2, hfz⟩ := S2.fields
  have hx := (unhide HS).2.1.1
  have e1 : w2.cell? ⟨g2, i, none⟩ = some (.int .i64 i) := (S2.2.2.cellAt i (by omega)).trans (unhide HE i (by omega))
  have e2 : w2.cell? ⟨g1, i, none⟩ = some (.slice (some ⟨g, 0, none⟩) m m) := (S2.2.1.cellAt i (by omega)).trans (by rw [List.getElem?_set_self (by omega)])
  obtain ⟨e3, _⟩ := hM2.facts
  have hq : ((i : Int) == ((l' : Int) + 1)) = false := beq_eq_false_iff_ne.2 (by omega)
  have hq2 : ((i : Int) == ((l' + 1 : Nat) : Int)) = false := beq_eq_false_iff_ne.2 (by omega)
  have HS2 := hide S2
  have HSg2 := hide hSg2
  have HK2 := hide hK2
  have HB2 := hide hB2
  clear S2 hSg2 hK2 hM2 hB2 hx
  go_wp2
  go_loop [18] (fun t => ∃ k : Nat, k ≤ m ∧ t = .int .i64 k) (fun t => m - (intOf t).toNat)
  case atStart => exact ⟨0, Nat.zero_le _, rfl⟩
  case round =>
    obtain ⟨k, hk, rfl⟩ := hrel
    by_cases hkt : k < m
    · obtain ⟨q0, q1, q2⟩ := (unhide HK2).cells hkt (Nat.zero_le _)
      go_wp2
      go_round
      case rel => exact ⟨k + 1, by omega, by go_num⟩
      case measure => simp [intOf]; omega
    · have hBB : Below w.heap.size w w2 := ((unhide HB).alloc (unhide HB).size _).trans (unhide HB2)
      have HBB := hide hBB
      clear hBB
      go_wp2_with fail
      refine (kept_any w.heap.size w.heap.size (l' + 1) (l' + 1) cap a0 (i : Int) z _ _ _ _ w2 (by omega) (by omega) (by omega) (by omega) (by omega) ((unhide HL).below (unhide HBB)) (unhide HS2) (fun q hq => unhide HSg2 q ⟨hq.1, fun e => hq.2 (by omega)⟩) (fun q hq => unhide HE q hq.1)).mono ?_
      rintro e w3 ⟨rfl, rfl⟩
      go_wp2
      go_ret
      exact ⟨rfl, unhide HBB⟩

theorem makes_law (a0 : Option Addr) (len cap : Nat) (z : Nat → Int) (a1 a2 a3 : Int) (w : World) (L : Lens w a0 len z) (hl63 : len ≤ 9223372036854775807) (h1 : 0 ≤ a1) (h1' : a1 ≤ 65535) (h2 : 0 ≤ a2) (h2' : a2 ≤ 65535) (h3 : 0 ≤ a3) (h3' : a3 ≤ 4294967295) :
    Calls Yba.prog 3 #[.slice a0 len cap, .int .u16 a1, .int .u16 a2, .int .u32 a3] w fun e w' => e = .returned (.bool true) ∧ Below w.heap.size w w' := by
  by_cases hlen : 256 < len
  · go_enter Yba.func3, Yba.ntmps3
    go_wp2
    go_ret
    exact ⟨rfl, Below.refl _ _⟩
  · have hm : a2 % 4097 = ((a2 % 4097).toNat : Int) := by omega
    have hi0 : 0 ≤ a1 % ((len : Int) + 1) := Int.emod_nonneg _ (by omega)
    have hi1 := Int.emod_lt_of_pos a1 (show (0 : Int) < (len : Int) + 1 by omega)
    by_cases hi : a1 % ((len : Int) + 1) = (len : Int)
    · exact makes_end a0 len cap _ z a1 a2 a3 w L (by omega) h1 h1' h2 h2' h3 h3' hi hm
    · exact makes_in a0 len cap _ (a1 % ((len : Int) + 1)).toNat z a1 a2 a3 w L (by omega) h1 h1' h2 h2' h3 h3' (by omega) (by omega) hm

end Go.Proofs.Ybulkbkie
