/-
  Seat b3050a: xorshift.Next, nextPowerOfTwo, breakPatternsOrdered at uint8: all that is told of the last: it permutes the range.
-/
import Derived.Test.YbulkbkdiPivot
import Derived.Test.YbulkbkdiLen
import Derived.Deep.CutRange
import Derived.Deep.LoopGhost
import Derived.Laws.Bits64
import Derived.Laws.Bits64b
namespace Go.Proofs.Ybulkbkdi
open Go.RowKit Go.Sort

theorem set_twice (w : World) (rb ro : Nat) (v v' : Value) : (w.setCell ⟨rb, ro, none⟩ v).setCell ⟨rb, ro, none⟩ v' = w.setCell ⟨rb, ro, none⟩ v' := by
  rw [setCell_eq, setCell_eq, setCell_eq, mapBlock_mapBlock]
  congr 1
  funext c
  simp

set_option maxHeartbeats 3200000 in
set_option maxRecDepth 1000000 in
theorem next_walk (rb X : Nat) (hX : X < 18446744073709551616) (w : World) (hc : w.cell? ⟨rb, 0, none⟩ = some (.int .u64 X)) (hf : w.frozen? ⟨rb, 0, none⟩ = false) :
    Calls Yba.prog 39 #[.pointer (some ⟨rb, 0, none⟩)] w fun e w' => ∃ Y : Nat, Y < 18446744073709551616 ∧ e = .returned (.int .u64 Y) ∧ ∃ m, w' = (w.setCell ⟨rb, 0, none⟩ (.int .u64 Y)).drewN m := by
  obtain ⟨A, lA, e1⟩ : ∃ A : Nat, A < 18446744073709551616 ∧ bits .xor .u64 (X : Int) (IntKind.u64.wrap ((X : Int) * 8192)) = (A : Int) :=
    ⟨X ^^^ (X * 8192 % 18446744073709551616), Nat.xor_lt_two_pow (n := 64) (by omega) (by omega), by
      rw [IntKind.wrap_u64, show ((X : Int) * 8192 % 18446744073709551616) = ((X * 8192 % 18446744073709551616 : Nat) : Int) by omega, bits_xor_u64_nat _ _ hX (by omega)]⟩
  obtain ⟨B, lB, e2⟩ : ∃ B : Nat, B < 18446744073709551616 ∧ bits .xor .u64 (A : Int) ((A : Int) / 128) = (B : Int) :=
    ⟨A ^^^ (A / 128), Nat.xor_lt_two_pow (n := 64) (by omega) (by omega), by
      rw [show ((A : Int) / 128) = ((A / 128 : Nat) : Int) by omega, bits_xor_u64_nat _ _ lA (by omega)]⟩
  obtain ⟨D, lD, e3⟩ : ∃ D : Nat, D < 18446744073709551616 ∧ bits .xor .u64 (B : Int) (IntKind.u64.wrap ((B : Int) * 131072)) = (D : Int) :=
    ⟨B ^^^ (B * 131072 % 18446744073709551616), Nat.xor_lt_two_pow (n := 64) (by omega) (by omega), by
      rw [IntKind.wrap_u64, show ((B : Int) * 131072 % 18446744073709551616) = ((B * 131072 % 18446744073709551616 : Nat) : Int) by omega, bits_xor_u64_nat _ _ lB (by omega)]⟩
  have hss : ∀ v v', (w.setCell ⟨rb, 0, none⟩ v).setCell ⟨rb, 0, none⟩ v' = w.setCell ⟨rb, 0, none⟩ v' := set_twice w rb 0
  go_enter Yba.func39, Yba.ntmps39
  go_wp2
  go_region
  all_goals go_wp2
  all_goals go_region
  all_goals go_wp2
  all_goals go_region
  all_goals go_wp2
  go_ret
  exact ⟨D, lD, rfl, 3, rfl⟩

theorem two_bitLen (x : Nat) (h0 : x ≠ 0) (h : x < 2 ^ 64) : 2 ^ Lib.bitLen x ≤ 2 * x := by
  induction x using Nat.strongRecOn with
  | _ x ih =>
    rw [Lib.bitLen_half x h0 h, Nat.add_comm, Nat.pow_succ]
    by_cases h2 : x / 2 = 0
    · rw [h2, show Lib.bitLen 0 = 0 from rfl]; omega
    · have := ih (x / 2) (by omega) h2 (by omega); omega

theorem bitLen_small (x : Nat) (h : x < 2 ^ 62) : Lib.bitLen x ≤ 62 := by
  rcases Nat.eq_zero_or_pos x with h0 | h0
  · subst h0; decide
  · have h1 := two_bitLen x (by omega) (by omega)
    rcases Nat.lt_or_ge 62 (Lib.bitLen x) with h2 | h2
    · have : 2 ^ 63 ≤ 2 ^ Lib.bitLen x := Nat.pow_le_pow_right (by omega) (by omega)
      omega
    · exact h2

set_option maxHeartbeats 1600000 in
set_option maxRecDepth 1000000 in
theorem pow_walk (L : Nat) (h0 : 0 < L) (hL : L < 2305843009213693952) (w : World) : Calls Yba.prog 38 #[.int .i64 L] w fun e w' => ∃ M : Nat, (1 ≤ M ∧ M ≤ 2 * L) ∧ e = .returned (.int .u64 M) ∧ w' = w := by
  have hLen : ∀ w, Calls Yba.prog 20 #[.int .u64 (L : Int)] w fun e w' => e = .returned (.int .i64 (Lib.bitLen L : Nat)) ∧ w' = w := fun w => by
    have h := Yba.bits_Len (L : Int) w (by omega) (by omega)
    rwa [Int.toNat_natCast] at h
  have h1 := two_bitLen L (by omega) (by omega)
  have hk := bitLen_small L (by omega)
  obtain ⟨k, hkk⟩ : ∃ k, k = Lib.bitLen L := ⟨_, rfl⟩
  rw [← hkk] at hLen h1 hk
  clear hkk
  obtain ⟨M, hM⟩ : ∃ M, M = 2 ^ k := ⟨_, rfl⟩
  have hM1 : 1 ≤ M := by rw [hM]; exact Nat.two_pow_pos _
  rw [← hM] at h1
  have hp : IntKind.u64.wrap ((1 : Int) * 2 ^ k) = (M : Int) := by
    rw [IntKind.wrap_u64, hM]
    have : ((1 : Int) * 2 ^ k) = ((2 ^ k : Nat) : Int) := by simp
    rw [this]
    omega
  have hp2 : IntKind.u64.wrap ((2 : Int) ^ k) = (M : Int) := by rw [← hp, Int.one_mul]
  clear hM
  go_enter Yba.func38, Yba.ntmps38
  go_wp2_with (first | (go_at_call 20; refine (hLen _).mono ?_; rintro e w' ⟨rfl, rfl⟩))
  go_ret
  exact ⟨M, ⟨hM1, h1⟩, rfl, rfl⟩


/-- The row holds d, and a new block holds the random number. -/
structure Rnd (W : World) (blk off n : Nat) (d : Array Int) (cb X : Nat) (w : World) : Prop where
  row : R W blk off n d w
  new : W.heap.size ≤ cb
  lt : X < 18446744073709551616
  cell : w.cell? ⟨cb, 0, none⟩ = some (.int .u64 X)
  frozen : w.frozen? ⟨cb, 0, none⟩ = false

theorem Rnd.swap {W wr : World} {blk off n cb X : Nat} {d : Array Int} (h : Rnd W blk off n d cb X wr) (i j : Nat) (hi : i < n) (hj : j < n) (x y : Value) (hx : x = .int .u8 d[j]!) (hy : y = .int .u8 d[i]!) :
    Rnd W blk off n (swp d i j) cb X ((wr.setCell ⟨blk, off + i, none⟩ x).setCell ⟨blk, off + j, none⟩ y) := by
  have hne : blk ≠ cb := by have := h.row.old; have := h.new; omega
  refine ⟨h.row.swap i j hi hj x y hx hy, h.new, h.lt, ?_, ?_⟩
  · rw [World.cell?_setCell_other _ _ _ _ (by intro e; injection e; omega), World.cell?_setCell_other _ _ _ _ (by intro e; injection e; omega)]; exact h.cell
  · rw [setCell_eq, frozen?_mapBlock, setCell_eq, frozen?_mapBlock]; exact h.frozen

theorem Rnd.drewN {W wr : World} {blk off n cb X : Nat} {d : Array Int} (h : Rnd W blk off n d cb X wr) (m : Nat) : Rnd W blk off n d cb X (wr.drewN m) := ⟨h.row.drewN m, h.new, h.lt, h.cell, h.frozen⟩

theorem Rnd.set {W wr : World} {blk off n cb X : Nat} {d : Array Int} (h : Rnd W blk off n d cb X wr) {Y : Nat} (hY : Y < 18446744073709551616) : Rnd W blk off n d cb Y (wr.setCell ⟨cb, 0, none⟩ (.int .u64 Y)) :=
  ⟨h.row.storeNew h.new 0 _, h.new, hY, World.cell?_setCell_same _ _ _ h.cell, by rw [setCell_eq, frozen?_mapBlock]; exact h.frozen⟩

set_option maxHeartbeats 3200000 in
set_option maxRecDepth 1000000 in
theorem break_walk (W w : World) (blk off n cap a b : Nat) (d : Array Int) (hR : R W blk off n d w) (hab : a + 8 ≤ b) (hb : b ≤ n) (hsz : n < 1152921504606846976) :
    Calls Yba.prog 26 #[.slice (some ⟨blk, off, none⟩) n cap, .int .i64 a, .int .i64 b] w fun e w' => e = .returned (.tuple #[]) ∧ ∃ d', Hid (PermIn a b d d') ∧ R W blk off n d' w' := by
  obtain ⟨L, hL⟩ : ∃ L, L = b - a := ⟨_, rfl⟩
  obtain ⟨I, hI⟩ : ∃ I, I = a + (b - a) / 4 * 2 - 1 := ⟨_, rfl⟩
  have eL : (b : Int) - (a : Int) = (L : Int) := by omega
  have eI : (a : Int) + (L : Int) / 4 * 2 - 1 = (I : Int) := by omega
  have eI2 : (a : Int) + (L : Int) / 4 * 2 + 1 = (I : Int) + 2 := by omega
  have hI1 : a ≤ I := by omega
  have hI2 : I + 2 < b := by omega
  have hL8 : 8 ≤ L := by omega
  have hLb : a + L = b := by omega
  have HLb := hide hLb
  have hLn : a + L ≤ n := by omega
  have hIL : I + 2 < a + L := by omega
  have hpw : ∀ w, Calls Yba.prog 38 #[.int .i64 L] w fun e w' => ∃ M : Nat, (1 ≤ M ∧ M ≤ 2 * L) ∧ e = .returned (.int .u64 M) ∧ w' = w := fun w => pow_walk L (by omega) (by omega) w
  clear hL hI hLb
  have hR0 : ∀ v, Rnd W blk off n d w.heap.size L ((w.alloc (.cells #[v] 79)).setCell ⟨w.heap.size, 0, none⟩ (.int .u64 L)) := fun v =>
    ⟨(hR.alloc _).storeNew hR.grew 0 _, hR.grew, by omega, World.cell?_setCell_same _ _ _ (u := v) (by simp), by rw [setCell_eq, frozen?_mapBlock]; simp⟩
  have hR1 : Rnd W blk off n d w.heap.size L (w.alloc (.cells #[.int .u64 L] 79)) := ⟨hR.alloc _, hR.grew, by omega, by simp, by simp⟩
  have HR0 := hide hR0
  have HR1 := hide hR1
  clear hR0 hR1 hR
  go_enter Yba.func26, Yba.ntmps26
  go_upto_region 4 with (go_at_call 38; refine (hpw _).mono ?_; rintro e w1 ⟨M, ⟨hM1, hM2⟩, rfl, rfl⟩)
  go_wp2_with fail
  go_loopg [9] 3 (fun g v9 wr => ∃ (t X : Nat) (dk : Array Int), v9 = .int .i64 ((I + t : Nat) : Int) ∧ t + g = 3 ∧ Rnd W blk off n dk w.heap.size X wr ∧ Hid (PermIn a b d dk))
  case atStart => exact ⟨0, L, d, by simp, rfl, by first | exact HR1.out | exact HR0.out _, hide (permIn_refl d a b)⟩
  case round =>
    clear HR0 HR1
    obtain ⟨t, X, dk, rfl, htg, hr, hperm⟩ := hrel
    have Htg := hide htg
    have ht3 : t ≤ 3 := by omega
    clear htg
    have hcB := hr.cell
    have hfB := hr.frozen
    have hXl := hr.lt
    have Hr := hide hr
    clear hr
    by_cases ht : t ≤ 2
    · go_upto_region 8 with (go_at_call 39; refine (next_walk w.heap.size X hXl _ hcB hfB).mono ?_; rintro e w2 ⟨Y, hY, rfl, m, hw2⟩; have Hw2 := hide hw2; clear hw2; obtain ⟨O, hO, eAnd⟩ : ∃ O : Nat, O < M ∧ bits .and .u64 (Y : Int) ((M : Int) - 1) = (O : Int) := ⟨Y &&& (M - 1), by have := @Nat.and_le_right Y (M - 1); omega, by rw [show ((M : Int) - 1) = ((M - 1 : Nat) : Int) by omega, bits_and_u64_nat _ _ hY (by omega)]⟩)
      have hr2 : Rnd W blk off n dk w.heap.size Y w2 := by rw [Hw2.out]; exact (Hr.out.set hY).drewN m
      clear Hr Hw2 hcB hfB hXl
      have hc := hr2.row.cell
      have hf := hr2.row.frozen
      have Hr := hide hr2
      clear hr2
      obtain ⟨G, hG⟩ : ∃ G : Nat → Int, ∀ t, G t = dk[t]! := ⟨fun t => dk[t]!, fun _ => rfl⟩
      simp only [← hG] at hc
      have HG := hide hG
      clear hG
      obtain ⟨o, hoL, Ho⟩ : ∃ o, o < L ∧ Hid (o = if L ≤ O then O - L else O) := ⟨_, by split <;> omega, hide rfl⟩
      go_upto_if 43 with fail
      go_cut [10] from 26 to 64 (fun v10 wc => v10 = .int .i64 o ∧ wc = w2)
      case first =>
        by_cases hLO : L ≤ O
        · go_wp2_with fail
          go_meet
          case rel => exact ⟨by rw [Ho.out, if_pos hLO]; go_num, rfl⟩
        · go_wp2_with fail
          go_meet
          case rel => exact ⟨by rw [Ho.out, if_neg hLO], rfl⟩
      case rest =>
      obtain ⟨rfl, rfl⟩ := hcut
      clear Ho
      by_cases hsame : I + t = a + o
      · have Hs := hide hsame
        go_wp2_with fail
        go_region
        all_goals go_wp2
        go_roundg (2 - t)
        case rel =>
          refine ⟨t + 1, Y, swp dk (I + t) (a + o), by go_num, by have := Htg.out; omega, ?_, hide (permIn_trans _ _ _ _ _ hperm.out (swp_permIn dk a b (I + t) (a + o) (by omega) (by have := HLb.out; omega) (by omega) (by have := HLb.out; omega) (by rw [Hr.out.row.size]; omega)))⟩
          have h2 := (Hr.out.drewN 1).swap (I + t) (a + o) (by omega) (by omega) (.int .u8 (G (a + o))) (.int .u8 (G (I + t))) (by rw [HG.out]) (by rw [HG.out])
          first | exact h2 | (rw [hsame] at h2; rw [hsame]; exact h2) | (rw [← hsame] at h2; rw [← hsame]; exact h2)
        case measure => have := Htg.out; omega
      · go_wp2_with fail
        go_region
        all_goals go_wp2
        go_roundg (2 - t)
        case rel =>
          refine ⟨t + 1, Y, swp dk (I + t) (a + o), by go_num, by have := Htg.out; omega, ?_, hide (permIn_trans _ _ _ _ _ hperm.out (swp_permIn dk a b (I + t) (a + o) (by omega) (by have := HLb.out; omega) (by omega) (by have := HLb.out; omega) (by rw [Hr.out.row.size]; omega)))⟩
          exact (Hr.out.drewN 1).swap (I + t) (a + o) (by omega) (by omega) (.int .u8 (G (a + o))) (.int .u8 (G (I + t))) (by rw [HG.out]) (by rw [HG.out])
        case measure => have := Htg.out; omega
    · go_wp2
      go_end0
      exact ⟨rfl, dk, hperm, Hr.out.row⟩
end Go.Proofs.Ybulkbkdi
