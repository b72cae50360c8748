/-
  Seat b3050a: a row of bytes in memory ('R'), what two stores and draws make of it; cmp.Less at uint8; insertionSortOrdered and reverseRangeOrdered at uint8.
-/
import Derived.Test.YbulkbkdiRows
import Derived.WalkKit
import Derived.WalkSpells
import Derived.WalkLawsBesides
import Derived.BigQuiet
import Derived.BigCall
import Derived.BigGuard
import Derived.CellFam
import Derived.Deep.Draws
import Derived.Deep.QuietTactic
import Derived.Sort.AssemblyPlain
import Derived.Sort.Walk13a
namespace Go.Proofs.Ybulkbkdi
open Go.RowKit Go.Sort

theorem hide {p : Prop} (h : p) : Hid p := h

/-- A byte in memory. -/
abbrev e8 : Int → Value := Value.int .u8

/-- wr is w, its row at (blk, off) now holding d: draws and new blocks aside. The row's length is n. -/
structure R (w : World) (blk off n : Nat) (d : Array Int) (wr : World) : Prop where
  at' : At e8 w blk off d wr
  size : d.size = n
  cell : ∀ t, t < n → wr.cell? ⟨blk, off + t, none⟩ = some (.int .u8 d[t]!)
  frozen : ∀ t, t < n → wr.frozen? ⟨blk, off + t, none⟩ = false
  old : blk < w.heap.size
  here : blk < wr.heap.size

theorem R.start {w : World} {blk off : Nat} {d : Array Int} (h : Holds e8 w blk off d) (hb : blk < w.heap.size) : R w blk off d.size d w :=
  ⟨At.refl h, rfl, fun t ht => (h t ht).1, fun t ht => (h t ht).2, hb, hb⟩

theorem R.holds {w wr : World} {blk off n : Nat} {d : Array Int} (h : R w blk off n d wr) : Holds e8 wr blk off d := fun t ht => ⟨h.cell t (by rw [← h.size]; exact ht), h.frozen t (by rw [← h.size]; exact ht)⟩

/-- From here on as from a new beginning. -/
theorem R.self {w wr : World} {blk off n : Nat} {d : Array Int} (h : R w blk off n d wr) : R wr blk off n d wr := by
  have := R.start h.holds h.here
  rw [h.size] at this
  exact this

theorem R.trans {w w1 w2 : World} {blk off n : Nat} {d d' : Array Int} (h : R w blk off n d w1) (h2 : R w1 blk off n d' w2) : R w blk off n d' w2 :=
  ⟨h.at'.stepG h.old (by rw [h2.size, h.size]) h2.at', h2.size, h2.cell, h2.frozen, h.old, h2.here⟩

theorem R.drewN {w wr : World} {blk off n : Nat} {d : Array Int} (h : R w blk off n d wr) (m : Nat) : R w blk off n d (wr.drewN m) :=
  ⟨h.at'.ahead m, h.size, h.cell, h.frozen, h.old, h.here⟩

theorem R.drew {w wr : World} {blk off n : Nat} {d : Array Int} (h : R w blk off n d wr) : R w blk off n d wr.drew := h.drewN 1

theorem size_setCell' (w : World) (a : Addr) (v : Value) : (w.setCell a v).heap.size = w.heap.size := by simp

theorem R.swap {w wr : World} {blk off n : Nat} {d : Array Int} (h : R w blk off n d wr) (i j : Nat) (hi : i < n) (hj : j < n) (x y : Value) (hx : x = .int .u8 d[j]!) (hy : y = .int .u8 d[i]!) :
    R w blk off n (swp d i j) ((wr.setCell ⟨blk, off + i, none⟩ x).setCell ⟨blk, off + j, none⟩ y) := by
  subst hx; subst hy
  have hs := h.size
  have e : (wr.setCell ⟨blk, off + i, none⟩ (e8 d[j]!)).setCell ⟨blk, off + j, none⟩ (e8 d[i]!) = putRow e8 wr blk off (swp d i j) := by
    have := putRow_swp e8 wr blk off d i j (by omega) (by omega)
    rw [putRow_self e8 wr blk off d h.holds] at this
    exact this
  have hH : Holds e8 (putRow e8 wr blk off (swp d i j)) blk off (swp d i j) := holds_putRow e8 wr blk off d _ h.holds (size_swp _ _ _)
  rw [e]
  refine ⟨h.at'.step h.old (size_swp _ _ _) ⟨0, rfl⟩, by rw [size_swp]; exact hs, fun t ht => (hH t (by rw [size_swp]; omega)).1, fun t ht => (hH t (by rw [size_swp]; omega)).2, h.old, by rw [size_putRow]; exact h.here⟩

/-! ### cmp.Less -/
set_option maxHeartbeats 1000000 in
theorem isNaN (x : Int) (w : World) : Calls Yba.prog 22 #[.int .u8 x] w fun e w' => e = .returned (.bool false) ∧ w' = w := by
  go_enter Yba.func22, Yba.ntmps22
  go_wp2
  go_ret
  exact ⟨by simp, rfl⟩

set_option maxHeartbeats 1000000 in
theorem less (x y : Int) (w : World) : Calls Yba.prog 30 #[.int .u8 x, .int .u8 y] w fun e w' => e = .returned (.bool (ltInt x y)) ∧ w' = w := by
  go_enter Yba.func30, Yba.ntmps30
  go_wp2_with (go_at_call 22; refine (isNaN _ _).mono ?_; rintro e w' ⟨rfl, rfl⟩)
  go_ret
  exact ⟨rfl, rfl⟩

def num : Value → Int | .int _ q => q | _ => 0

/-! ### reverseRangeOrdered -/
theorem reverseLoop_go {i j : Nat} (d : Array Int) (h : i < j) : reverseLoop i j d = reverseLoop (i + 1) (j - 1) (swp d i j) := by rw [reverseLoop, if_pos h]
theorem reverseLoop_stop {i j : Nat} (d : Array Int) (h : ¬ i < j) : reverseLoop i j d = d := by rw [reverseLoop, if_neg h]

set_option maxHeartbeats 3200000 in
set_option maxRecDepth 1000000 in
theorem reverse_walk (W w : World) (blk off n cap a b : Nat) (d : Array Int) (hR : R W blk off n d w) (hab : a < b) (hb : b ≤ n) (hsz : n < 4611686018427387904) :
    Calls Yba.prog 28 #[.slice (some ⟨blk, off, none⟩) n cap, .int .i64 a, .int .i64 b] w fun e w' => e = .returned (.tuple #[]) ∧ R W blk off n (reverseRange d a b) w' := by
  unfold reverseRange
  go_enter Yba.func28, Yba.ntmps28
  go_wp2
  go_loopw [6, 7] (fun vi vj wr => ∃ (i j : Nat) (dk : Array Int), vi = .int .i64 i ∧ vj = .int .i64 j ∧ j < n ∧ i ≤ j + 1 ∧ R W blk off n dk wr ∧ reverseLoop i j dk = reverseLoop a (b - 1) d) (fun vi vj _ => (num vj).toNat + 1 - (num vi).toNat)
  case atStart => exact ⟨a, b - 1, d, rfl, by go_num, by omega, by omega, hR, rfl⟩
  case round =>
    obtain ⟨i, j, dk, rfl, rfl, hj, hij, hr, heq⟩ := hrel
    have Hr := hide hr
    have Heq := hide heq
    have hc := hr.cell
    have hf := hr.frozen
    clear hr heq hR
    obtain ⟨G, hG⟩ : ∃ G : Nat → Int, ∀ t, G t = dk[t]! := ⟨fun t => dk[t]!, fun _ => rfl⟩
    simp only [← hG] at hc
    have HG := hide hG
    clear hG
    by_cases hlt : i < j
    · go_wp2_with fail
      go_region
      all_goals go_wp2
      go_roundw
      case rel => exact ⟨i + 1, j - 1, swp dk i j, by go_num, by go_num, by omega, by omega, (Hr.out.swap i j (by omega) (by omega) _ _ (by rw [HG.out]) (by rw [HG.out])).drew, by rw [← reverseLoop_go dk hlt]; exact Heq.out⟩
      case measure => simp [num]; omega
    · go_wp2
      go_end0
      exact ⟨rfl, by rw [← Heq.out, reverseLoop_stop dk hlt]; exact Hr.out⟩

/-! ### insertionSortOrdered -/
theorem insInner_go (a j : Nat) (d : Array Int) (hj : a < j) (hl : ltInt d[j]! d[j - 1]! = true) : insInner ltInt a j d = insInner ltInt a (j - 1) (swp d j (j - 1)) := by
  cases j with
  | zero => omega
  | succ k => rw [insInner]; simp only [Nat.add_sub_cancel] at hl ⊢; rw [if_pos (by simp [hl, hj])]
theorem insInner_stop (a j : Nat) (d : Array Int) (h : j ≤ a ∨ ltInt d[j]! d[j - 1]! = false) : insInner ltInt a j d = d := by
  cases j with
  | zero => rw [insInner]
  | succ k => rw [insInner]; simp only [Nat.add_sub_cancel] at h; rw [if_neg (by rcases h with h | h <;> simp [h] <;> omega)]

set_option maxHeartbeats 6400000 in
set_option maxRecDepth 1000000 in
theorem insertion_walk (W w : World) (blk off n cap a b : Nat) (d : Array Int) (hR : R W blk off n d w) (hab : a ≤ b) (hb : b ≤ n) (hsz : n < 4611686018427387904) :
    Calls Yba.prog 24 #[.slice (some ⟨blk, off, none⟩) n cap, .int .i64 a, .int .i64 b] w fun e w' => e = .returned (.tuple #[]) ∧ R W blk off n (insertionSort ltInt d a b) w' := by
  unfold insertionSort
  go_enter Yba.func24, Yba.ntmps24
  go_wp2
  go_loopw [6] (fun vi wr => ∃ (i : Nat) (dk : Array Int), vi = .int .i64 i ∧ a < i ∧ i ≤ b + 1 ∧ R W blk off n dk wr ∧ insOuter ltInt a b i dk = insOuter ltInt a b (a + 1) d) (fun vi _ => b + 1 - (num vi).toNat)
  case atStart => exact ⟨a + 1, d, by go_num, by omega, by omega, hR, rfl⟩
  case round =>
    obtain ⟨i, dk, rfl, hai, hib, hr, heq⟩ := hrel
    have Hr := hide hr
    have Heq := hide heq
    clear hr heq hR
    by_cases hlt : i < b
    · go_wp2
      go_loopw [7] (fun vj wr2 => ∃ (j : Nat) (dj : Array Int), vj = .int .i64 j ∧ a ≤ j ∧ j ≤ i ∧ R W blk off n dj wr2 ∧ insInner ltInt a j dj = insInner ltInt a i dk) (fun vj _ => (num vj).toNat)
      case atStart => exact ⟨i, dk, rfl, by omega, Nat.le_refl _, Hr.out, rfl⟩
      case round =>
        obtain ⟨j, dj, rfl, haj, hji, hr, hin⟩ := hrel
        have Hr := hide hr
        have Hin := hide hin
        have hc := hr.cell
        have hf := hr.frozen
        clear hr hin
        obtain ⟨G, hG⟩ : ∃ G : Nat → Int, ∀ t, G t = dj[t]! := ⟨fun t => dj[t]!, fun _ => rfl⟩
        simp only [← hG] at hc
        have HG := hide hG
        clear hG
        have out : (j ≤ a ∨ ltInt (G j) (G (j - 1)) = false) → ∀ q, ∃ (i' : Nat) (dk' : Array Int), Value.int .i64 ((i : Int) + 1) = .int .i64 i' ∧ a < i' ∧ i' ≤ b + 1 ∧ R W blk off n dk' (wr.drewN q) ∧ insOuter ltInt a b i' dk' = insOuter ltInt a b (a + 1) d := fun hs q =>
          ⟨i + 1, dj, by go_num, by omega, by omega, Hr.out.drewN q, by rw [← Heq.out, insOuter.eq_def ltInt a b i, if_pos hlt, ← Hin.out, insInner_stop a j dj (by rw [← HG.out, ← HG.out]; exact hs)]⟩
        have OUT := hide out
        clear out
        go_wp2
        by_cases hja : a < j
        · go_big_quiet (first | (go_at_call 30; refine Calls.quiet_of_same (less _ _ _)))
          go_wp2
          · have hl : ltInt (G j) (G (j - 1)) = true := by assumption
            go_region
            all_goals go_wp2
            go_roundw
            case rel => exact ⟨j - 1, swp dj j (j - 1), by go_num, by omega, by omega, (Hr.out.drewN (nq + 1)).swap j (j - 1) (by omega) (by omega) _ _ (by rw [HG.out]) (by rw [HG.out]), by rw [← insInner_go a j dj hja (by rw [← HG.out, ← HG.out]; exact hl)]; exact Hin.out⟩
            case measure => simp [num]; omega
          · have hl : ltInt (G j) (G (j - 1)) = false := by assumption
            go_roundw
            case rel => exact OUT.out (Or.inr hl) nq
            case measure => simp [num]; omega
        · go_big_quiet (first | (go_at_call 30; refine Calls.quiet_of_same (less _ _ _)))
          go_wp2
          go_roundw
          case rel => exact OUT.out (Or.inl (by omega)) nq
          case measure => simp [num]; omega
    · go_wp2
      go_end0
      exact ⟨rfl, by rw [← Heq.out, insOuter.eq_def ltInt a b i, if_neg hlt]; exact Hr.out⟩
end Go.Proofs.Ybulkbkdi
