/-
  Seat b3050a: order2Ordered, medianOrdered, medianAdjacentOrdered, choosePivotOrdered at uint8: all that is told of them: the places that they answer lie in the range; the row is as it was.
-/
import Derived.Test.YbulkbkdiRow
import Derived.Sort.AtCall
import Derived.Deep.Cut
namespace Go.Proofs.Ybulkbkdi
open Go.RowKit Go.Sort

theorem R.grew {w wr : World} {blk off n : Nat} {d : Array Int} (h : R w blk off n d wr) : w.heap.size ≤ wr.heap.size := by
  obtain ⟨m, os, rfl⟩ := h.at'
  simp

theorem R.alloc {w wr : World} {blk off n : Nat} {d : Array Int} (h : R w blk off n d wr) (o : Obj) : R w blk off n d (wr.alloc o) := by
  have hz := h.here
  refine ⟨?_, h.size, fun t ht => ?_, fun t ht => ?_, h.old, ?_⟩
  · refine h.at'.stepG h.old rfl ⟨0, #[o], ?_⟩
    rw [alloc_eq_grow, Sort.ahead_zero, putRow_self e8 wr blk off d h.holds]
  · rw [alloc_eq_grow, cell?_grow _ _ _ hz]; exact h.cell t ht
  · rw [alloc_eq_grow, frozen?_grow _ _ _ hz]; exact h.frozen t ht
  · rw [alloc_eq_grow, size_grow]; omega

theorem R.storeNew {w wr : World} {blk off n : Nat} {d : Array Int} (h : R w blk off n d wr) {cb : Nat} (hcb : w.heap.size ≤ cb) (o : Nat) (v : Value) : R w blk off n d (wr.setCell ⟨cb, o, none⟩ v) := by
  have hne : cb ≠ blk := by have := h.old; omega
  refine ⟨?_, h.size, fun t ht => ?_, fun t ht => ?_, h.old, by rw [size_setCell']; exact h.here⟩
  · obtain ⟨m, os, rfl⟩ := h.at'
    rw [setCell_eq, mapBlock_grow_new _ _ _ _ (by simpa using hcb)]
    exact ⟨m, _, rfl⟩
  · rw [setCell_eq]
    have : (mapBlock wr cb fun x => x.setIfInBounds o v).cell? ⟨blk, off + t, none⟩ = wr.cell? ⟨blk, off + t, none⟩ := by
      simp [mapBlock, World.cell?, Array.getElem?_modify, hne]
    rw [this]; exact h.cell t ht
  · rw [setCell_eq, frozen?_mapBlock]; exact h.frozen t ht

/-- The row as it was, and a counter in a new block. -/
structure C (W : World) (blk off n : Nat) (d : Array Int) (cb s : Nat) (w : World) : Prop where
  row : R W blk off n d w
  new : W.heap.size ≤ cb
  cell : w.cell? ⟨cb, 0, none⟩ = some (.int .i64 s)
  frozen : w.frozen? ⟨cb, 0, none⟩ = false

set_option maxHeartbeats 1600000 in
set_option maxRecDepth 1000000 in
theorem order2_walk (W w : World) (blk off n cap a b lo hi cb s : Nat) (d : Array Int) (hC : C W blk off n d cb s w) (ha : lo ≤ a ∧ a < hi) (hb : lo ≤ b ∧ b < hi) (hn : hi ≤ n) (hs : s < 4611686018427387904) :
    Calls Yba.prog 43 #[.slice (some ⟨blk, off, none⟩) n cap, .int .i64 a, .int .i64 b, .pointer (some ⟨cb, 0, none⟩)] w fun e w' =>
      ∃ x y s' : Nat, e = .returned (.tuple #[.int .i64 x, .int .i64 y]) ∧ (lo ≤ x ∧ x < hi) ∧ (lo ≤ y ∧ y < hi) ∧ s' ≤ s + 1 ∧ C W blk off n d cb s' w' := by
  have hc := hC.row.cell
  have hcc := hC.cell
  have hcf := hC.frozen
  have HC := hide hC
  have Ha := hide ha
  have Hb := hide hb
  have ha1 : a < n := by omega
  have hb1 : b < n := by omega
  clear hC ha hb
  obtain ⟨G, hG⟩ : ∃ G : Nat → Int, ∀ t, G t = d[t]! := ⟨fun t => d[t]!, fun _ => rfl⟩
  simp only [← hG] at hc
  clear hG
  go_enter Yba.func43, Yba.ntmps43
  go_wp2
  go_big_quiet (first | (go_at_call 30; refine Calls.quiet_of_same (less _ _ _)))
  go_wp2
  · go_ret2
    refine ⟨b, a, s + 1, rfl, Hb.out, Ha.out, Nat.le_refl _, ⟨(HC.out.row.drewN _).storeNew HC.out.new 0 _, HC.out.new, ?_, ?_⟩⟩
    · exact World.cell?_setCell_same (w.drewN nq) _ _ (show (w.drewN nq).cell? _ = _ from hcc)
    · rw [setCell_eq, frozen?_mapBlock]; exact hcf
  · go_ret2
    exact ⟨a, b, s, rfl, Ha.out, Hb.out, Nat.le_succ _, ⟨HC.out.row.drewN _, HC.out.new, hcc, hcf⟩⟩

set_option maxHeartbeats 1600000 in
set_option maxRecDepth 1000000 in
theorem median_walk (W w : World) (blk off n cap a b c lo hi cb s : Nat) (d : Array Int) (hC : C W blk off n d cb s w) (ha : lo ≤ a ∧ a < hi) (hb : lo ≤ b ∧ b < hi) (hc : lo ≤ c ∧ c < hi) (hn : hi ≤ n) (hs : s + 3 < 4611686018427387904) :
    Calls Yba.prog 41 #[.slice (some ⟨blk, off, none⟩) n cap, .int .i64 a, .int .i64 b, .int .i64 c, .pointer (some ⟨cb, 0, none⟩)] w fun e w' =>
      ∃ x s' : Nat, e = .returned (.int .i64 x) ∧ (lo ≤ x ∧ x < hi) ∧ s' ≤ s + 3 ∧ C W blk off n d cb s' w' := by
  have HC := hide hC
  have Ha := hide ha
  have Hb := hide hb
  have Hc := hide hc
  clear hC ha hb hc
  go_enter Yba.func41, Yba.ntmps41
  go_upto_region 2 with (go_at_call 43; refine (order2_walk W _ blk off n cap a b lo hi cb s d HC.out Ha.out Hb.out hn (by omega)).mono ?_; rintro e w1 ⟨x1, y1, s1, rfl, hx1, hy1, hs1, hC1⟩)
  have Hx1 := hide hx1
  have Hy1 := hide hy1
  have HC1 := hide hC1
  clear hx1 hy1 hC1
  go_upto_region 3 with (go_at_call 43; refine (order2_walk W _ blk off n cap y1 c lo hi cb s1 d HC1.out Hy1.out Hc.out hn (by omega)).mono ?_; rintro e w2 ⟨x2, y2, s2, rfl, hx2, hy2, hs2, hC2⟩)
  have Hx2 := hide hx2
  have HC2 := hide hC2
  clear hx2 hy2 hC2
  go_wp2_with (go_at_call 43; refine (order2_walk W _ blk off n cap x1 x2 lo hi cb s2 d HC2.out Hx1.out Hx2.out hn (by omega)).mono ?_; rintro e w3 ⟨x3, y3, s3, rfl, hx3, hy3, hs3, hC3⟩)
  go_ret
  exact ⟨y3, s3, rfl, hy3, by omega, hC3⟩

set_option maxHeartbeats 1600000 in
set_option maxRecDepth 1000000 in
theorem medAdj_walk (W w : World) (blk off n cap a lo hi cb s : Nat) (d : Array Int) (hC : C W blk off n d cb s w) (ha : lo + 1 ≤ a ∧ a + 1 < hi) (hn : hi ≤ n) (hs : s + 3 < 4611686018427387904) (hsz : n < 4611686018427387904) :
    Calls Yba.prog 40 #[.slice (some ⟨blk, off, none⟩) n cap, .int .i64 a, .pointer (some ⟨cb, 0, none⟩)] w fun e w' =>
      ∃ x s' : Nat, e = .returned (.int .i64 x) ∧ (lo ≤ x ∧ x < hi) ∧ s' ≤ s + 3 ∧ C W blk off n d cb s' w' := by
  have HC := hide hC
  obtain ⟨ha1, ha2⟩ := ha
  clear hC
  go_enter Yba.func40, Yba.ntmps40
  go_wp2_with (go_at_call 41; rw [show ((a : Int) - 1) = ((a - 1 : Nat) : Int) by omega, show ((a : Int) + 1) = ((a + 1 : Nat) : Int) by omega]; refine (median_walk W _ blk off n cap (a - 1) a (a + 1) lo hi cb s d HC.out (by omega) (by omega) (by omega) hn hs).mono ?_; rintro e w1 ⟨x1, s1, rfl, hx1, hs1, hC1⟩)
  go_ret
  exact ⟨x1, s1, rfl, hx1, hs1, hC1⟩

set_option maxHeartbeats 1600000 in
set_option maxRecDepth 1000000 in
theorem pivot_walk (W w : World) (blk off n cap a b : Nat) (d : Array Int) (hR : R W blk off n d w) (hab : a + 8 ≤ b) (hb : b ≤ n) (hsz : n < 4611686018427387904) :
    Calls Yba.prog 27 #[.slice (some ⟨blk, off, none⟩) n cap, .int .i64 a, .int .i64 b] w fun e w' =>
      ∃ (x : Nat) (h : Int), e = .returned (.tuple #[.int .i64 x, .int .i64 h]) ∧ (a ≤ x ∧ x < b) ∧ R W blk off n d w' := by
  obtain ⟨I, hI⟩ : ∃ I : Nat, I = a + (b - a) / 4 * 1 := ⟨_, rfl⟩
  obtain ⟨J, hJ⟩ : ∃ J : Nat, J = a + (b - a) / 4 * 2 := ⟨_, rfl⟩
  obtain ⟨K, hK⟩ : ∃ K : Nat, K = a + (b - a) / 4 * 3 := ⟨_, rfl⟩
  have eI : ((a : Int) + ((b : Int) - (a : Int)) / 4) = (I : Int) := by omega
  have eJ : ((a : Int) + ((b : Int) - (a : Int)) / 4 * 2) = (J : Int) := by omega
  have eK : ((a : Int) + ((b : Int) - (a : Int)) / 4 * 3) = (K : Int) := by omega
  have hz : 8 ≤ (b : Int) - (a : Int) := by omega
  have hC0 : C W blk off n d w.heap.size 0 (w.alloc (.cells #[.int .i64 0] 3)) := ⟨hR.alloc _, hR.grew, by simp, by simp⟩
  have HC0 := hide hC0
  clear hC0 hR
  have hin : Hid ((a ≤ I ∧ I < b) ∧ (a ≤ J ∧ J < b) ∧ (a ≤ K ∧ K < b)) := by
    show _ ∧ _
    omega
  by_cases h50 : 50 ≤ b - a
  · have h50z : 50 ≤ (b : Int) - (a : Int) := by omega
    have hin2 : Hid ((a + 1 ≤ I ∧ I + 1 < b) ∧ (a + 1 ≤ J ∧ J + 1 < b) ∧ (a + 1 ≤ K ∧ K + 1 < b)) := by
      show _ ∧ _
      omega
    clear hI hJ hK
    go_enter Yba.func27, Yba.ntmps27
    go_upto_region 9 with (go_at_call 40; refine (medAdj_walk W _ blk off n cap I a b w.heap.size 0 d HC0.out hin2.out.1 hb (by omega) hsz).mono ?_; rintro e w1 ⟨x1, s1, rfl, hx1, hs1, hC1⟩)
    have Hx1 := hide hx1
    have HC1 := hide hC1
    clear hx1 hC1
    go_upto_region 10 with (go_at_call 40; refine (medAdj_walk W _ blk off n cap J a b w.heap.size s1 d HC1.out hin2.out.2.1 hb (by omega) hsz).mono ?_; rintro e w2 ⟨x2, s2, rfl, hx2, hs2, hC2⟩)
    have Hx2 := hide hx2
    have HC2 := hide hC2
    clear hx2 hC2
    go_upto_region 11 with (go_at_call 40; refine (medAdj_walk W _ blk off n cap K a b w.heap.size s2 d HC2.out hin2.out.2.2 hb (by omega) hsz).mono ?_; rintro e w3 ⟨x3, s3, rfl, hx3, hs3, hC3⟩)
    have Hx3 := hide hx3
    have HC3 := hide hC3
    clear hx3 hC3
    go_upto_region 12 with (go_at_call 41; refine (median_walk W _ blk off n cap x1 x2 x3 a b w.heap.size s3 d HC3.out Hx1.out Hx2.out Hx3.out hb (by omega)).mono ?_; rintro e w4 ⟨x4, s4, rfl, hx4, hs4, hC4⟩)
    have hcell := hC4.cell
    have Hx4 := hide hx4
    have HC4 := hide hC4
    clear hx4 hC4
    go_wp2
    all_goals
      go_ret2
      exact ⟨x4, _, rfl, Hx4.out, HC4.out.row⟩
  · have h50z : ¬ (50 ≤ (b : Int) - (a : Int)) := by omega
    clear hI hJ hK
    go_enter Yba.func27, Yba.ntmps27
    go_upto_region 12 with (go_at_call 41; refine (median_walk W _ blk off n cap I J K a b w.heap.size 0 d HC0.out hin.out.1 hin.out.2.1 hin.out.2.2 hb (by omega)).mono ?_; rintro e w4 ⟨x4, s4, rfl, hx4, hs4, hC4⟩)
    have hcell := hC4.cell
    have Hx4 := hide hx4
    have HC4 := hide hC4
    clear hx4 hC4
    go_wp2
    all_goals
      go_ret2
      exact ⟨x4, _, rfl, Hx4.out, HC4.out.row⟩
end Go.Proofs.Ybulkbkdi
