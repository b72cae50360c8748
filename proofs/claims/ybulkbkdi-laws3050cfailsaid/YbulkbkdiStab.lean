/-
  Seat b3050a: a row of records in memory; swapRangeCmpFunc, rotateCmpFunc at records.
-/
import Derived.Test.YbulkbkdiRow
import Derived.Test.YbulkbkdiMerge
import Derived.Shelf.SlSortCmp.KitK
import Derived.Deep.Cut
import Derived.Deep.CutRange
import Derived.Deep.LoopGhost
namespace Go.Proofs.Ybulkbkdi
open Go.Shelf Go.RowKit Go.Sort

/-- A record's three cells. -/
def enc3 (r : Rec) : List Value := [.int .u8 r.1, .int .u8 r.2.1, .int .u8 r.2.2]
theorem enc3_len (x : Rec) : (enc3 x).length = 3 := rfl
theorem enc3_one (x : Rec) : ∀ v ∈ enc3 x, v.oneCell' = true := by
  intro v hv
  simp [enc3] at hv
  rcases hv with rfl | rfl | rfl <;> rfl

/-- W is w0, its row of records at (blk, off) now holding d: draws and new blocks aside. -/
structure S (w0 : World) (blk off n : Nat) (d : Array Rec) (W : World) : Prop where
  sw : SWK enc3 3 w0 blk off d W
  size : d.size = n
  base : ∃ d0 : Array Rec, d0.size = n ∧ RowK enc3 3 w0 blk off d0

variable {w0 W : World} {blk off n : Nat} {d : Array Rec}

theorem S.old (h : S w0 blk off n d W) : blk < w0.heap.size := by obtain ⟨d0, _, R⟩ := h.base; exact R.hblk
theorem S.grown (h : S w0 blk off n d W) (m : Nat) (os : Array Obj) : S w0 blk off n d (grow (W.drewN m) os) := ⟨h.sw.grown m os, h.size, h.base⟩
theorem S.holds (h : S w0 blk off n d W) : HoldsK enc3 3 W blk off d := by
  obtain ⟨d0, hs, R⟩ := h.base
  exact h.sw.holds R.hblk R.hH (by rw [h.size, hs])
theorem S.swapped (h : S w0 blk off n d W) (i j : Nat) (hi : i < n) (hj : j < n) :
    S w0 blk off n (swp d i j) ((W.drew.setCells blk (off + i * 3) (enc3 d[j]!)).setCells blk (off + j * 3) (enc3 d[i]!)) := by
  obtain ⟨d0, hs, R⟩ := h.base
  exact ⟨h.sw.swapped R i j (by rw [h.size]; exact hi) (by rw [h.size]; exact hj), by rw [size_swp]; exact h.size, h.base⟩

theorem S.cells (h : S w0 blk off n d W) (i : Nat) (hi : i < n) :
    W.cell? ⟨blk, off + i * 3, none⟩ = some (.int .u8 d[i]!.1) ∧ W.cell? ⟨blk, off + i * 3 + 1, none⟩ = some (.int .u8 d[i]!.2.1) ∧ W.cell? ⟨blk, off + i * 3 + 2, none⟩ = some (.int .u8 d[i]!.2.2) ∧
    W.frozen? ⟨blk, off + i * 3, none⟩ = false ∧ W.frozen? ⟨blk, off + i * 3 + 1, none⟩ = false ∧ W.frozen? ⟨blk, off + i * 3 + 2, none⟩ = false := by
  have hn := h.size
  have hc := HoldsK.cells h.holds enc3_len (i := i) (by omega)
  have hf : ∀ t, t < 3 → W.frozen? ⟨blk, off + i * 3 + t, none⟩ = false := fun t ht => by
    have := (h.holds (i * 3 + t) (by rw [size_flatK]; omega)).2
    rw [← Nat.add_assoc] at this
    exact this
  refine ⟨?_, ?_, ?_, hf 0 (by omega), hf 1 (by omega), hf 2 (by omega)⟩
  · have := hc 0 _ rfl; rw [Addr.add_lit] at this; exact this
  · have := hc 1 _ rfl; rw [Addr.add_lit] at this; exact this
  · have := hc 2 _ rfl; rw [Addr.add_lit] at this; exact this

theorem drew_set (w : World) (a : Addr) (v : Value) : (w.setCell a v).drew = w.drew.setCell a v := rfl

theorem S.swap6 (h : S w0 blk off n d W) (i j : Nat) (hi : i < n) (hj : j < n) (x y : Rec) (hx : x = d[j]!) (hy : y = d[i]!) :
    S w0 blk off n (swp d i j) ((((((W.setCell ⟨blk, off + i * 3, none⟩ (.int .u8 x.1)).setCell ⟨blk, off + i * 3 + 1, none⟩ (.int .u8 x.2.1)).setCell ⟨blk, off + i * 3 + 2, none⟩ (.int .u8 x.2.2)).setCell ⟨blk, off + j * 3, none⟩ (.int .u8 y.1)).setCell ⟨blk, off + j * 3 + 1, none⟩ (.int .u8 y.2.1)).setCell ⟨blk, off + j * 3 + 2, none⟩ (.int .u8 y.2.2)).drew := by
  subst hx; subst hy
  have h2 := h.swapped i j hi hj
  simp only [enc3, World.setCells] at h2
  simp only [drew_set]
  exact h2

theorem mixedYba : Yba.prog.follows Departure.mixedOrders = true := by kernel_rfl

set_option maxHeartbeats 1600000 in
set_option maxRecDepth 1000000 in
theorem swapRange_walk (w0 w : World) (blk off n cap a b k : Nat) (d : Array Rec) (fv : Value) (hS : S w0 blk off n d w) (hab : a + k ≤ b) (hb : b + k ≤ n) (hsz : n < 1152921504606846976) :
    Calls Yba.prog 44 #[.slice (some ⟨blk, off, none⟩) n cap, .int .i64 a, .int .i64 b, .int .i64 k, fv] w fun e w' => e = .returned (.tuple #[]) ∧ ∃ d', Hid (Exch a b k d d') ∧ Hid (PermIn a (b + k) d d') ∧ S w0 blk off n d' w' := by
  have HS := hide hS
  clear hS
  have mixed := mixedYba
  go_enter Yba.func44, Yba.ntmps44
  go_wp2
  go_loopg [10] k (fun g v wr => ∃ (i : Nat) (dk : Array Rec), v = .int .i64 i ∧ i ≤ k ∧ k - i ≤ g ∧ Hid (Exch a b i d dk) ∧ Hid (PermIn a (b + k) d dk) ∧ Hid (S w0 blk off n dk wr))
  case atStart => exact ⟨0, d, rfl, Nat.zero_le _, Nat.le_refl _, hide (Exch.zero a b d), hide (permIn_refl d _ _), HS⟩
  case round =>
    clear HS
    obtain ⟨i, dk, rfl, hik, hg, hex, hperm, hs⟩ := hrel
    by_cases hlt : i < k
    · obtain ⟨ca0, ca1, ca2, fa0, fa1, fa2⟩ := hs.out.cells (a + i) (by omega)
      obtain ⟨cb0, cb1, cb2, fb0, fb1, fb2⟩ := hs.out.cells (b + i) (by omega)
      obtain ⟨xa, Hxa⟩ : ∃ x, Hid (x = dk[a + i]!) := ⟨_, hide rfl⟩
      obtain ⟨xb, Hxb⟩ : ∃ x, Hid (x = dk[b + i]!) := ⟨_, hide rfl⟩
      rw [← Hxa.out] at ca0 ca1 ca2
      rw [← Hxb.out] at cb0 cb1 cb2
      go_wp2_with fail
      go_region
      go_wp2
      go_roundg (k - (i + 1))
      case measure => omega
      case rel => exact ⟨i + 1, swp dk (a + i) (b + i), by go_num, by omega, Nat.le_refl _, hide (hex.out.step (by omega) (by rw [← hex.out.1, hs.out.size]; omega)), hide (permIn_trans _ _ _ _ _ hperm.out (swp_permIn dk a (b + k) (a + i) (b + i) (by omega) (by omega) (by omega) (by omega) (by rw [hs.out.size]; omega))), hide (hs.out.swap6 (a + i) (b + i) (by omega) (by omega) xb xa Hxb.out Hxa.out)⟩
    · have hik2 : i = k := by omega
      subst hik2
      go_wp2
      go_end0
      exact ⟨rfl, dk, hex, hperm, hs.out⟩

set_option maxHeartbeats 800000 in
set_option maxRecDepth 1000000 in
theorem rotate_walk (w0 w : World) (blk off n cap a m b : Nat) (d : Array Rec) (fv : Value) (hS : S w0 blk off n d w) (ham : a < m) (hmb : m < b) (hb : b ≤ n) (hsz : n < 1152921504606846976) :
    Calls Yba.prog 42 #[.slice (some ⟨blk, off, none⟩) n cap, .int .i64 a, .int .i64 m, .int .i64 b, fv] w fun e w' => e = .returned (.tuple #[]) ∧ ∃ d', Hid (Rot a m b d d') ∧ Hid (PermIn a b d d') ∧ S w0 blk off n d' w' := by
  have HS := hide hS
  clear hS
  obtain ⟨i0, hi0⟩ : ∃ i0, i0 = m - a := ⟨_, rfl⟩
  obtain ⟨j0, hj0⟩ : ∃ j0, j0 = b - m := ⟨_, rfl⟩
  have ei : (m : Int) - (a : Int) = (i0 : Int) := by omega
  have ej : (b : Int) - (m : Int) = (j0 : Int) := by omega
  have hi1 : 0 < i0 ∧ i0 ≤ m ∧ 0 < j0 ∧ m + j0 ≤ n := by omega
  have Hgo : Hid (∀ X, Rot (m - i0) m (m + j0) d X → Rot a m b d X) := by
    have e1 : m - i0 = a := by omega
    have e2 : m + j0 = b := by omega
    rw [e1, e2]
    exact hide fun X h => h
  have Hib : Hid (a = m - i0 ∧ b = m + j0) := by
    show _ ∧ _
    omega
  clear hi0 hj0
  go_enter Yba.func42, Yba.ntmps42
  go_wp2
  go_loopg [10, 11] (i0 + j0) (fun g v10 v11 wr => ∃ (i j : Nat) (dk : Array Rec), v10 = .int .i64 i ∧ v11 = .int .i64 j ∧ (0 < i ∧ i ≤ i0 ∧ 0 < j ∧ j ≤ j0) ∧ i + j ≤ g ∧ Hid (∀ X, Rot (m - i) m (m + j) dk X → Rot a m b d X) ∧ Hid (PermIn a b d dk) ∧ Hid (S w0 blk off n dk wr))
  case atStart => exact ⟨i0, j0, d, rfl, rfl, by omega, Nat.le_refl _, Hgo, hide (permIn_refl d _ _), HS⟩
  case round =>
    clear HS Hgo
    obtain ⟨i, j, dk, rfl, rfl, hij, hg, hgo, hperm, hs⟩ := hrel
    by_cases hne : i = j
    · subst hne
      have hcs : Calls Yba.prog 44 #[.slice (some ⟨blk, off, none⟩) n cap, .int .i64 ((m : Int) - (i : Int)), .int .i64 m, .int .i64 i, fv] wr fun e w' => e = .returned (.tuple #[]) ∧ ∃ d', Hid (Exch (m - i) m i dk d') ∧ Hid (PermIn (m - i) (m + i) dk d') ∧ S w0 blk off n d' w' := by
        rw [show ((m : Int) - (i : Int)) = ((m - i : Nat) : Int) by omega]
        exact swapRange_walk w0 wr blk off n cap (m - i) m i dk fv hs.out (by omega) (by omega) hsz
      go_wp2_with (go_at_call 44; refine hcs.mono ?_; rintro e w1 ⟨rfl, d1, hx, hp, hs1⟩)
      go_end0
      exact ⟨rfl, d1, hide (hgo.out _ (Rot.last (by omega) hx.out)), hide (permIn_trans _ _ _ _ _ hperm.out (permIn_mono _ _ (m - i) (m + i) a b (by have := Hib.out; omega) (by have := Hib.out; omega) (by rw [hs.out.size]; exact hb) hp.out)), hs1⟩
    · have hnez : ¬ ((i : Int) = (j : Int)) := by omega
      by_cases hlt : j < i
      · have hcs : Calls Yba.prog 44 #[.slice (some ⟨blk, off, none⟩) n cap, .int .i64 ((m : Int) - (i : Int)), .int .i64 m, .int .i64 j, fv] wr fun e w' => e = .returned (.tuple #[]) ∧ ∃ d', Hid (Exch (m - i) m j dk d') ∧ Hid (PermIn (m - i) (m + j) dk d') ∧ S w0 blk off n d' w' := by
          rw [show ((m : Int) - (i : Int)) = ((m - i : Nat) : Int) by omega]
          exact swapRange_walk w0 wr blk off n cap (m - i) m j dk fv hs.out (by omega) (by omega) hsz
        go_wp2_with (go_at_call 44; refine hcs.mono ?_; rintro e w1 ⟨rfl, d1, hx, hp, hs1⟩)
        go_roundg (i - j + j)
        case measure => omega
        case rel =>
          refine ⟨i - j, j, d1, by go_num, rfl, by omega, Nat.le_refl _, hide fun X hX => hgo.out X (Rot.left (by omega) (by omega) hx.out ?_), hide (permIn_trans _ _ _ _ _ hperm.out (permIn_mono _ _ (m - i) (m + j) a b (by have := Hib.out; omega) (by have := Hib.out; omega) (by rw [hs.out.size]; exact hb) hp.out)), hide hs1⟩
          rw [show m - i + j = m - (i - j) by omega]
          exact hX
      · have hcs : Calls Yba.prog 44 #[.slice (some ⟨blk, off, none⟩) n cap, .int .i64 ((m : Int) - (i : Int)), .int .i64 ((m : Int) + (j : Int) - (i : Int)), .int .i64 i, fv] wr fun e w' => e = .returned (.tuple #[]) ∧ ∃ d', Hid (Exch (m - i) (m + j - i) i dk d') ∧ Hid (PermIn (m - i) (m + j - i + i) dk d') ∧ S w0 blk off n d' w' := by
          rw [show ((m : Int) - (i : Int)) = ((m - i : Nat) : Int) by omega, show ((m : Int) + (j : Int) - (i : Int)) = ((m + j - i : Nat) : Int) by omega]
          exact swapRange_walk w0 wr blk off n cap (m - i) (m + j - i) i dk fv hs.out (by omega) (by omega) hsz
        go_wp2_with (go_at_call 44; refine hcs.mono ?_; rintro e w1 ⟨rfl, d1, hx, hp, hs1⟩)
        go_roundg (i + (j - i))
        case measure => omega
        case rel =>
          refine ⟨i, j - i, d1, rfl, by go_num, by omega, Nat.le_refl _, hide fun X hX => hgo.out X (Rot.right (by omega) (by omega) hx.out ?_), hide (permIn_trans _ _ _ _ _ hperm.out (permIn_mono _ _ (m - i) (m + j - i + i) a b (by have := Hib.out; omega) (by have := Hib.out; omega) (by rw [hs.out.size]; exact hb) hp.out)), hide hs1⟩
          rw [show m + j - i = m + (j - i) by omega]
          exact hX
end Go.Proofs.Ybulkbkdi
