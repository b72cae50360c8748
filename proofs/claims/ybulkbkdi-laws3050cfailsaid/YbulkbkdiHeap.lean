/-
  Seat b3050a: siftDownOrdered and heapSortOrdered at uint8.
-/
import Derived.Test.YbulkbkdiRow
import Derived.Deep.Cut
import Derived.Deep.LoopGhost
namespace Go.Proofs.Ybulkbkdi
open Go.RowKit Go.Sort

/-- The child that the hole is held against. -/
def child (hi F r : Nat) (d : Array Int) : Nat := if 2 * r + 2 < hi ∧ ltInt d[F + (2 * r + 1)]! d[F + (2 * r + 2)]! = true then 2 * r + 2 else 2 * r + 1

theorem child_lt {hi F r : Nat} {d : Array Int} (h : 2 * r + 1 < hi) : child hi F r d < hi ∧ r < child hi F r d := by
  unfold child; split <;> omega

theorem sift_end {hi F r : Nat} (d : Array Int) (h : hi ≤ 2 * r + 1) : siftDown ltInt hi F r d = d := by rw [siftDown, dif_pos h]
theorem sift_stop {hi F r : Nat} (d : Array Int) (h : 2 * r + 1 < hi) (hs : ltInt d[F + r]! d[F + child hi F r d]! = false) : siftDown ltInt hi F r d = d := by
  rw [siftDown, dif_neg (by omega), show F + (2 * r + 1) + 1 = F + (2 * r + 2) by omega]
  unfold child at hs
  by_cases h1 : 2 * r + 2 < hi
  · by_cases h2 : ltInt d[F + (2 * r + 1)]! d[F + (2 * r + 2)]! = true
    · rw [if_pos ⟨h1, h2⟩] at hs
      rw [if_pos (by simp [h2]; omega), hs]; simp
    · rw [if_neg (by simp [h2])] at hs
      rw [if_neg (by simp [h2]), hs]; simp
  · rw [if_neg (by simp [h1])] at hs
    rw [if_neg (by simp; omega), hs]; simp
theorem sift_go {hi F r c : Nat} (d : Array Int) (h : 2 * r + 1 < hi) (hc : c = child hi F r d) (hs : ltInt d[F + r]! d[F + c]! = true) : siftDown ltInt hi F r d = siftDown ltInt hi F c (swp d (F + r) (F + c)) := by
  rw [siftDown, dif_neg (by omega), show F + (2 * r + 1) + 1 = F + (2 * r + 2) by omega]
  unfold child at hc
  by_cases h1 : 2 * r + 2 < hi
  · by_cases h2 : ltInt d[F + (2 * r + 1)]! d[F + (2 * r + 2)]! = true
    · rw [if_pos ⟨h1, h2⟩] at hc
      subst hc
      rw [if_pos (by simp [h2]; omega), hs]; simp [h1]
    · rw [if_neg (by simp [h2])] at hc
      subst hc
      rw [if_neg (by simp [h2]), hs]; simp
  · rw [if_neg (by simp [h1])] at hc
    subst hc
    rw [if_neg (by simp; omega), hs]; simp

set_option maxHeartbeats 6400000 in
set_option maxRecDepth 1000000 in
theorem sift_walk (W w : World) (blk off n cap lo hi F : Nat) (d : Array Int) (hR : R W blk off n d w) (hlo : lo ≤ hi) (hb : F + hi ≤ n) (hsz : n < 4611686018427387904) :
    Calls Yba.prog 37 #[.slice (some ⟨blk, off, none⟩) n cap, .int .i64 lo, .int .i64 hi, .int .i64 F] w fun e w' => e = .returned (.tuple #[]) ∧ R W blk off n (siftDown ltInt hi F lo d) w' := by
  go_enter Yba.func37, Yba.ntmps37
  go_wp2
  go_loopg [8] (hi - lo) (fun k s8 wr => ∃ (r : Nat) (dk : Array Int), s8 = .int .i64 r ∧ r ≤ hi ∧ hi - r ≤ k ∧ R W blk off n dk wr ∧ siftDown ltInt hi F r dk = siftDown ltInt hi F lo d)
  case atStart => exact ⟨lo, d, rfl, hlo, Nat.le_refl _, hR, rfl⟩
  case round =>
    obtain ⟨r, dk, rfl, hr, hk, hrow, heq⟩ := hrel
    have Hr := hide hrow
    have Heq := hide heq
    have hc := hrow.cell
    have hf := hrow.frozen
    clear hrow heq hR
    obtain ⟨G, hG⟩ : ∃ G : Nat → Int, ∀ t, G t = dk[t]! := ⟨fun t => dk[t]!, fun _ => rfl⟩
    simp only [← hG] at hc
    have HG := hide hG
    clear hG
    by_cases h0 : hi ≤ 2 * r + 1
    · have h0z : (hi : Int) ≤ 2 * (r : Int) + 1 := by omega
      go_wp2
      go_end0
      exact ⟨rfl, by rw [← Heq.out, sift_end dk h0]; exact Hr.out⟩
    · have h0z : ¬ ((hi : Int) ≤ 2 * (r : Int) + 1) := by omega
      obtain ⟨hc1, hc2⟩ := child_lt (hi := hi) (F := F) (r := r) (d := dk) (by omega)
      obtain ⟨c, hcd⟩ : ∃ c, c = child hi F r dk := ⟨_, rfl⟩
      rw [← hcd] at hc1 hc2
      have Hc := hide hcd
      clear hcd
      have Hq : ∃ q : Bool, Hid (q = decide (c = 2 * r + 2)) := ⟨_, hide rfl⟩
      obtain ⟨q, Hq⟩ := Hq
      go_upto_region 3 with fail
      go_cut [36] from 11 (fun v36 wc => v36 = .bool q ∧ R W blk off n dk wc)
      case first =>
        by_cases h1 : 2 * r + 2 < hi
        · have h1z : 2 * (r : Int) + 1 + 1 < (hi : Int) := by omega
          go_big_quiet (first | (go_at_call 30; refine Calls.quiet_of_same (less _ _ _)))
          go_wp2_with fail
          go_meet
          case rel =>
            refine ⟨?_, Hr.out.drewN _⟩
            congr 1
            rw [Hq.out, Hc.out, child, HG.out, HG.out]
            simp only [Nat.add_assoc]
            cases hl : ltInt dk[F + (2 * r + 1)]! dk[F + (2 * r + 2)]! <;> simp [h1]
        · have h1z : decide (2 * (r : Int) + 1 + 1 < (hi : Int)) = false := decide_eq_false (by omega)
          go_big_quiet (first | (go_at_call 30; refine Calls.quiet_of_same (less _ _ _)))
          go_wp2_with fail
          go_meet
          case rel => exact ⟨by congr 1; rw [Hq.out, Hc.out, child, if_neg (by simp [h1])]; simp, Hr.out.drewN _⟩
      case rest =>
        obtain ⟨rfl, hrow⟩ := hcut
        clear hc hf Hr
        have Hr := hide hrow
        clear hrow
        go_upto_if 36 with fail
        go_cut [9] from 11 (fun v9 wx => v9 = .int .i64 c ∧ R W blk off n dk wx)
        case first =>
          have Hcc : Hid (c = if q = true then 2 * r + 2 else 2 * r + 1) := by
            show c = _
            have h := Hc.out
            rw [Hq.out]
            unfold child at h
            split at h <;> simp [h]
          cases q
          · go_wp2_with fail
            go_meet
            case rel => exact ⟨by rw [Hcc.out]; simp, Hr.out⟩
          · go_wp2_with fail
            go_meet
            case rel => exact ⟨by rw [Hcc.out]; simp; omega, Hr.out⟩
        case rest =>
        obtain ⟨rfl, hrow⟩ := hcut
        clear Hr
        have Hr := hide hrow
        have hc := hrow.cell
        have hf := hrow.frozen
        clear hrow
        simp only [← HG.out] at hc
        go_wp2_with fail
        go_big_quiet (first | (go_at_call 30; refine Calls.quiet_of_same (less _ _ _)))
        go_wp2_with fail
        · have hl : ltInt (G (F + r)) (G (F + c)) = false := by
            have : (!ltInt (G (F + r)) (G (F + c))) = true := by assumption
            simpa using this
          (try simp only [Exit.inBlock, Exit.then]); refine bodyPost_ret (results_none rfl _ _ _) rfl ?_
          exact ⟨rfl, by rw [← Heq.out, sift_stop dk (by omega) (by rw [← HG.out, ← HG.out, ← Hc.out]; exact hl)]; exact Hr.out.drewN _⟩
        · have hl : ltInt (G (F + r)) (G (F + c)) = true := by
            have : (!ltInt (G (F + r)) (G (F + c))) = false := by assumption
            simpa using this
          go_region
          all_goals go_wp2
          go_roundg (hi - c)
          case measure => omega
          case rel =>
            refine ⟨c, swp dk (F + r) (F + c), rfl, by omega, Nat.le_refl _, ?_, ?_⟩
            · have h2 := (Hr.out.drewN (nq + 1)).swap (F + r) (F + c) (by omega) (by omega) (.int .u8 (G (F + c))) (.int .u8 (G (F + r))) (by rw [HG.out]) (by rw [HG.out])
              simpa only [Nat.add_assoc] using h2
            · rw [← Heq.out, sift_go dk (by omega) Hc.out (by rw [← HG.out, ← HG.out]; exact hl)]

set_option maxHeartbeats 1600000 in
set_option maxRecDepth 1000000 in
theorem heap_walk (W w : World) (blk off n cap a b : Nat) (d : Array Int) (hR : R W blk off n d w) (hab : a < b) (hb : b ≤ n) (hsz : n < 4611686018427387904) :
    Calls Yba.prog 25 #[.slice (some ⟨blk, off, none⟩) n cap, .int .i64 a, .int .i64 b] w fun e w' => e = .returned (.tuple #[]) ∧ R W blk off n (heapSort ltInt d a b) w' := by
  obtain ⟨m, hm⟩ : ∃ m, m = b - a := ⟨b - a, rfl⟩
  unfold heapSort
  rw [← hm]
  have em : (b : Int) - (a : Int) = (m : Int) := by omega
  have hmn : a + m ≤ n := by omega
  have hm0 : 0 < m := by omega
  clear hm hab hb
  obtain ⟨q, hq⟩ : ∃ q, q = (m - 1) / 2 := ⟨_, rfl⟩
  have hqm : q < m := by omega
  rw [← hq]
  have Hq := hide hq
  clear hq
  go_enter Yba.func25, Yba.ntmps25
  go_wp2
  go_loopg [9] (q + 1) (fun g v9 wr => ∃ (k : Nat) (z : Int) (dk : Array Int), k ≤ g ∧ v9 = .int .i64 z ∧ Hid (z = (k : Int) - 1) ∧ k ≤ q + 1 ∧ R W blk off n dk wr ∧ heapBuild ltInt m a k dk = heapBuild ltInt m a (q + 1) d)
  case atStart => exact ⟨q + 1, (m - 1 : Int) / 2, d, Nat.le_refl _, rfl, (by have := Hq.out; show _ = _; omega), Nat.le_refl _, hR, rfl⟩
  case round =>
    obtain ⟨k, z, dk, hgk, rfl, hz, hk, hr, heq⟩ := hrel
    have Hr := hide hr
    have Heq := hide heq
    clear hr heq hR
    cases k with
    | zero =>
      have hz0 : ¬ (0 ≤ z) := by have := hz.out; omega
      have Hd : Hid (dk = heapBuild ltInt m a (q + 1) d) := by show dk = _; rw [← Heq.out]; rfl
      clear Heq
      go_wp2
      go_loopg [10] m (fun g v10 wr => ∃ (k : Nat) (z : Int) (dj : Array Int), k ≤ g ∧ v10 = .int .i64 z ∧ Hid (z = (k : Int) - 1) ∧ k ≤ m ∧ R W blk off n dj wr ∧ heapPop ltInt a k dj = heapPop ltInt a m (heapBuild ltInt m a (q + 1) d))
      case atStart => exact ⟨m, (m : Int) - 1, dk, Nat.le_refl _, rfl, hide rfl, Nat.le_refl _, Hr.out, by rw [Hd.out]⟩
      case round =>
        obtain ⟨k, z, dj, hgk, rfl, hz, hk, hr, heq⟩ := hrel
        have Hr := hide hr
        have Heq := hide heq
        have hc := hr.cell
        have hf := hr.frozen
        clear hr heq
        obtain ⟨G, hG⟩ : ∃ G : Nat → Int, ∀ t, G t = dj[t]! := ⟨fun t => dj[t]!, fun _ => rfl⟩
        simp only [← hG] at hc
        have HG := hide hG
        clear hG
        cases k with
        | zero =>
          have hz1 : ¬ (0 ≤ z) := by have := hz.out; omega
          go_wp2
          go_end0
          exact ⟨rfl, by rw [← Heq.out]; exact Hr.out⟩
        | succ k =>
          obtain rfl : z = (k : Int) := by have := hz.out; omega
          clear hz
          have hsw : ∀ w', R W blk off n (swp dj a (a + k)) w' → Calls Yba.prog 37 #[.slice (some ⟨blk, off, none⟩) n cap, .int .i64 (0 : Nat), .int .i64 k, .int .i64 a] w' fun e w'' => e = .returned (.tuple #[]) ∧ R W blk off n (siftDown ltInt k a 0 (swp dj a (a + k))) w'' :=
            fun w' h => sift_walk W w' blk off n cap 0 k a _ h (by omega) (by omega) hsz
          by_cases hk0 : k = 0
          · subst hk0
            go_wp2_with fail
            go_region
            all_goals go_wp2_with (go_at_call 37; refine (hsw _ ((Hr.out.drewN 1).swap a (a + 0) (by omega) (by omega) _ _ (by rw [HG.out]; rfl) (by rw [HG.out]))).mono ?_; rintro e w2 ⟨rfl, hr2⟩)
            go_roundg 0
            case rel => exact ⟨0, -1, _, Nat.le_refl _, rfl, hide rfl, by omega, hr2, by rw [← Heq.out]; rfl⟩
            case measure => omega
          · go_wp2_with fail
            go_region
            all_goals go_wp2_with (go_at_call 37; refine (hsw _ ((Hr.out.drewN 1).swap a (a + k) (by omega) (by omega) _ _ (by rw [HG.out]) (by rw [HG.out]))).mono ?_; rintro e w2 ⟨rfl, hr2⟩)
            go_roundg k
            case rel => exact ⟨k, _, _, Nat.le_refl _, rfl, hide rfl, by omega, hr2, by rw [← Heq.out]; rfl⟩
            case measure => omega
    | succ k =>
      obtain rfl : z = (k : Int) := by have := hz.out; omega
      clear hz
      have hsw : Calls Yba.prog 37 #[.slice (some ⟨blk, off, none⟩) n cap, .int .i64 k, .int .i64 m, .int .i64 a] wr fun e w'' => e = .returned (.tuple #[]) ∧ R W blk off n (siftDown ltInt m a k dk) w'' :=
        sift_walk W wr blk off n cap k m a _ Hr.out (by omega) (by omega) hsz
      go_wp2_with (go_at_call 37; refine hsw.mono ?_; rintro e w2 ⟨rfl, hr2⟩)
      go_roundg k
      case rel => exact ⟨k, _, _, Nat.le_refl _, rfl, hide rfl, by omega, hr2, by rw [← Heq.out]; rfl⟩
      case measure => omega
end Go.Proofs.Ybulkbkdi
