/-
  Seat b3050a: partialInsertionSortOrdered at uint8.
-/
import Derived.Test.YbulkbkdiRow
import Derived.Deep.Cut
import Derived.Deep.CutRange
import Derived.Deep.LoopGhost
namespace Go.Proofs.Ybulkbkdi
open Go.RowKit Go.Sort

theorem sorted_go {d : Array Int} {b i : Nat} (h : i < b) (hp : ltInt d[i]! d[i - 1]! = false) : scanSorted ltInt d b (i + 1) = scanSorted ltInt d b i := by
  rw [scanSorted.eq_def ltInt d b i, if_pos (by simp [h, hp])]
theorem sorted_end {d : Array Int} {b i : Nat} (h : (decide (i < b) && !ltInt d[i]! d[i - 1]!) = false) : scanSorted ltInt d b i = i := by
  rw [scanSorted.eq_def ltInt d b i, if_neg (by simp [h])]
theorem shDown_go {d : Array Int} {j : Nat} (h : 1 ≤ j) (hp : ltInt d[j]! d[j - 1]! = true) : shiftDown ltInt (j - 1) (swp d j (j - 1)) = shiftDown ltInt j d := by
  cases j with
  | zero => omega
  | succ k => rw [shiftDown.eq_def ltInt (k + 1)]; simp only [Nat.add_sub_cancel] at hp ⊢; simp [hp]
theorem shDown_end {d : Array Int} {j : Nat} (h : j = 0 ∨ ltInt d[j]! d[j - 1]! = false) : shiftDown ltInt j d = d := by
  cases j with
  | zero => rfl
  | succ k =>
    rw [shiftDown.eq_def ltInt (k + 1)]
    rcases h with h | h
    · omega
    · simp only [Nat.add_sub_cancel] at h ⊢; simp [h]
theorem shUp_go {d : Array Int} {b j : Nat} (h : j < b) (hp : ltInt d[j]! d[j - 1]! = true) : shiftUp ltInt b (j + 1) (swp d j (j - 1)) = shiftUp ltInt b j d := by
  rw [shiftUp.eq_def ltInt b j, if_pos h, if_neg (by simp [hp])]
theorem shUp_end {d : Array Int} {b j : Nat} (h : ¬ j < b ∨ ltInt d[j]! d[j - 1]! = false) : shiftUp ltInt b j d = d := by
  rw [shiftUp.eq_def ltInt b j]
  rcases h with h | h
  · rw [if_neg h]
  · split
    · simp [h]
    · rfl

def downFix (a k : Nat) (d : Array Int) : Array Int := if k - a ≥ 2 then shiftDown ltInt (k - 1) d else d
def upFix (b k : Nat) (d : Array Int) : Array Int := if b - k ≥ 2 then shiftUp ltInt b (k + 1) d else d
theorem pi_true {a b s i : Nat} {d : Array Int} (h : scanSorted ltInt d b i = b) : partialIns ltInt a b (s + 1) i d = (d, true) := by
  rw [partialIns]; simp [h]
theorem pi_short {a b s i : Nat} {d : Array Int} (h : scanSorted ltInt d b i ≠ b) (h5 : b - a < 50) : partialIns ltInt a b (s + 1) i d = (d, false) := by
  rw [partialIns]; simp only []; rw [if_neg h, if_pos h5]
theorem pi_step {a b s i k : Nat} {d : Array Int} (hk : k = scanSorted ltInt d b i) (h : k ≠ b) (h5 : ¬ b - a < 50) : partialIns ltInt a b (s + 1) i d = partialIns ltInt a b s k (upFix b k (downFix a k (swp d k (k - 1)))) := by
  subst hk
  rw [partialIns]; simp only []; rw [if_neg h, if_neg h5]; rfl

set_option maxHeartbeats 3200000 in
set_option maxRecDepth 1000000 in
theorem partial_walk (W w : World) (blk off n cap a b : Nat) (d : Array Int) (hR : R W blk off n d w) (hab : a < b) (hb : b ≤ n) (hsz : n < 4611686018427387904) :
    Calls Yba.prog 29 #[.slice (some ⟨blk, off, none⟩) n cap, .int .i64 a, .int .i64 b] w fun e w' =>
      e = .returned (.bool (partialInsertionSort ltInt d a b).2) ∧ R W blk off n (partialInsertionSort ltInt d a b).1 w' := by
  unfold partialInsertionSort
  obtain ⟨P, HP⟩ : ∃ P, Hid (P = partialIns ltInt a b 5 (a + 1) d) := ⟨_, hide rfl⟩
  rw [← HP.out]
  go_enter Yba.func29, Yba.ntmps29
  go_wp2
  go_loopg [7, 8] 5 (fun g v7 v8 wr => ∃ (i s : Nat) (z : Int) (dk : Array Int), v7 = .int .i64 i ∧ v8 = .int .i64 z ∧ z + s = 5 ∧ s ≤ 5 ∧ s ≤ g ∧ a < i ∧ i ≤ b ∧ R W blk off n dk wr ∧ Hid (partialIns ltInt a b s i dk = P))
  case atStart => exact ⟨a + 1, 5, 0, d, by go_num, rfl, by omega, by omega, by omega, by omega, by omega, hR, hide HP.out.symm⟩
  case round =>
    clear HP hR
    obtain ⟨i, s, z, dk, rfl, rfl, hzs, hs5, hsg, hai, hib, hrow, heq⟩ := hrel
    have Hzs := hide hzs
    have Hr := hide hrow
    clear hrow
    cases s with
    | zero =>
      have hz : ¬ (z < 5) := by omega
      clear hzs
      have e : P = (dk, false) := by rw [← heq.out]; rfl
      subst e
      go_wp2
      go_ret
      exact ⟨rfl, Hr.out⟩
    | succ s =>
    have hz : z < 5 := by omega
    have hz0 : 0 ≤ z := by omega
    clear hzs
    have hc := Hr.out.cell
    have hf := Hr.out.frozen
    obtain ⟨G, hG⟩ : ∃ G : Nat → Int, ∀ t, G t = dk[t]! := ⟨fun t => dk[t]!, fun _ => rfl⟩
    simp only [← hG] at hc
    have HG := hide hG
    clear hG
    go_wp2_with fail
    go_loopg [7] (b - i) (fun g v w1 => ∃ (k : Nat), v = .int .i64 k ∧ i ≤ k ∧ k ≤ b ∧ b - k ≤ g ∧ R W blk off n dk w1 ∧ Hid (scanSorted ltInt dk b k = scanSorted ltInt dk b i))
    case atStart => exact ⟨i, rfl, Nat.le_refl _, hib, Nat.le_refl _, Hr.out, hide rfl⟩
    case round =>
    obtain ⟨k, rfl, hik, hkb, hg, hrow, hsc⟩ := hrel
    clear Hr hc hf
    have hc := hrow.cell
    simp only [← HG.out] at hc
    have Hr := hide hrow
    clear hrow
    obtain ⟨q, Hq⟩ : ∃ q : Bool, Hid (q = (decide (k < b) && !ltInt (G k) (G (k - 1)))) := ⟨_, hide rfl⟩
    go_upto_region 5 with fail
    go_cut [32] from 17 to 34 (fun v wc => v = .bool q ∧ R W blk off n dk wc)
    case first =>
      by_cases hle : k < b
      · go_big_quiet (first | (go_at_call 30; refine Calls.quiet_of_same (less _ _ _)))
        go_wp2_with fail
        go_meet
        case rel => exact ⟨by rw [Hq.out]; simp [hle], Hr.out.drewN _⟩
      · go_big_quiet (first | (go_at_call 30; refine Calls.quiet_of_same (less _ _ _)))
        go_wp2_with fail
        go_meet
        case rel => exact ⟨by rw [Hq.out]; simp [hle], Hr.out.drewN _⟩
    case rest =>
    obtain ⟨rfl, hrow⟩ := hcut
    clear Hr hc
    have Hr := hide hrow
    have hc := hrow.cell
    have hf := hrow.frozen
    simp only [← HG.out] at hc
    clear hrow
    cases q
    rotate_left
    · have hb2 := Hq.out
      simp only [Bool.true_eq, Bool.and_eq_true, decide_eq_true_eq, Bool.not_eq_true'] at hb2
      obtain ⟨hle, hpp⟩ := hb2
      have Hp := hide hpp
      clear hpp
      go_wp2
      go_roundg (b - (k + 1))
      case rel => exact ⟨k + 1, by go_num, by omega, by omega, by omega, Hr.out, hide ((sorted_go hle (by have := Hp.out; rw [HG.out, HG.out] at this; exact this)).trans hsc.out)⟩
      case measure => omega
    have hk : Hid (k = scanSorted ltInt dk b i) := (sorted_end (by have := Hq.out; rw [HG.out, HG.out] at this; exact this.symm)).symm.trans hsc.out
    clear hsc Hq
    by_cases hkb2 : k = b
    · subst hkb2
      have e : P = (dk, true) := by rw [← heq.out]; exact pi_true hk.out.symm
      subst e
      go_wp2
      go_ret
      exact ⟨rfl, Hr.out⟩
    have hkb3 : ¬ ((k : Int) = (b : Int)) := by omega
    by_cases h50 : b - a < 50
    · have h50z : (b : Int) - (a : Int) < 50 := by omega
      have e : P = (dk, false) := by rw [← heq.out]; exact pi_short (by rw [← hk.out]; exact hkb2) h50
      subst e
      go_wp2
      go_ret
      exact ⟨rfl, Hr.out⟩
    have h50z : ¬ ((b : Int) - (a : Int) < 50) := by omega
    have Heq : Hid (partialIns ltInt a b s k (upFix b k (downFix a k (swp dk k (k - 1)))) = P) := by
      show _ = _
      rw [← heq.out]; exact (pi_step hk.out hkb2 h50).symm
    clear heq hk
    have hklt : k < b := by omega
    go_upto_region 11 with fail
    go_cut [] from 13 to 132 (fun wc => R W blk off n (swp dk k (k - 1)) wc)
    case first =>
      go_region
      all_goals go_wp2_with fail
      go_meet
      case rel => exact (Hr.out.swap k (k - 1) (by omega) (by omega) _ _ (by rw [HG.out]) (by rw [HG.out])).drew
    case rest =>
    clear Hr hc hf HG
    obtain ⟨d1, Hd1⟩ : ∃ d1, Hid (d1 = swp dk k (k - 1)) := ⟨_, hide rfl⟩
    rw [← Hd1.out] at hcut Heq
    have Hr := hide hcut
    clear hcut
    obtain ⟨d2, Hd2⟩ : ∃ d2, Hid (d2 = downFix a k d1) := ⟨_, hide rfl⟩
    rw [← Hd2.out] at Heq
    go_upto_if 61 with fail
    go_cut [9] from 13 to 132 (fun v9 wc => R W blk off n d2 wc)
    case first =>
      by_cases h2 : k - a ≥ 2
      · have h2z : (k : Int) - (a : Int) ≥ 2 := by omega
        have h2y : 2 ≤ (k : Int) - (a : Int) := by omega
        have Hd : Hid (d2 = shiftDown ltInt (k - 1) d1) := by show _ = _; rw [Hd2.out, downFix, if_pos h2]
        go_wp2_with fail
        go_loopg [9] k (fun g v wr => ∃ (j : Nat) (dj : Array Int), v = .int .i64 j ∧ j ≤ k - 1 ∧ j + 1 ≤ g ∧ R W blk off n dj wr ∧ Hid (shiftDown ltInt j dj = d2))
        case atStart => exact ⟨k - 1, d1, by go_num, by omega, by omega, Hr.out, hide Hd.out.symm⟩
        case round =>
        obtain ⟨j, dj, rfl, hjk, hjg, hrow, hsd⟩ := hrel
        have hc := hrow.cell
        have hf := hrow.frozen
        have Hr := hide hrow
        clear hrow
        obtain ⟨G, hG⟩ : ∃ G : Nat → Int, ∀ t, G t = dj[t]! := ⟨fun t => dj[t]!, fun _ => rfl⟩
        simp only [← hG] at hc
        have HG := hide hG
        clear hG
        by_cases hj1 : 1 ≤ j
        · go_wp2_with fail
          go_big_quiet (first | (go_at_call 30; refine Calls.quiet_of_same (less _ _ _)))
          go_wp2_with fail
          · have hl : ltInt (G j) (G (j - 1)) = false := by
              have : (!ltInt (G j) (G (j - 1))) = true := by assumption
              simpa using this
            go_meet
            case rel => rw [← hsd.out, shDown_end (Or.inr (by rw [← HG.out, ← HG.out]; exact hl))]; exact Hr.out.drewN _
          · have hl : ltInt (G j) (G (j - 1)) = true := by
              have : (!ltInt (G j) (G (j - 1))) = false := by assumption
              simpa using this
            go_region
            all_goals go_wp2
            go_roundg j
            case rel => exact ⟨j - 1, swp dj j (j - 1), by go_num, by omega, by omega, (Hr.out.drewN (nq + 1)).swap j (j - 1) (by omega) (by omega) _ _ (by rw [HG.out]) (by rw [HG.out]), hide ((shDown_go hj1 (by rw [← HG.out, ← HG.out]; exact hl)).trans hsd.out)⟩
            case measure => omega
        · go_wp2_with fail
          go_meet
          case rel => rw [← hsd.out, shDown_end (Or.inl (by omega))]; exact Hr.out
      · have h2z : ¬ ((k : Int) - (a : Int) ≥ 2) := by omega
        have h2y : ¬ (2 ≤ (k : Int) - (a : Int)) := by omega
        go_wp2_with fail
        go_meet
        case rel => rw [Hd2.out, downFix, if_neg h2]; exact Hr.out
    case rest =>
    clear Hr Hd1 Hd2
    have Hr := hide hcut
    clear hcut
    obtain ⟨d3, Hd3⟩ : ∃ d3, Hid (d3 = upFix b k d2) := ⟨_, hide rfl⟩
    rw [← Hd3.out] at Heq
    have FIN : Hid (∀ wz, R W blk off n d3 wz → ∃ (i s' : Nat) (z' : Int) (dk : Array Int), Value.int .i64 k = .int .i64 i ∧ Value.int .i64 (z + 1) = .int .i64 z' ∧ z' + s' = 5 ∧ s' ≤ 5 ∧ s' ≤ s ∧ a < i ∧ i ≤ b ∧ R W blk off n dk wz ∧ Hid (partialIns ltInt a b s' i dk = P)) := fun wz hz =>
      ⟨k, s, z + 1, d3, rfl, rfl, by have := Hzs.out; omega, by omega, Nat.le_refl _, by omega, by omega, hz, Heq⟩
    go_upto_if 98 with fail
    by_cases h2 : b - k ≥ 2
    · have h2z : (b : Int) - (k : Int) ≥ 2 := by omega
      have h2y : 2 ≤ (b : Int) - (k : Int) := by omega
      have Hd : Hid (d3 = shiftUp ltInt b (k + 1) d2) := by show _ = _; rw [Hd3.out, upFix, if_pos h2]
      go_wp2_with fail
      go_loopg [10] b (fun g v wr => ∃ (j : Nat) (dj : Array Int), v = .int .i64 j ∧ k + 1 ≤ j ∧ j ≤ b ∧ b - j ≤ g ∧ R W blk off n dj wr ∧ Hid (shiftUp ltInt b j dj = d3))
      case atStart => exact ⟨k + 1, d2, by go_num, by omega, by omega, by omega, Hr.out, hide Hd.out.symm⟩
      case round =>
      obtain ⟨j, dj, rfl, hjk, hjb, hjg, hrow, hsd⟩ := hrel
      have hc := hrow.cell
      have hf := hrow.frozen
      have Hr := hide hrow
      clear hrow
      obtain ⟨G, hG⟩ : ∃ G : Nat → Int, ∀ t, G t = dj[t]! := ⟨fun t => dj[t]!, fun _ => rfl⟩
      simp only [← hG] at hc
      have HG := hide hG
      clear hG
      by_cases hj1 : j < b
      · go_wp2_with fail
        go_big_quiet (first | (go_at_call 30; refine Calls.quiet_of_same (less _ _ _)))
        go_wp2_with fail
        · have hl : ltInt (G j) (G (j - 1)) = false := by
            have : (!ltInt (G j) (G (j - 1))) = true := by assumption
            simpa using this
          go_roundg s
          case rel => exact FIN.out _ (by rw [← hsd.out, shUp_end (Or.inr (by rw [← HG.out, ← HG.out]; exact hl))]; exact Hr.out.drewN _)
          case measure => omega
        · have hl : ltInt (G j) (G (j - 1)) = true := by
            have : (!ltInt (G j) (G (j - 1))) = false := by assumption
            simpa using this
          go_region
          all_goals go_wp2
          go_roundg (b - (j + 1))
          case rel => exact ⟨j + 1, swp dj j (j - 1), by go_num, by omega, by omega, by omega, (Hr.out.drewN (nq + 1)).swap j (j - 1) (by omega) (by omega) _ _ (by rw [HG.out]) (by rw [HG.out]), hide ((shUp_go hj1 (by rw [← HG.out, ← HG.out]; exact hl)).trans hsd.out)⟩
          case measure => omega
      · go_wp2_with fail
        go_roundg s
        case rel => exact FIN.out _ (by rw [← hsd.out, shUp_end (Or.inl hj1)]; exact Hr.out)
        case measure => omega
    · have h2z : ¬ ((b : Int) - (k : Int) ≥ 2) := by omega
      have h2y : ¬ (2 ≤ (b : Int) - (k : Int)) := by omega
      go_wp2_with fail
      go_roundg s
      case rel => exact FIN.out _ (by rw [Hd3.out, upFix, if_neg h2]; exact Hr.out)
      case measure => omega
end Go.Proofs.Ybulkbkdi
