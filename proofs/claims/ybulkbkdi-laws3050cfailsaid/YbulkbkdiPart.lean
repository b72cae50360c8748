/-
  Seat b3050a: partitionEqualOrdered and partitionOrdered at uint8.
-/
import Derived.Test.YbulkbkdiRow
import Derived.Deep.Cut
import Derived.Deep.CutRange
import Derived.Deep.LoopGhost
namespace Go.Proofs.Ybulkbkdi
open Go.RowKit Go.Sort

theorem up_go {p : Int → Bool} {d : Array Int} {j i : Nat} (h : i ≤ j) (hp : p d[i]! = true) : scanUp p d j (i + 1) = scanUp p d j i := by
  rw [scanUp.eq_def p d j i, if_pos (by simp [h, hp])]
theorem up_end {p : Int → Bool} {d : Array Int} {j i : Nat} (h : (decide (i ≤ j) && p d[i]!) = false) : scanUp p d j i = i := by
  rw [scanUp.eq_def p d j i, if_neg (by simp [h])]
theorem down_go {p : Int → Bool} {d : Array Int} {j i : Nat} (h : i ≤ j) (h1 : 1 ≤ j) (hp : p d[j]! = true) : scanDown p d i (j - 1) = scanDown p d i j := by
  cases j with
  | zero => omega
  | succ k => rw [scanDown.eq_def p d i (k + 1)]; simp only [Nat.add_sub_cancel]; rw [if_pos (by simp [h, hp])]
theorem down_end {p : Int → Bool} {d : Array Int} {j i : Nat} (h : (decide (i ≤ j) && p d[j]!) = false) : scanDown p d i j = j := by
  cases j with
  | zero => rfl
  | succ k => rw [scanDown.eq_def p d i (k + 1)]; simp only []; rw [if_neg (by simp [h])]

/-- The two scans do not stop at one place. -/
theorem scans_apart (p : Int → Bool) (d : Array Int) (i j : Nat) (h0 : 0 < i) {i2 j2 : Nat} (hi2 : i2 = scanUp p d j i) (hj2 : j2 = scanDown (fun x => !p x) d i2 j) (h : i2 ≤ j2) : i2 < j2 := by
  subst hi2
  obtain ⟨u1, _, _, u4⟩ := scanUp_spec p d j _ i rfl
  obtain ⟨v1, _, _, v4⟩ := scanDown_spec (fun x => !p x) d (scanUp p d j i) j
  rw [← hj2] at v1 v4
  rcases Nat.lt_or_ge (scanUp p d j i) j2 with h' | h'
  · exact h'
  · have e : j2 = scanUp p d j i := by omega
    have f1 := u4 (by omega)
    have f2 := v4 h (by omega)
    rw [e] at f2
    simp [f1] at f2

set_option maxHeartbeats 3200000 in
set_option maxRecDepth 1000000 in
theorem partEq_walk (W w : World) (blk off n cap a b pivot : Nat) (d : Array Int) (hR : R W blk off n d w) (hap : a ≤ pivot) (hpb : pivot < b) (hb : b ≤ n) (hsz : n < 4611686018427387904) :
    Calls Yba.prog 31 #[.slice (some ⟨blk, off, none⟩) n cap, .int .i64 a, .int .i64 b, .int .i64 pivot] w fun e w' =>
      e = .returned (.int .i64 (partitionEqual ltInt d a b pivot).1) ∧ R W blk off n (partitionEqual ltInt d a b pivot).2 w' := by
  unfold partitionEqual
  go_enter Yba.func31, Yba.ntmps31
  go_upto_region 1 with fail
  have hla : a < n := by omega
  have hlp : pivot < n := by omega
  have hc := hR.cell
  have hf := hR.frozen
  have Hr := hide hR
  clear hR
  obtain ⟨G, hG⟩ : ∃ G : Nat → Int, ∀ t, G t = d[t]! := ⟨fun t => d[t]!, fun _ => rfl⟩
  simp only [← hG] at hc
  have HG := hide hG
  clear hG
  go_cut [] from 11 (fun wc => R W blk off n (swp d a pivot) wc)
  case first =>
    by_cases hs : a = pivot
    · subst hs
      go_region
      all_goals go_wp2_with fail
      go_meet
      case rel => exact (Hr.out.swap a a (by omega) (by omega) _ _ (by rw [HG.out]) (by rw [HG.out])).drew
    · go_region
      all_goals go_wp2_with fail
      go_meet
      case rel => exact (Hr.out.swap a pivot (by omega) (by omega) _ _ (by rw [HG.out]) (by rw [HG.out])).drew
  case rest =>
  clear Hr HG hc hf
  go_wp2_with fail
  go_loopg [9, 10] n (fun g vi vj wr => ∃ (i j : Nat) (dk : Array Int), vi = .int .i64 i ∧ vj = .int .i64 j ∧ a < i ∧ i ≤ j + 1 ∧ j < b ∧ j + 1 - i ≤ g ∧ R W blk off n dk wr ∧ Hid (partEqLoop ltInt a i j dk = partEqLoop ltInt a (a + 1) (b - 1) (swp d a pivot)))
  case atStart => exact ⟨a + 1, b - 1, swp d a pivot, by go_num, by go_num, by omega, by omega, by omega, by omega, hcut, hide rfl⟩
  case round =>
    clear hcut
    obtain ⟨i, j, dk, rfl, rfl, hai, hij, hjb, hgk, hrow, heq⟩ := hrel
    have hc := hrow.cell
    have hf := hrow.frozen
    have Hr := hide hrow
    clear hrow
    obtain ⟨G, hG⟩ : ∃ G : Nat → Int, ∀ t, G t = dk[t]! := ⟨fun t => dk[t]!, fun _ => rfl⟩
    simp only [← hG] at hc
    have HG := hide hG
    clear hG
    go_wp2_with fail
    go_loopg [9] (j + 1 - i) (fun g v w1 => ∃ (i' : Nat), v = .int .i64 i' ∧ i ≤ i' ∧ i' ≤ j + 1 ∧ j + 1 - i' ≤ g ∧ R W blk off n dk w1 ∧ Hid (scanUp (fun x => !ltInt dk[a]! x) dk j i' = scanUp (fun x => !ltInt dk[a]! x) dk j i))
    case atStart => exact ⟨i, rfl, Nat.le_refl _, hij, Nat.le_refl _, Hr.out, hide rfl⟩
    case round =>
    obtain ⟨i', rfl, hii, hij', hg, hrow, hsc⟩ := hrel
    clear Hr hc hf
    have hc := hrow.cell
    simp only [← HG.out] at hc
    have Hr := hide hrow
    clear hrow
    obtain ⟨q, Hq⟩ : ∃ q : Bool, Hid (q = (decide (i' ≤ j) && !ltInt (G a) (G i'))) := ⟨_, hide rfl⟩
    go_upto_region 3 with fail
    go_cut [43] from 29 to 45 (fun v wc => v = .bool q ∧ R W blk off n dk wc)
    case first =>
      by_cases hle : i' ≤ j
      · go_big_quiet (first | (go_at_call 30; refine Calls.quiet_of_same (less _ _ _)))
        go_wp2_with fail
        go_meet
        case rel => exact ⟨by rw [Hq.out]; simp [hle], Hr.out.drewN _⟩
      · go_big_quiet (first | (go_at_call 30; refine Calls.quiet_of_same (less _ _ _)))
        go_wp2_with fail
        go_meet
        case rel => exact ⟨by rw [Hq.out]; simp [hle], Hr.out.drewN _⟩
    case rest =>
    obtain ⟨rfl, hrow⟩ := hcut
    clear Hr hc
    have Hr := hide hrow
    have hc := hrow.cell
    have hf := hrow.frozen
    simp only [← HG.out] at hc
    clear hrow
    cases q
    rotate_left
    · have hb2 := Hq.out
      simp only [Bool.true_eq, Bool.and_eq_true, decide_eq_true_eq] at hb2
      obtain ⟨hle, hpp⟩ := hb2
      have Hp := hide hpp
      clear hpp
      go_wp2
      go_roundg (j - i')
      case rel => exact ⟨i' + 1, by go_num, by omega, by omega, by omega, Hr.out, hide ((up_go hle (by have := Hp.out; rw [HG.out, HG.out] at this; exact this)).trans hsc.out)⟩
      case measure => omega
    have hi2 : Hid (i' = scanUp (fun x => !ltInt dk[a]! x) dk j i) := (up_end (by have := Hq.out; rw [HG.out, HG.out] at this; exact this.symm)).symm.trans hsc.out
    clear hsc Hq
    go_wp2_with fail
    go_loopg [10] (j + 1) (fun g v w1 => ∃ (j' : Nat), v = .int .i64 j' ∧ j' ≤ j ∧ i' ≤ j' + 1 ∧ j' + 1 ≤ g ∧ R W blk off n dk w1 ∧ Hid (scanDown (fun x => ltInt dk[a]! x) dk i' j' = scanDown (fun x => ltInt dk[a]! x) dk i' j))
    case atStart => exact ⟨j, rfl, Nat.le_refl _, hij', Nat.le_refl _, Hr.out, hide rfl⟩
    case round =>
    obtain ⟨j', rfl, hjj, hij2, hg2, hrow, hsc⟩ := hrel
    clear Hr hc hf
    have hc := hrow.cell
    simp only [← HG.out] at hc
    have Hr := hide hrow
    clear hrow
    obtain ⟨q, Hq⟩ : ∃ q : Bool, Hid (q = (decide (i' ≤ j') && ltInt (G a) (G j'))) := ⟨_, hide rfl⟩
    go_upto_region 5 with fail
    go_cut [59] from 46 to 61 (fun v wc => v = .bool q ∧ R W blk off n dk wc)
    case first =>
      by_cases hle : i' ≤ j'
      · go_big_quiet (first | (go_at_call 30; refine Calls.quiet_of_same (less _ _ _)))
        go_wp2_with fail
        go_meet
        case rel => exact ⟨by rw [Hq.out]; simp [hle], Hr.out.drewN _⟩
      · go_big_quiet (first | (go_at_call 30; refine Calls.quiet_of_same (less _ _ _)))
        go_wp2_with fail
        go_meet
        case rel => exact ⟨by rw [Hq.out]; simp [hle], Hr.out.drewN _⟩
    case rest =>
    obtain ⟨rfl, hrow⟩ := hcut
    clear Hr hc
    have Hr := hide hrow
    have hc := hrow.cell
    have hf := hrow.frozen
    simp only [← HG.out] at hc
    clear hrow
    cases q
    rotate_left
    · have hb2 := Hq.out
      simp only [Bool.true_eq, Bool.and_eq_true, decide_eq_true_eq] at hb2
      obtain ⟨hle, hpp⟩ := hb2
      have Hp := hide hpp
      clear hpp
      go_wp2
      go_roundg j'
      case rel => exact ⟨j' - 1, by go_num, by omega, by omega, by omega, Hr.out, hide ((down_go hle (by omega) (by have := Hp.out; rw [HG.out, HG.out] at this; exact this)).trans hsc.out)⟩
      case measure => omega
    have hj2 : Hid (j' = scanDown (fun x => ltInt dk[a]! x) dk i' j) := (down_end (by have := Hq.out; rw [HG.out, HG.out] at this; exact this.symm)).symm.trans hsc.out
    clear hsc Hq
    by_cases hlt : j' < i'
    · go_wp2
      go_ret
      have e : partEqLoop ltInt a i j dk = (i', dk) := by
        rw [partEqLoop_eq, ← hi2.out, ← hj2.out, if_pos hlt]
      rw [← heq.out, e]
      exact ⟨rfl, Hr.out⟩
    · have hlt3 := scans_apart _ dk i j (by omega) hi2.out (by simpa using hj2.out) (by omega)
      go_wp2_with fail
      go_region
      all_goals go_wp2
      go_roundg (j' - 1 + 1 - (i' + 1))
      case rel =>
        refine ⟨i' + 1, j' - 1, swp dk i' j', by go_num, by go_num, by omega, by omega, by omega, Nat.le_refl _, (Hr.out.swap i' j' (by omega) (by omega) _ _ (by rw [HG.out]) (by rw [HG.out])).drew, ?_⟩
        show _ = _
        rw [← heq.out, partEqLoop_eq ltInt a i j dk, ← hi2.out, ← hj2.out, if_neg (by omega)]
      case measure => omega
end Go.Proofs.Ybulkbkdi
