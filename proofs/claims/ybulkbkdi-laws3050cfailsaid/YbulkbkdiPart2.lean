/-
  Seat b3050a: partitionOrdered at uint8.
-/
import Derived.Test.YbulkbkdiPart
namespace Go.Proofs.Ybulkbkdi
open Go.RowKit Go.Sort

theorem part_early (d : Array Int) (a b pivot : Nat) {i j i2 j2 : Nat} {dk : Array Int} (hi : i = a + 1) (hj : j = b - 1) (hdk : dk = swp d a pivot) (hi2 : i2 = scanUp (fun x => ltInt x dk[a]!) dk j i) (hj2 : j2 = scanDown (fun x => !ltInt x dk[a]!) dk i2 j) (h : j2 < i2) :
    partition ltInt d a b pivot = (j2, true, swp dk j2 a) := by
  subst hi; subst hj; subst hdk
  unfold partition
  simp only []
  rw [← hi2, ← hj2, if_pos h]
theorem part_late (d : Array Int) (a b pivot : Nat) {i j i2 j2 : Nat} {dk : Array Int} (hi : i = a + 1) (hj : j = b - 1) (hdk : dk = swp d a pivot) (hi2 : i2 = scanUp (fun x => ltInt x dk[a]!) dk j i) (hj2 : j2 = scanDown (fun x => !ltInt x dk[a]!) dk i2 j) (h : ¬ j2 < i2) :
    partition ltInt d a b pivot = ((partLoop ltInt a (i2 + 1) (j2 - 1) (swp dk i2 j2)).1, false, swp (partLoop ltInt a (i2 + 1) (j2 - 1) (swp dk i2 j2)).2 (partLoop ltInt a (i2 + 1) (j2 - 1) (swp dk i2 j2)).1 a) := by
  subst hi; subst hj; subst hdk
  unfold partition
  simp only []
  rw [← hi2, ← hj2, if_neg h]

set_option maxHeartbeats 3200000 in
set_option maxRecDepth 1000000 in
theorem part_walk (W w : World) (blk off n cap a b pivot : Nat) (d : Array Int) (hR : R W blk off n d w) (hap : a ≤ pivot) (hpb : pivot < b) (hb : b ≤ n) (hsz : n < 4611686018427387904) :
    Calls Yba.prog 32 #[.slice (some ⟨blk, off, none⟩) n cap, .int .i64 a, .int .i64 b, .int .i64 pivot] w fun e w' =>
      e = .returned (.tuple #[.int .i64 (partition ltInt d a b pivot).1, .bool (partition ltInt d a b pivot).2.1]) ∧ R W blk off n (partition ltInt d a b pivot).2.2 w' := by
  obtain ⟨P, HP⟩ : ∃ P, Hid (P = partition ltInt d a b pivot) := ⟨_, hide rfl⟩
  rw [← HP.out]
  go_enter Yba.func32, Yba.ntmps32
  go_upto_region 1 with fail
  have hla : a < n := by omega
  have hlp : pivot < n := by omega
  have hc := hR.cell
  have hf := hR.frozen
  have Hr := hide hR
  clear hR
  obtain ⟨G, hG⟩ : ∃ G : Nat → Int, ∀ t, G t = d[t]! := ⟨fun t => d[t]!, fun _ => rfl⟩
  simp only [← hG] at hc
  have HG := hide hG
  clear hG
  go_cut [] from 12 (fun wc => R W blk off n (swp d a pivot) wc)
  case first =>
    by_cases hs : a = pivot
    · subst hs
      go_region
      all_goals go_wp2_with fail
      go_meet
      case rel => exact (Hr.out.swap a a (by omega) (by omega) _ _ (by rw [HG.out]) (by rw [HG.out])).drew
    · go_region
      all_goals go_wp2_with fail
      go_meet
      case rel => exact (Hr.out.swap a pivot (by omega) (by omega) _ _ (by rw [HG.out]) (by rw [HG.out])).drew
  case rest =>
  clear Hr HG hc hf
  obtain ⟨i, hi⟩ : ∃ i, i = a + 1 := ⟨_, rfl⟩
  obtain ⟨j, hj⟩ : ∃ j, j = b - 1 := ⟨_, rfl⟩
  obtain ⟨dk, hdk⟩ : ∃ dk, dk = swp d a pivot := ⟨_, rfl⟩
  rw [← hdk] at hcut
  have hai : a < i := by omega
  have hij : i ≤ j + 1 := by omega
  have hjb : j < b := by omega
  have Hi := hide hi
  have Hj := hide hj
  have Hdk := hide hdk
  clear hi hj hdk
  have hrow := hcut
  clear hcut
  have hc := hrow.cell
  have hf := hrow.frozen
  have Hr := hide hrow
  clear hrow
  obtain ⟨G, hG⟩ : ∃ G : Nat → Int, ∀ t, G t = dk[t]! := ⟨fun t => dk[t]!, fun _ => rfl⟩
  simp only [← hG] at hc
  have HG := hide hG
  clear hG
  go_upto_region 2 with fail
  go_cut [10, 11] from 12 (fun v10 v11 wc => v10 = .int .i64 i ∧ v11 = .int .i64 j ∧ R W blk off n dk wc)
  case first =>
    go_wp2_with fail
    go_meet
    case rel => exact ⟨by rw [Hi.out]; go_num, by rw [Hj.out]; congr 1; omega, Hr.out⟩
  case rest =>
  obtain ⟨rfl, rfl, hrow⟩ := hcut
  clear Hr hc hf
  have hc := hrow.cell
  have hf := hrow.frozen
  simp only [← HG.out] at hc
  have Hr := hide hrow
  clear hrow
  go_wp2_with fail
  go_loopg [10] (j + 1 - i) (fun g v w1 => ∃ (i' : Nat), v = .int .i64 i' ∧ i ≤ i' ∧ i' ≤ j + 1 ∧ j + 1 - i' ≤ g ∧ R W blk off n dk w1 ∧ Hid (scanUp (fun x => ltInt x dk[a]!) dk j i' = scanUp (fun x => ltInt x dk[a]!) dk j i))
  case atStart => exact ⟨i, rfl, Nat.le_refl _, hij, Nat.le_refl _, Hr.out, hide rfl⟩
  case round =>
  obtain ⟨i', rfl, hii, hij', hg, hrow, hsc⟩ := hrel
  clear Hr hc hf
  have hc := hrow.cell
  simp only [← HG.out] at hc
  have Hr := hide hrow
  clear hrow
  obtain ⟨q, Hq⟩ : ∃ q : Bool, Hid (q = (decide (i' ≤ j) && ltInt (G i') (G a))) := ⟨_, hide rfl⟩
  go_upto_region 3 with fail
  go_cut [43] from 30 to 45 (fun v wc => v = .bool q ∧ R W blk off n dk wc)
  case first =>
    by_cases hle : i' ≤ j
    · go_big_quiet (first | (go_at_call 30; refine Calls.quiet_of_same (less _ _ _)))
      go_wp2_with fail
      go_meet
      case rel => exact ⟨by rw [Hq.out]; simp [hle], Hr.out.drewN _⟩
    · go_big_quiet (first | (go_at_call 30; refine Calls.quiet_of_same (less _ _ _)))
      go_wp2_with fail
      go_meet
      case rel => exact ⟨by rw [Hq.out]; simp [hle], Hr.out.drewN _⟩
  case rest =>
  obtain ⟨rfl, hrow⟩ := hcut
  clear Hr hc
  have Hr := hide hrow
  have hc := hrow.cell
  have hf := hrow.frozen
  simp only [← HG.out] at hc
  clear hrow
  cases q
  rotate_left
  · have hb2 := Hq.out
    simp only [Bool.true_eq, Bool.and_eq_true, decide_eq_true_eq] at hb2
    obtain ⟨hle, hpp⟩ := hb2
    have Hp := hide hpp
    clear hpp
    go_wp2
    go_roundg (j - i')
    case rel => exact ⟨i' + 1, by go_num, by omega, by omega, by omega, Hr.out, hide ((up_go hle (by have := Hp.out; rw [HG.out, HG.out] at this; exact this)).trans hsc.out)⟩
    case measure => omega
  have hi2 : Hid (i' = scanUp (fun x => ltInt x dk[a]!) dk j i) := (up_end (by have := Hq.out; rw [HG.out, HG.out] at this; exact this.symm)).symm.trans hsc.out
  clear hsc Hq
  go_wp2_with fail
  go_loopg [11] (j + 1) (fun g v w1 => ∃ (j' : Nat), v = .int .i64 j' ∧ j' ≤ j ∧ i' ≤ j' + 1 ∧ j' + 1 ≤ g ∧ R W blk off n dk w1 ∧ Hid (scanDown (fun x => !ltInt x dk[a]!) dk i' j' = scanDown (fun x => !ltInt x dk[a]!) dk i' j))
  case atStart => exact ⟨j, rfl, Nat.le_refl _, hij', Nat.le_refl _, Hr.out, hide rfl⟩
  case round =>
  obtain ⟨j', rfl, hjj, hij2, hg2, hrow, hsc⟩ := hrel
  clear Hr hc hf
  have hc := hrow.cell
  simp only [← HG.out] at hc
  have Hr := hide hrow
  clear hrow
  obtain ⟨q, Hq⟩ : ∃ q : Bool, Hid (q = (decide (i' ≤ j') && !ltInt (G j') (G a))) := ⟨_, hide rfl⟩
  go_upto_region 5 with fail
  go_cut [60] from 46 to 62 (fun v wc => v = .bool q ∧ R W blk off n dk wc)
  case first =>
    by_cases hle : i' ≤ j'
    · go_big_quiet (first | (go_at_call 30; refine Calls.quiet_of_same (less _ _ _)))
      go_wp2_with fail
      go_meet
      case rel => exact ⟨by rw [Hq.out]; simp [hle], Hr.out.drewN _⟩
    · go_big_quiet (first | (go_at_call 30; refine Calls.quiet_of_same (less _ _ _)))
      go_wp2_with fail
      go_meet
      case rel => exact ⟨by rw [Hq.out]; simp [hle], Hr.out.drewN _⟩
  case rest =>
  obtain ⟨rfl, hrow⟩ := hcut
  clear Hr hc
  have Hr := hide hrow
  have hc := hrow.cell
  have hf := hrow.frozen
  simp only [← HG.out] at hc
  clear hrow
  cases q
  rotate_left
  · have hb2 := Hq.out
    simp only [Bool.true_eq, Bool.and_eq_true, decide_eq_true_eq] at hb2
    obtain ⟨hle, hpp⟩ := hb2
    have Hp := hide hpp
    clear hpp
    go_wp2
    go_roundg j'
    case rel => exact ⟨j' - 1, by go_num, by omega, by omega, by omega, Hr.out, hide ((down_go hle (by omega) (by have := Hp.out; rw [HG.out, HG.out] at this; exact this)).trans hsc.out)⟩
    case measure => omega
  have hj2 : Hid (j' = scanDown (fun x => !ltInt x dk[a]!) dk i' j) := (down_end (by have := Hq.out; rw [HG.out, HG.out] at this; exact this.symm)).symm.trans hsc.out
  clear hsc Hq
  by_cases hlt : j' < i'
  · have e := part_early d a b pivot Hi.out Hj.out Hdk.out hi2.out hj2.out hlt
    rw [← HP.out] at e
    subst e
    clear HP
    go_wp2_with fail
    by_cases hs : j' = a
    · subst hs
      go_region
      all_goals go_wp2
      go_ret2
      exact ⟨rfl, (Hr.out.swap j' j' (by omega) (by omega) _ _ (by rw [HG.out]) (by rw [HG.out])).drew⟩
    · go_region
      all_goals go_wp2
      go_ret2
      exact ⟨rfl, (Hr.out.swap j' a (by omega) (by omega) _ _ (by rw [HG.out]) (by rw [HG.out])).drew⟩
  · have e := part_late d a b pivot Hi.out Hj.out Hdk.out hi2.out hj2.out hlt
    rw [← HP.out] at e
    have hlt3 := scans_apart _ dk i j (by omega) hi2.out hj2.out (by omega)
    obtain ⟨L, HL⟩ : ∃ L, Hid (L = partLoop ltInt a (i' + 1) (j' - 1) (swp dk i' j')) := ⟨_, hide rfl⟩
    rw [← HL.out] at e
    subst e
    clear HP hi2 hj2
    go_upto_region 10 with fail
    go_cut [] from 30 (fun wc => R W blk off n (swp dk i' j') wc)
    case first =>
      go_region
      all_goals go_wp2_with fail
      go_meet
      case rel => exact (Hr.out.swap i' j' (by omega) (by omega) _ _ (by rw [HG.out]) (by rw [HG.out])).drew
    case rest =>
    clear Hr hc hf
    go_wp2_with fail
    go_loopg [10, 11] n (fun g vi vj wr => ∃ (i j : Nat) (dk : Array Int), vi = .int .i64 i ∧ vj = .int .i64 j ∧ a < i ∧ i ≤ j + 1 ∧ j < b ∧ j + 1 - i ≤ g ∧ R W blk off n dk wr ∧ Hid (partLoop ltInt a i j dk = L))
    case atStart => exact ⟨i' + 1, j' - 1, swp dk i' j', by go_num, by go_num, by omega, by omega, by omega, by omega, hcut, hide HL.out.symm⟩
    case round =>
      clear hcut HG HL Hdk Hi Hj hij' hii hjj hij2 hlt hlt3 hai hij hjb
      clear G
      rename_i i0 j0 _
      obtain ⟨i, j, dk, rfl, rfl, hai, hij, hjb, hgk, hrow, heq⟩ := hrel
      have hc := hrow.cell
      have hf := hrow.frozen
      have Hr := hide hrow
      clear hrow
      obtain ⟨G, hG⟩ : ∃ G : Nat → Int, ∀ t, G t = dk[t]! := ⟨fun t => dk[t]!, fun _ => rfl⟩
      simp only [← hG] at hc
      have HG := hide hG
      clear hG
      go_wp2_with fail
      go_loopg [10] (j + 1 - i) (fun g v w1 => ∃ (i' : Nat), v = .int .i64 i' ∧ i ≤ i' ∧ i' ≤ j + 1 ∧ j + 1 - i' ≤ g ∧ R W blk off n dk w1 ∧ Hid (scanUp (fun x => ltInt x dk[a]!) dk j i' = scanUp (fun x => ltInt x dk[a]!) dk j i))
      case atStart => exact ⟨i, rfl, Nat.le_refl _, hij, Nat.le_refl _, Hr.out, hide rfl⟩
      case round =>
      obtain ⟨i', rfl, hii, hij', hg, hrow, hsc⟩ := hrel
      clear Hr hc hf
      have hc := hrow.cell
      simp only [← HG.out] at hc
      have Hr := hide hrow
      clear hrow
      obtain ⟨q, Hq⟩ : ∃ q : Bool, Hid (q = (decide (i' ≤ j) && ltInt (G i') (G a))) := ⟨_, hide rfl⟩
      go_upto_region 13 with fail
      go_cut [112] from 99 to 114 (fun v wc => v = .bool q ∧ R W blk off n dk wc)
      case first =>
        by_cases hle : i' ≤ j
        · go_big_quiet (first | (go_at_call 30; refine Calls.quiet_of_same (less _ _ _)))
          go_wp2_with fail
          go_meet
          case rel => exact ⟨by rw [Hq.out]; simp [hle], Hr.out.drewN _⟩
        · go_big_quiet (first | (go_at_call 30; refine Calls.quiet_of_same (less _ _ _)))
          go_wp2_with fail
          go_meet
          case rel => exact ⟨by rw [Hq.out]; simp [hle], Hr.out.drewN _⟩
      case rest =>
      obtain ⟨rfl, hrow⟩ := hcut
      clear Hr hc
      have Hr := hide hrow
      have hc := hrow.cell
      have hf := hrow.frozen
      simp only [← HG.out] at hc
      clear hrow
      cases q
      rotate_left
      · have hb2 := Hq.out
        simp only [Bool.true_eq, Bool.and_eq_true, decide_eq_true_eq] at hb2
        obtain ⟨hle, hpp⟩ := hb2
        have Hp := hide hpp
        clear hpp
        go_wp2
        go_roundg (j - i')
        case rel => exact ⟨i' + 1, by go_num, by omega, by omega, by omega, Hr.out, hide ((up_go hle (by have := Hp.out; rw [HG.out, HG.out] at this; exact this)).trans hsc.out)⟩
        case measure => omega
      have hi2 : Hid (i' = scanUp (fun x => ltInt x dk[a]!) dk j i) := (up_end (by have := Hq.out; rw [HG.out, HG.out] at this; exact this.symm)).symm.trans hsc.out
      clear hsc Hq
      go_wp2_with fail
      go_loopg [11] (j + 1) (fun g v w1 => ∃ (j' : Nat), v = .int .i64 j' ∧ j' ≤ j ∧ i' ≤ j' + 1 ∧ j' + 1 ≤ g ∧ R W blk off n dk w1 ∧ Hid (scanDown (fun x => !ltInt x dk[a]!) dk i' j' = scanDown (fun x => !ltInt x dk[a]!) dk i' j))
      case atStart => exact ⟨j, rfl, Nat.le_refl _, hij', Nat.le_refl _, Hr.out, hide rfl⟩
      case round =>
      obtain ⟨j', rfl, hjj, hij2, hg2, hrow, hsc⟩ := hrel
      clear Hr hc hf
      have hc := hrow.cell
      simp only [← HG.out] at hc
      have Hr := hide hrow
      clear hrow
      obtain ⟨q, Hq⟩ : ∃ q : Bool, Hid (q = (decide (i' ≤ j') && !ltInt (G j') (G a))) := ⟨_, hide rfl⟩
      go_upto_region 15 with fail
      go_cut [129] from 115 to 131 (fun v wc => v = .bool q ∧ R W blk off n dk wc)
      case first =>
        by_cases hle : i' ≤ j'
        · go_big_quiet (first | (go_at_call 30; refine Calls.quiet_of_same (less _ _ _)))
          go_wp2_with fail
          go_meet
          case rel => exact ⟨by rw [Hq.out]; simp [hle], Hr.out.drewN _⟩
        · go_big_quiet (first | (go_at_call 30; refine Calls.quiet_of_same (less _ _ _)))
          go_wp2_with fail
          go_meet
          case rel => exact ⟨by rw [Hq.out]; simp [hle], Hr.out.drewN _⟩
      case rest =>
      obtain ⟨rfl, hrow⟩ := hcut
      clear Hr hc
      have Hr := hide hrow
      have hc := hrow.cell
      have hf := hrow.frozen
      simp only [← HG.out] at hc
      clear hrow
      cases q
      rotate_left
      · have hb2 := Hq.out
        simp only [Bool.true_eq, Bool.and_eq_true, decide_eq_true_eq] at hb2
        obtain ⟨hle, hpp⟩ := hb2
        have Hp := hide hpp
        clear hpp
        go_wp2
        go_roundg j'
        case rel => exact ⟨j' - 1, by go_num, by omega, by omega, by omega, Hr.out, hide ((down_go hle (by omega) (by have := Hp.out; rw [HG.out, HG.out] at this; exact this)).trans hsc.out)⟩
        case measure => omega
      have hj2 : Hid (j' = scanDown (fun x => !ltInt x dk[a]!) dk i' j) := (down_end (by have := Hq.out; rw [HG.out, HG.out] at this; exact this.symm)).symm.trans hsc.out
      clear hsc Hq
      by_cases hlt : j' < i'
      · have e : L = (j', dk) := by
          rw [← heq.out, partLoop_eq, ← hi2.out, ← hj2.out, if_pos hlt]
        subst e
        go_wp2_with fail
        by_cases hs : j' = a
        · subst hs
          go_region
          all_goals go_wp2
          go_ret2
          exact ⟨rfl, (Hr.out.swap j' j' (by omega) (by omega) _ _ (by rw [HG.out]) (by rw [HG.out])).drew⟩
        · go_region
          all_goals go_wp2
          go_ret2
          exact ⟨rfl, (Hr.out.swap j' a (by omega) (by omega) _ _ (by rw [HG.out]) (by rw [HG.out])).drew⟩
      · have hlt3 := scans_apart _ dk i j (by omega) hi2.out hj2.out (by omega)
        go_wp2_with fail
        go_region
        all_goals go_wp2
        go_roundg (j' - 1 + 1 - (i' + 1))
        case rel =>
          refine ⟨i' + 1, j' - 1, swp dk i' j', by go_num, by go_num, by omega, by omega, by omega, Nat.le_refl _, (Hr.out.swap i' j' (by omega) (by omega) _ _ (by rw [HG.out]) (by rw [HG.out])).drew, ?_⟩
          show _ = _
          rw [← heq.out, partLoop_eq ltInt a i j dk, ← hi2.out, ← hj2.out, if_neg (by omega)]
        case measure => omega
end Go.Proofs.Ybulkbkdi
