/-
  Seat b3050a: pdqsortOrdered and slices.Sort at uint8: they sort.
-/
import Derived.Test.YbulkbkdiHeap
import Derived.Test.YbulkbkdiPart2
import Derived.Test.YbulkbkdiPartial
import Derived.Test.YbulkbkdiBreak
namespace Go.Proofs.Ybulkbkdi
open Go.RowKit Go.Sort

/-- d' is d, sorted between a and b. -/
def SortOf (a b : Nat) (d d' : Array Int) : Prop := PermIn a b d d' ∧ SortedIn ltInt a b d'

set_option maxHeartbeats 6400000 in
set_option maxRecDepth 1000000 in
theorem pdq_walk : ∀ (N : Nat) (W w : World) (blk off n cap a b limit : Nat) (d : Array Int), b - a < N → R W blk off n d w → a ≤ b → b ≤ n → n < 1152921504606846976 → limit < 4611686018427387904 → Below ltInt a b d →
    Calls Yba.prog 19 #[.slice (some ⟨blk, off, none⟩) n cap, .int .i64 a, .int .i64 b, .int .i64 limit] w fun e w' => e = .returned (.tuple #[]) ∧ ∃ d', Hid (SortOf a b d d') ∧ R W blk off n d' w' := by
  intro N
  induction N with
  | zero => intro _ _ _ _ _ _ _ _ _ _ h; exact absurd h (Nat.not_lt_zero _)
  | succ N ih =>
    intro W w blk off n cap a b limit d hN hR hab hb hsz hlimit hBel0
    have HB0 := hide hBel0
    have HR0 := hide hR
    clear hBel0 hR
    go_enter Yba.func19, Yba.ntmps19
    go_wp2
    go_loopg [1, 2, 3, 8, 9] (b - a) (fun g s1 s2 s3 s8 s9 wr => ∃ (a' b' lim : Nat) (wb wp : Bool) (dk : Array Int), s1 = .int .i64 a' ∧ s2 = .int .i64 b' ∧ s3 = .int .i64 lim ∧ s8 = .bool wb ∧ s9 = .bool wp ∧
      a' ≤ b' ∧ b' ≤ n ∧ b' - a' ≤ g ∧ g ≤ b - a ∧ lim ≤ limit ∧ Hid (Below ltInt a' b' dk) ∧ R W blk off n dk wr ∧ Hid (∀ X, SortOf a' b' dk X → SortOf a b d X))
    case atStart => exact ⟨a, b, limit, true, true, d, rfl, rfl, rfl, rfl, rfl, hab, hb, Nat.le_refl _, Nat.le_refl _, Nat.le_refl _, HB0, HR0.out, hide fun X h => h⟩
    case round =>
      clear HB0 HR0
      obtain ⟨a', b', lim, wb, wp, dk, rfl, rfl, rfl, rfl, rfl, hab', hb', hk, hkN, hlim, hBel, hrow, hgo⟩ := hrel
      have Hr := hide hrow
      have hds : Hid (dk.size = n) := hrow.size
      clear hrow
      by_cases h12 : b' - a' ≤ 12
      · have h12z : (b' : Int) - (a' : Int) ≤ 12 := by omega
        go_wp2_with (go_at_call 24; refine (insertion_walk W _ blk off n cap a' b' dk Hr.out hab' hb' (by omega)).mono ?_; rintro e w1 ⟨rfl, hw1⟩)
        (try simp only [Exit.inBlock, Exit.then]); refine bodyPost_ret (results_none rfl _ _ _) rfl ?_
        exact ⟨rfl, _, hide (hgo.out _ (insertionSort_holds swo_ltInt dk a' b' hab' (by rw [hds.out]; exact hb'))), hw1⟩
      · have h12z : ¬ ((b' : Int) - (a' : Int) ≤ 12) := by omega
        by_cases hl0 : lim = 0
        · subst hl0
          go_wp2_with (go_at_call 25; refine (heap_walk W _ blk off n cap a' b' dk Hr.out (by omega) hb' (by omega)).mono ?_; rintro e w1 ⟨rfl, hw1⟩)
          (try simp only [Exit.inBlock, Exit.then]); refine bodyPost_ret (results_none rfl _ _ _) rfl ?_
          exact ⟨rfl, _, hide (hgo.out _ (heapSort_holds swo_ltInt dk a' b' hab' (by rw [hds.out]; exact hb'))), hw1⟩
        · have hl0z : ¬ ((lim : Int) = 0) := by omega
          go_upto_if 35 with fail
          go_cut [3] from 19 (fun s3 wc => ∃ (lim' : Nat) (d1 : Array Int), s3 = .int .i64 lim' ∧ lim' ≤ lim ∧ Hid (PermIn a' b' dk d1) ∧ R W blk off n d1 wc)
          case first =>
            cases wb
            · go_wp2_with (go_at_call 26; refine (break_walk W _ blk off n cap a' b' dk Hr.out (by omega) hb' (by omega)).mono ?_; rintro e w1 ⟨rfl, d1, hp1, hw1⟩)
              go_meet
              case rel => exact ⟨lim - 1, d1, by go_num, by omega, hp1, hw1⟩
            · go_wp2_with fail
              go_meet
              case rel => exact ⟨lim, dk, rfl, Nat.le_refl _, hide (permIn_refl dk a' b'), Hr.out⟩
          case rest =>
          obtain ⟨lim', d1, rfl, hlim', hp1, hrow⟩ := hcut
          clear Hr
          have Hr := hide hrow
          clear hrow
          go_upto_if 50 with (go_at_call 27; refine (pivot_walk W _ blk off n cap a' b' d1 Hr.out (by omega) hb' (by omega)).mono ?_; rintro e w2 ⟨p, h, rfl, hp, hw2⟩)
          obtain ⟨hpa, hpb⟩ := hp
          clear Hr
          have Hr := hide hw2
          clear hw2
          go_cut [11, 12] from 19 (fun s11 s12 wc => ∃ (p' : Nat) (h' : Int) (d2 : Array Int), s11 = .int .i64 p' ∧ s12 = .int .i64 h' ∧ a' ≤ p' ∧ p' < b' ∧ Hid (PermIn a' b' dk d2) ∧ R W blk off n d2 wc)
          case first =>
            by_cases hh : h = 2
            · subst hh
              go_wp2_with (go_at_call 28; refine (reverse_walk W _ blk off n cap a' b' d1 Hr.out (by omega) hb' (by omega)).mono ?_; rintro e w3 ⟨rfl, hw3⟩)
              go_meet
              case rel => exact ⟨(b' - 1) - (p - a'), 1, _, by go_num, rfl, by omega, by omega, hide (permIn_trans _ _ _ _ _ hp1.out (reverseRange_holds d1 a' b' hab' (by rw [hp1.out.1, hds.out]; exact hb'))), hw3⟩
            · go_wp2_with fail
              go_meet
              case rel => exact ⟨p, h, d1, rfl, rfl, hpa, hpb, hp1, Hr.out⟩
          case rest =>
          clear hp1 Hr hpa hpb
          obtain ⟨p', h', d2, rfl, rfl, hpa, hpb, hp2, hrow⟩ := hcut
          have Hr := hide hrow
          clear hrow
          go_upto_region 15 with fail
          go_cut [68] from 19 (fun s68 wx => ∃ q : Bool, s68 = .bool q ∧ R W blk off n d2 wx)
          case first =>
            by_cases hh1 : h' = 1
            · subst hh1
              cases wb <;> cases wp <;>
                (go_wp2_with fail
                 go_meet
                 exact ⟨_, rfl, Hr.out⟩)
            · cases wb <;> cases wp <;>
                (go_wp2_with fail
                 go_meet
                 exact ⟨_, rfl, Hr.out⟩)
          case rest =>
          obtain ⟨q, rfl, hrow⟩ := hcut
          clear Hr
          have Hr := hide hrow
          clear hrow
          go_upto_if 68 with fail
          go_cut [] from 19 (fun wx => ∃ d3, Hid (PermIn a' b' dk d3) ∧ R W blk off n d3 wx)
          case first =>
            cases q
            · go_wp2_with fail
              go_meet
              case rel => exact ⟨d2, hp2, Hr.out⟩
            · have hds2 : d2.size = n := by rw [hp2.out.1, hds.out]
              have hpi := partialInsertionSort_holds swo_ltInt d2 a' b' (by omega) (by rw [hds2]; exact hb') (hBel.out.perm (by rw [hds.out]; exact hb') hp2.out)
              clear hds2
              obtain ⟨Q, hQ⟩ : ∃ Q, Q = partialInsertionSort ltInt d2 a' b' := ⟨_, rfl⟩
              have hcp : ∀ w', R W blk off n d2 w' → Calls Yba.prog 29 #[.slice (some ⟨blk, off, none⟩) n cap, .int .i64 a', .int .i64 b'] w' fun e w' => e = .returned (.bool Q.2) ∧ R W blk off n Q.1 w' := fun w' hr => by
                rw [hQ]; exact partial_walk W _ blk off n cap a' b' d2 hr (by omega) hb' (by omega)
              rw [← hQ] at hpi
              clear hQ
              obtain ⟨d3, ok⟩ := Q
              have Hpi := hide hpi
              clear hpi
              cases ok
              · go_wp2_with (go_at_call 29; refine (hcp _ Hr.out).mono ?_; rintro e w4 ⟨rfl, hw4⟩)
                go_meet
                case rel => exact ⟨d3, hide (permIn_trans _ _ _ _ _ hp2.out Hpi.out.1), hw4⟩
              · go_wp2_with (go_at_call 29; refine (hcp _ Hr.out).mono ?_; rintro e w4 ⟨rfl, hw4⟩)
                (try simp only [Exit.inBlock, Exit.then]); refine bodyPost_ret (results_none rfl _ _ _) rfl ?_
                exact ⟨rfl, d3, hide (hgo.out _ ⟨permIn_trans _ _ _ _ _ hp2.out Hpi.out.1, by first | exact Hpi.out.2 rfl | exact Hpi.out.2 trivial⟩), hw4⟩
          case rest =>
          clear Hr hp2
          obtain ⟨d3, hp3, hrow⟩ := hcut
          have hs3 : Hid (d3.size = n) := by show _ = _; rw [hp3.out.1, hds.out]
          have hB3 : Hid (Below ltInt a' b' d3) := hBel.out.perm (by rw [hds.out]; exact hb') hp3.out
          have hgo3 : Hid (∀ X, SortOf a' b' d3 X → SortOf a b d X) := hide fun X h => hgo.out X ⟨permIn_trans _ _ _ _ _ hp3.out h.1, h.2⟩
          clear hp3 hgo hBel hds
          have hc := hrow.cell
          have Hr := hide hrow
          clear hrow
          obtain ⟨G, hG⟩ : ∃ G : Nat → Int, ∀ t, G t = d3[t]! := ⟨fun t => d3[t]!, fun _ => rfl⟩
          simp only [← hG] at hc
          have HG := hide hG
          clear hG
          obtain ⟨q2, Hq2⟩ : ∃ q2 : Bool, Hid (q2 = (decide (0 < a') && !ltInt (G (a' - 1)) (G p'))) := ⟨_, hide rfl⟩
          go_upto_region 17 with fail
          go_cut [87] from 19 (fun s87 wx => s87 = .bool q2 ∧ R W blk off n d3 wx)
          case first =>
            by_cases ha0 : 0 < a'
            · go_big_quiet (first | (go_at_call 30; refine Calls.quiet_of_same (less _ _ _)))
              go_wp2_with fail
              go_meet
              case rel => exact ⟨by rw [Hq2.out]; simp [ha0], Hr.out.drewN _⟩
            · have ha0z : decide ((a' : Int) > 0) = false := decide_eq_false (by omega)
              go_big_quiet (first | (go_at_call 30; refine Calls.quiet_of_same (less _ _ _)))
              go_wp2_with fail
              go_meet
              case rel => exact ⟨by rw [Hq2.out]; simp [ha0], Hr.out.drewN _⟩
          case rest =>
          obtain ⟨rfl, hrow⟩ := hcut
          clear Hr hc
          have Hr := hide hrow
          clear hrow
          cases q2
          · -- partition
            obtain ⟨Q, hQ⟩ : ∃ Q, Q = partition ltInt d3 a' b' p' := ⟨_, rfl⟩
            have hcp : ∀ w', R W blk off n d3 w' → Calls Yba.prog 32 #[.slice (some ⟨blk, off, none⟩) n cap, .int .i64 a', .int .i64 b', .int .i64 p'] w' fun e w' => e = .returned (.tuple #[.int .i64 Q.1, .bool Q.2.1]) ∧ R W blk off n Q.2.2 w' := fun w' hr => by
              rw [hQ]; exact part_walk W _ blk off n cap a' b' p' d3 hr hpa hpb hb' (by omega)
            obtain ⟨mid, ap, d4⟩ := Q
            obtain ⟨hm1, hm2, hs4, hBl, hBr, hgl, hgr⟩ := round_part swo_ltInt (partition_holds ltInt) hpa hpb (by rw [hs3.out]; exact hb') hB3.out hQ.symm
            have Hs4 := hide hs4
            have HBl := hide hBl
            have HBr := hide hBr
            have Hgl := hide hgl
            have Hgr := hide hgr
            clear hQ hs4 hBl hBr hgl hgr
            by_cases hside : mid - a' < b' - mid
            · have hsz1 : (mid : Int) - (a' : Int) < (b' : Int) - (mid : Int) := by omega
              obtain ⟨wb2, Hwb2⟩ : ∃ wb2 : Bool, Hid (wb2 = decide (((b' : Int) - (a' : Int)) / 8 ≤ (mid : Int) - (a' : Int))) := ⟨_, hide rfl⟩
              have hrec : ∀ w', R W blk off n d4 w' → Calls Yba.prog 19 #[.slice (some ⟨blk, off, none⟩) n cap, .int .i64 a', .int .i64 mid, .int .i64 lim'] w' fun e w' => e = .returned (.tuple #[]) ∧ ∃ d', Hid (SortOf a' mid d4 d') ∧ R W blk off n d' w' := fun w' hr =>
                ih W w' blk off n cap a' mid lim' d4 (by omega) hr (by omega) (by omega) hsz (by omega) HBl.out
              go_wp2_with (first
                | (go_at_call 32; refine (hcp _ Hr.out).mono ?_; rintro e w5 ⟨rfl, hw5⟩)
                | (go_at_call 19; refine (hrec _ (by assumption)).mono ?_; rintro e w6 ⟨rfl, d5, hd5, hw6⟩))
              go_roundg (b' - (mid + 1))
              case measure => omega
              case rel =>
                have hg2 := Hgl.out d5 hd5.out.1 hd5.out.2
                exact ⟨mid + 1, b', lim', _, ap, d5, by go_num, rfl, rfl, rfl, rfl, by omega, hb', Nat.le_refl _, by omega, by omega, hide hg2.1, hw6, hide fun X hX => hgo3.out X (hg2.2 X hX.1 hX.2)⟩
            · have hsz1 : ¬ ((mid : Int) - (a' : Int) < (b' : Int) - (mid : Int)) := by omega
              have hrec : ∀ w', R W blk off n d4 w' → Calls Yba.prog 19 #[.slice (some ⟨blk, off, none⟩) n cap, .int .i64 ((mid : Int) + 1), .int .i64 b', .int .i64 lim'] w' fun e w' => e = .returned (.tuple #[]) ∧ ∃ d', Hid (SortOf (mid + 1) b' d4 d') ∧ R W blk off n d' w' := fun w' hr => by
                have := ih W w' blk off n cap (mid + 1) b' lim' d4 (by omega) hr (by omega) (by omega) hsz (by omega) HBr.out
                exact this
              go_wp2_with (first
                | (go_at_call 32; refine (hcp _ Hr.out).mono ?_; rintro e w5 ⟨rfl, hw5⟩)
                | (go_at_call 19; refine (hrec _ (by assumption)).mono ?_; rintro e w6 ⟨rfl, d5, hd5, hw6⟩))
              go_roundg (mid - a')
              case measure => omega
              case rel =>
                have hg2 := Hgr.out d5 hd5.out.1 hd5.out.2
                exact ⟨a', mid, lim', _, ap, d5, rfl, rfl, rfl, rfl, rfl, by omega, by omega, Nat.le_refl _, by omega, by omega, hide hg2.1, hw6, hide fun X hX => hgo3.out X (hg2.2 X hX.1 hX.2)⟩
          · -- partitionEqual
            have hq := Hq2.out
            simp only [Bool.true_eq, Bool.and_eq_true, decide_eq_true_eq, Bool.not_eq_true'] at hq
            obtain ⟨ha0, hnl⟩ := hq
            rw [HG.out, HG.out] at hnl
            obtain ⟨Q, hQ⟩ : ∃ Q, Q = partitionEqual ltInt d3 a' b' p' := ⟨_, rfl⟩
            have hcp : ∀ w', R W blk off n d3 w' → Calls Yba.prog 31 #[.slice (some ⟨blk, off, none⟩) n cap, .int .i64 a', .int .i64 b', .int .i64 p'] w' fun e w' => e = .returned (.int .i64 Q.1) ∧ R W blk off n Q.2 w' := fun w' hr => by
              rw [hQ]; exact partEq_walk W _ blk off n cap a' b' p' d3 hr hpa hpb hb' (by omega)
            obtain ⟨mid, d4⟩ := Q
            obtain ⟨hm1, hm2, hs4, hBr, hgr⟩ := round_eq swo_ltInt (partitionEqual_holds ltInt) ha0 hpa hpb (by rw [hs3.out]; exact hb') hB3.out hnl hQ.symm
            have HBr := hide hBr
            have Hgr := hide hgr
            clear hQ hs4 hBr hgr hnl Hq2
            go_wp2_with (go_at_call 31; refine (hcp _ Hr.out).mono ?_; rintro e w5 ⟨rfl, hw5⟩)
            go_roundg (b' - mid)
            case measure => omega
            case rel => exact ⟨mid, b', lim', wb, wp, d4, rfl, rfl, rfl, rfl, rfl, hm2, hb', Nat.le_refl _, by omega, by omega, HBr, hw5, hide fun X hX => hgo3.out X (Hgr.out X hX.1 hX.2)⟩

set_option maxHeartbeats 1600000 in
set_option maxRecDepth 1000000 in
theorem sort_walk (W w : World) (blk off n cap : Nat) (d : Array Int) (hR : R W blk off n d w) (hsz : n < 1152921504606846976) :
    Calls Yba.prog 13 #[.slice (some ⟨blk, off, none⟩) n cap] w fun e w' => e = .returned (.tuple #[]) ∧ ∃ d', Hid (SortOf 0 n d d') ∧ R W blk off n d' w' := by
  have HR := hide hR
  clear hR
  have hLen : ∀ w, Calls Yba.prog 20 #[.int .u64 (n : Int)] w fun e w' => e = .returned (.int .i64 (Lib.bitLen n : Nat)) ∧ w' = w := fun w => by
    have h := Yba.bits_Len (n : Int) w (by omega) (by omega)
    rwa [Int.toNat_natCast] at h
  have hk := bitLen_small n (by omega)
  have hp : ∀ w', R W blk off n d w' → Calls Yba.prog 19 #[.slice (some ⟨blk, off, none⟩) n cap, .int .i64 (0 : Nat), .int .i64 n, .int .i64 (Lib.bitLen n : Nat)] w' fun e w' => e = .returned (.tuple #[]) ∧ ∃ d', Hid (SortOf 0 n d d') ∧ R W blk off n d' w' := fun w' hr =>
    pdq_walk (n + 1) W w' blk off n cap 0 n (Lib.bitLen n) d (by omega) hr (Nat.zero_le _) (Nat.le_refl _) hsz (by omega) (Or.inl rfl)
  go_enter Yba.func13, Yba.ntmps13
  go_wp2_with (first
    | (go_at_call 20; refine (hLen _).mono ?_; rintro e w' ⟨rfl, rfl⟩)
    | (go_at_call 19; refine (hp _ HR.out).mono ?_; rintro e w' ⟨rfl, d', hd, hw⟩))
  go_end0
  exact ⟨rfl, d', hd, hw⟩
end Go.Proofs.Ybulkbkdi
