/-
  Seat b3050a: symMergeCmpFunc at records, the recursion.
-/
import Derived.Test.YbulkbkdiSym2
namespace Go.Proofs.Ybulkbkdi
open Go.Shelf Go.RowKit Go.Sort
set_option linter.unusedVariables false

set_option maxHeartbeats 6400000 in
set_option maxRecDepth 1000000 in
theorem sym_walk : ∀ (N : Nat) (w0 w : World) (blk off n cap a m b : Nat) (d : Array Rec), b - a < N → S w0 blk off n d w → Runs a m b d → a < m → m < b → b ≤ n → n < 1152921504606846976 →
    Calls Yba.prog 36 #[.slice (some ⟨blk, off, none⟩) n cap, .int .i64 a, .int .i64 m, .int .i64 b, .func (.func 15) #[] #[]] w fun e w' => e = .returned (.tuple #[]) ∧ ∃ d', Hid (MergeOf a b d d') ∧ S w0 blk off n d' w' := by
  intro N
  induction N with
  | zero => intro _ _ _ _ _ _ _ _ _ _ h; exact absurd h (Nat.not_lt_zero _)
  | succ N ih =>
  intro w0 w blk off n cap a m b d hN hS P ham hmb hb hsz
  by_cases h1 : m = a + 1
  · exact sym1_walk w0 w blk off n cap a m b d hS P h1 hmb hb hsz
  by_cases h2 : b = m + 1
  · exact sym2_walk w0 w blk off n cap a m b d hS P (by omega) h2 hb hsz
  have hs := hide hS
  have HP := hide P
  have mixed := mixedYba
  have e1 : ((m : Int) - (a : Int) == 1) = false := by rw [beq_eq_false_iff_ne]; omega
  have e2 : ((b : Int) - (m : Int) == 1) = false := by rw [beq_eq_false_iff_ne]; omega
  clear hS P h1 h2
  obtain ⟨mid, hmid⟩ : ∃ mid, mid = (a + b) / 2 := ⟨_, rfl⟩
  have em : ((a : Int) + (b : Int)) / 2 = (mid : Int) := by omega
  have hmid2 : a ≤ mid ∧ mid < b ∧ 2 * mid ≤ a + b ∧ a + b ≤ 2 * mid + 1 := by omega
  clear hmid
  have hmid3 : a < mid := by omega
  obtain ⟨st, Hst⟩ : ∃ st, Hid (st = if mid < m then mid + m - b else a) := ⟨_, hide rfl⟩
  obtain ⟨r0, Hr0⟩ : ∃ r0, Hid (r0 = if mid < m then mid else m) := ⟨_, hide rfl⟩
  have h0 : (m ≤ mid ∧ st = a ∧ r0 = m) ∨ (mid < m ∧ st = mid + m - b ∧ r0 = mid) := by
    have e1 := Hst.out
    have e2 := Hr0.out
    by_cases h : mid < m
    · rw [if_pos h] at e1 e2; exact Or.inr ⟨h, e1, e2⟩
    · rw [if_neg h] at e1 e2; exact Or.inl ⟨by omega, e1, e2⟩
  have hst : a ≤ st ∧ st ≤ r0 ∧ r0 ≤ m ∧ r0 ≤ mid := by omega
  obtain ⟨p, hp⟩ : ∃ p, p = mid + m - 1 := ⟨_, rfl⟩
  have ep : (mid : Int) + (m : Int) - 1 = (p : Int) := by omega
  have hpp : ∀ c, st ≤ c → c < r0 → m ≤ p - c ∧ p - c < b ∧ c ≤ p := fun c h1 h2 => by omega
  have Hpp := hide hpp
  have H0 := hide h0
  have Hp := hide hp
  have hpm : p + 1 = mid + m := by omega
  have Hpm := hide hpm
  clear hpp h0 hp hpm
  go_enter Yba.func36, Yba.ntmps36
  go_upto_if 140 with fail
  go_cut [20, 21] from 141 to 146 (fun v20 v21 wc => v20 = .int .i64 st ∧ v21 = .int .i64 r0 ∧ wc = w)
  case first =>
    by_cases h : mid < m
    · go_wp2_with fail
      go_meet
      case rel => exact ⟨by rw [Hst.out, if_pos h]; go_num, by rw [Hr0.out, if_pos h], rfl⟩
    · go_wp2_with fail
      go_meet
      case rel => exact ⟨by rw [Hst.out, if_neg h], by rw [Hr0.out, if_neg h], rfl⟩
  case rest =>
  obtain ⟨rfl, rfl, rfl⟩ := hcut
  clear Hst Hr0
  go_wp2_with fail
  go_loopg [20, 21] n (fun g v20 v21 wr => ∃ (i j : Nat), v20 = .int .i64 i ∧ v21 = .int .i64 j ∧ st ≤ i ∧ i ≤ j ∧ j ≤ r0 ∧ j - i ≤ g ∧ Hid (Find3 st r0 p d i j) ∧ Hid (S w0 blk off n d wr))
  case atStart => exact ⟨st, r0, rfl, rfl, Nat.le_refl _, hst.2.1, Nat.le_refl _, by omega, hide ⟨fun c h1 h2 => by omega, fun c h1 h2 => by omega⟩, hs⟩
  case round =>
  clear hs
  obtain ⟨i, j, rfl, rfl, hsi, hij, hjr, hg, hF, hs⟩ := hrel
  by_cases hlt : i < j
  · obtain ⟨h, hh⟩ : ∃ h, h = (i + j) / 2 := ⟨_, rfl⟩
    have eh : ((i : Int) + (j : Int)) / 2 = (h : Int) := by omega
    have hh1 : i ≤ h := by omega
    have hh2 : h < j := by omega
    clear hh
    have hph := Hpp.out h (by omega) (by omega)
    obtain ⟨u, hu⟩ : ∃ u, u = p - h := ⟨_, rfl⟩
    have eu : (p : Int) - (h : Int) = (u : Int) := by omega
    have hub : m ≤ u ∧ u < b := by omega
    have Hu := hide hu
    have ru : IntKind.i64.wrap ((p : Int) - (h : Int)) = (u : Int) := by rw [IntKind.wrap_i64]; omega
    have ru2 : IntKind.i64.wrap (u : Int) = (u : Int) := by rw [IntKind.wrap_i64]; omega
    clear hph hu
    obtain ⟨xu, xv, cv, gu0, gu1, gu2, gv0, gv1, gv2, hcmp, Hcv⟩ := hs.out.cmp (u) (h) (by omega) (by omega)
    have bu : ((u : Nat) : Int) < (n : Int) := by omega
    have bv : ((h : Nat) : Int) < (n : Int) := by omega
    obtain ⟨q, Hq⟩ : ∃ q : Bool, Hid (q = !decide (cv < 0)) := ⟨_, hide rfl⟩
    go_upto_region 35 with fail
    go_cut [171] from 149 to 174 (fun v wc => v = .bool q ∧ S w0 blk off n d wc)
    case first =>
      go_quiet_grown (first | (go_at_call 15; refine Calls.grown_of (hcmp _ _)))
      go_wp2_with fail
      go_meet
      case rel => exact ⟨by rw [Hq.out], hs.out.grown _ _⟩
    case rest =>
    obtain ⟨rfl, hs2⟩ := hcut
    clear bu bv gu0 gu1 gu2 gv0 gv1 gv2 hcmp hs
    have hs := hide hs2
    clear hs2
    have hkey : decide (cv < 0) = ltT d[u]! d[h]! := Hcv.out.trans (HP.out.key (by omega) (by omega) hub.1 hub.2)
    rw [Hu.out] at hkey
    cases q
    · have hl : ltT d[p - h]! d[h]! = true := by rw [← hkey]; have := Hq.out; simpa using this
      have HL := hide hl
      clear hl hkey
      go_wp2_with fail
      go_roundg (h - i)
      case measure => omega
      case rel => exact ⟨i, h, rfl, rfl, hsi, hh1, by omega, Nat.le_refl _, hide (hF.out.down HP.out hst.1 hst.2.2.1 Hpp.out (by omega) (by omega) HL.out), hs⟩
    · have hl : ltT d[p - h]! d[h]! = false := by rw [← hkey]; have := Hq.out; simpa using this
      have HL := hide hl
      clear hl hkey
      go_wp2_with fail
      go_roundg (j - (h + 1))
      case measure => omega
      case rel => exact ⟨h + 1, j, by go_num, rfl, by omega, by omega, hjr, Nat.le_refl _, hide (hF.out.up HP.out hst.1 hst.2.2.1 Hpp.out (by omega) (by omega) HL.out), hs⟩
  have hij2 : i = j := by omega
  have hF2 : Hid (Find3 st r0 p d i i) := by
    have := hF.out
    rw [← hij2] at this
    exact this
  have hir : i ≤ r0 := by omega
  have hltz : ¬ ((i : Int) < (j : Int)) := by omega
  clear hij2 hF hjr hg hij hlt
  obtain ⟨en, hen⟩ : ∃ en, en = mid + m - i := ⟨_, rfl⟩
  have een : (mid : Int) + (m : Int) - (i : Int) = (en : Int) := by omega
  obtain ⟨⟨b1, b2, b3, b4, b5⟩, c2, c6⟩ := cut_facts HP.out rfl (by have := Hp.out; exact this) H0.out hmid2 ham hmb ⟨hsi, hir⟩ hF2.out.1 hF2.out.2
  rw [← hen] at b3 b4 b5 c2 c6
  have B5 := hide b5
  have C2 := hide c2
  have C6 := hide c6
  have hen2 : Hid (en = mid + m - i) := hen
  clear b5 c2 c6 hen hF2
  have hmide : i ≤ mid ∧ mid ≤ en := by have := B5.out; omega
  obtain ⟨q1, Hq1⟩ : ∃ q1 : Bool, Hid (q1 = (decide (i < m) && decide (m < en))) := ⟨_, hide rfl⟩
  obtain ⟨q2, Hq2⟩ : ∃ q2 : Bool, Hid (q2 = (decide (a < i) && decide (i < mid))) := ⟨_, hide rfl⟩
  obtain ⟨q3, Hq3⟩ : ∃ q3 : Bool, Hid (q3 = (decide (mid < en) && decide (en < b))) := ⟨_, hide rfl⟩
  have hrotc : ∀ w', S w0 blk off n d w' → i < m → m < en → Calls Yba.prog 42 #[.slice (some ⟨blk, off, none⟩) n cap, .int .i64 i, .int .i64 m, .int .i64 en, .func (.func 15) #[] #[]] w' fun e w' => e = .returned (.tuple #[]) ∧ ∃ d', Hid (Rot i m en d d') ∧ Hid (PermIn i en d d') ∧ S w0 blk off n d' w' := fun w' h x y =>
    rotate_walk w0 w' blk off n cap i m en d _ h x y (by omega) hsz
  have HROT := hide hrotc
  clear hrotc
  go_upto_region 39 with fail
  go_cut [185] from 178 to 185 (fun v wc => v = .bool q1 ∧ S w0 blk off n d wc)
  case first =>
    by_cases x1 : i < m
    · by_cases x2 : m < en
      · go_wp2_with fail
        go_meet
        case rel => exact ⟨by rw [Hq1.out]; simp [x1, x2], hs.out⟩
      · go_wp2_with fail
        go_meet
        case rel => exact ⟨by rw [Hq1.out]; simp [x1, x2], hs.out⟩
    · go_wp2_with fail
      go_meet
      case rel => exact ⟨by rw [Hq1.out]; simp [x1], hs.out⟩
  case rest =>
  obtain ⟨rfl, hs1⟩ := hcut
  clear hs
  have hs := hide hs1
  clear hs1
  go_upto_if 185 with fail
  go_cut [] from 186 to 191 (fun wc => ∃ x, Hid (Rot i m en d x) ∧ Hid (PermIn a b d x) ∧ S w0 blk off n x wc)
  case first =>
    cases q1
    · have hq := Hq1.out
      simp only [Bool.false_eq, Bool.and_eq_false_iff, decide_eq_false_iff_not] at hq
      have hq' : i = m ∨ m = en := by omega
      have HQ := hide hq'
      clear hq hq'
      go_wp2_with fail
      go_meet
      case rel => exact ⟨d, hide (Rot.refl d b2 b3 HQ.out), hide (permIn_refl d _ _), hs.out⟩
    · have hq := Hq1.out
      simp only [Bool.true_eq, Bool.and_eq_true, decide_eq_true_eq] at hq
      go_wp2_with (go_at_call 42; refine (HROT.out _ hs.out hq.1 hq.2).mono ?_; rintro e w1 ⟨rfl, x, hx1, hx2, hx3⟩)
      go_meet
      case rel => exact ⟨x, hx1, hide (permIn_mono _ _ i en a b b1 b4 (by rw [hs.out.size]; omega) hx2.out), hx3⟩
  case rest =>
  obtain ⟨x, hx1, hx2, hs1⟩ := hcut
  clear hs HROT
  have hs := hide hs1
  clear hs1
  obtain ⟨R1, R2, R3⟩ := rot_runs HP.out b1 b2 b3 b4 B5.out hx1.out C2.out C6.out
  have HR1 := hide R1
  have HR2 := hide R2
  have HR3 := hide R3
  clear R1 R2 R3 C2 C6 hx1
  have hrec1 : ∀ w', S w0 blk off n x w' → a < i → i < mid → Calls Yba.prog 36 #[.slice (some ⟨blk, off, none⟩) n cap, .int .i64 a, .int .i64 i, .int .i64 mid, .func (.func 15) #[] #[]] w' fun e w' => e = .returned (.tuple #[]) ∧ ∃ d', Hid (MergeOf a mid x d') ∧ S w0 blk off n d' w' := fun w' h u v =>
    ih w0 w' blk off n cap a i mid x (by omega) h HR1.out u v (by omega) hsz
  have HREC1 := hide hrec1
  clear hrec1
  go_upto_region 41 with fail
  go_cut [199] from 192 to 199 (fun v wc => v = .bool q2 ∧ S w0 blk off n x wc)
  case first =>
    by_cases x1 : a < i
    · by_cases x2 : i < mid
      · go_wp2_with fail
        go_meet
        case rel => exact ⟨by rw [Hq2.out]; simp [x1, x2], hs.out⟩
      · go_wp2_with fail
        go_meet
        case rel => exact ⟨by rw [Hq2.out]; simp [x1, x2], hs.out⟩
    · go_wp2_with fail
      go_meet
      case rel => exact ⟨by rw [Hq2.out]; simp [x1], hs.out⟩
  case rest =>
  obtain ⟨rfl, hs1⟩ := hcut
  clear hs
  have hs := hide hs1
  clear hs1
  go_upto_if 199 with fail
  go_cut [] from 200 to 205 (fun wc => ∃ y, Hid (MergeOf a mid x y) ∧ S w0 blk off n y wc)
  case first =>
    cases q2
    · have hq := Hq2.out
      simp only [Bool.false_eq, Bool.and_eq_false_iff, decide_eq_false_iff_not] at hq
      have hq' : a = i ∨ i = mid := by omega
      have HQ := hide hq'
      clear hq hq'
      go_wp2_with fail
      go_meet
      case rel => exact ⟨x, hide (HR1.out.done HQ.out), hs.out⟩
    · have hq := Hq2.out
      simp only [Bool.true_eq, Bool.and_eq_true, decide_eq_true_eq] at hq
      go_wp2_with (go_at_call 36; refine (HREC1.out _ hs.out hq.1 hq.2).mono ?_; rintro e w1 ⟨rfl, y, hy1, hy2⟩)
      go_meet
      case rel => exact ⟨y, hy1, hy2⟩
  case rest =>
  obtain ⟨y, hy1, hs1⟩ := hcut
  clear HREC1
  have hxs : Hid (x.size = n) := hs.out.size
  clear hs
  have hs := hide hs1
  clear hs1
  have hR2 := HR2.out.off hy1.out.1 (Or.inl (Nat.le_refl _))
  have HR2' := hide hR2
  clear hR2
  have FIN : Hid (∀ z, MergeOf mid b y z → MergeOf a b d z) := hide fun z hz => by
    have h := merge_glue (by omega) (by omega) (by rw [hxs.out]; exact hb) HR3.out hy1.out hz
    exact ⟨permIn_trans _ _ _ _ _ hx2.out h.1, h.2⟩
  have hrec2 : ∀ w', S w0 blk off n y w' → mid < en → en < b → Calls Yba.prog 36 #[.slice (some ⟨blk, off, none⟩) n cap, .int .i64 mid, .int .i64 en, .int .i64 b, .func (.func 15) #[] #[]] w' fun e w' => e = .returned (.tuple #[]) ∧ ∃ d', Hid (MergeOf mid b y d') ∧ S w0 blk off n d' w' := fun w' h u v =>
    ih w0 w' blk off n cap mid en b y (by omega) h HR2'.out u v hb hsz
  have HREC2 := hide hrec2
  clear hrec2
  go_upto_region 43 with fail
  go_cut [213] from 206 to 213 (fun v wc => v = .bool q3 ∧ S w0 blk off n y wc)
  case first =>
    by_cases x1 : mid < en
    · by_cases x2 : en < b
      · go_wp2_with fail
        go_meet
        case rel => exact ⟨by rw [Hq3.out]; simp [x1, x2], hs.out⟩
      · go_wp2_with fail
        go_meet
        case rel => exact ⟨by rw [Hq3.out]; simp [x1, x2], hs.out⟩
    · go_wp2_with fail
      go_meet
      case rel => exact ⟨by rw [Hq3.out]; simp [x1], hs.out⟩
  case rest =>
  obtain ⟨rfl, hs1⟩ := hcut
  clear hs
  have hs := hide hs1
  clear hs1
  cases q3
  · have hq := Hq3.out
    simp only [Bool.false_eq, Bool.and_eq_false_iff, decide_eq_false_iff_not] at hq
    have hq' : mid = en ∨ en = b := by omega
    have HQ := hide hq'
    clear hq hq'
    go_wp2_with fail
    go_end0
    exact ⟨rfl, y, hide (FIN.out y (HR2'.out.done HQ.out)), hs.out⟩
  · have hq := Hq3.out
    simp only [Bool.true_eq, Bool.and_eq_true, decide_eq_true_eq] at hq
    go_wp2_with (go_at_call 36; refine (HREC2.out _ hs.out hq.1 hq.2).mono ?_; rintro e w1 ⟨rfl, z, hz1, hz2⟩)
    go_end0
    exact ⟨rfl, z, hide (FIN.out z hz1.out), hz2⟩
end Go.Proofs.Ybulkbkdi
