/-
  Seat b3050a: symMergeCmpFunc at records: it merges.
-/
import Derived.Test.YbulkbkdiStab
namespace Go.Proofs.Ybulkbkdi
open Go.Shelf Go.RowKit Go.Sort
set_option linter.unusedVariables false
set_option linter.unusedSimpArgs false

def cmpI (x y : Int) : Int := if x < y then -1 else if y < x then 1 else 0
theorem cmpI_neg (x y : Int) : cmpI x y < 0 ↔ x < y := by unfold cmpI; split <;> (try split) <;> omega

set_option maxHeartbeats 1000000 in
theorem compare_walk (x y : Int) (w : World) : Calls Yba.prog 16 #[.int .u8 x, .int .u8 y] w fun e w' => e = .returned (.int .i64 (cmpI x y)) ∧ w' = w := by
  unfold cmpI
  go_enter Yba.func16, Yba.ntmps16
  go_wp2_with (go_at_call 22; refine (isNaN _ _).mono ?_; rintro e w' ⟨rfl, rfl⟩)
  all_goals
    go_ret
    refine ⟨?_, rfl⟩
    simp only [if_pos, if_neg, *]
    first | rfl | simp

set_option maxHeartbeats 1000000 in
theorem closure_walk (x y : Rec) (W : World) : Calls Yba.prog 15 #[.agg #[.int .u8 x.1, .int .u8 x.2.1, .int .u8 x.2.2], .agg #[.int .u8 y.1, .int .u8 y.2.1, .int .u8 y.2.2]] W fun e w' => e = .returned (.int .i64 (cmpI x.1 y.1)) ∧ ∃ q os', w' = grow (W.drewN q) os' := by
  have hcon := fun W' => compare_walk x.1 y.1 W'
  generalize cmpI x.1 y.1 = r at hcon ⊢
  go_enter Yba.func15, Yba.ntmps15
  go_wp2_with (go_at_call 16; refine (hcon _).mono ?_; rintro e w' ⟨rfl, rfl⟩)
  go_ret
  exact ⟨rfl, 0, _, by rw [alloc_eq_grow, alloc_eq_grow, grow_grow]; rfl⟩

variable {w0 W : World} {blk off n : Nat} {d : Array Rec}

/-- What the test 'cmp(data[u], data[v]) < 0' wants. -/
theorem S.cmp (h : S w0 blk off n d W) (u v : Nat) (hu : u < n) (hv : v < n) : ∃ (xu xv : Rec) (cv : Int),
    (∀ m os, (grow (W.drewN m) os).cell? ⟨blk, off + u * 3, none⟩ = some (.int .u8 xu.1)) ∧ (∀ m os, (grow (W.drewN m) os).cell? ⟨blk, off + u * 3 + 1, none⟩ = some (.int .u8 xu.2.1)) ∧ (∀ m os, (grow (W.drewN m) os).cell? ⟨blk, off + u * 3 + 2, none⟩ = some (.int .u8 xu.2.2)) ∧
    (∀ m os, (grow (W.drewN m) os).cell? ⟨blk, off + v * 3, none⟩ = some (.int .u8 xv.1)) ∧ (∀ m os, (grow (W.drewN m) os).cell? ⟨blk, off + v * 3 + 1, none⟩ = some (.int .u8 xv.2.1)) ∧ (∀ m os, (grow (W.drewN m) os).cell? ⟨blk, off + v * 3 + 2, none⟩ = some (.int .u8 xv.2.2)) ∧
    (∀ m os, Calls Yba.prog 15 #[.agg #[.int .u8 xu.1, .int .u8 xu.2.1, .int .u8 xu.2.2], .agg #[.int .u8 xv.1, .int .u8 xv.2.1, .int .u8 xv.2.2]] (grow (W.drewN m) os) fun e w' => e = .returned (.int .i64 cv) ∧ ∃ q os', w' = grow ((grow (W.drewN m) os).drewN q) os') ∧
    Hid (decide (cv < 0) = ltK d[u]! d[v]!) := by
  obtain ⟨a0, a1, a2, _, _, _⟩ := h.cells u hu
  obtain ⟨b0, b1, b2, _, _, _⟩ := h.cells v hv
  have hb : blk < W.heap.size := Nat.lt_of_lt_of_le h.old h.sw.le
  refine ⟨d[u]!, d[v]!, cmpI d[u]!.1 d[v]!.1, fun m os => cell_grown hb a0 m os, fun m os => cell_grown hb a1 m os, fun m os => cell_grown hb a2 m os, fun m os => cell_grown hb b0 m os, fun m os => cell_grown hb b1 m os, fun m os => cell_grown hb b2 m os, fun m os => closure_walk _ _ _, ?_⟩
  show decide _ = decide _
  rw [decide_eq_decide]
  exact cmpI_neg _ _

/-- The first case: one record on the left. -/
def Find1 (a m b : Nat) (d : Array Rec) (i j : Nat) : Prop := (∀ c, m ≤ c → c < i → ltT d[c]! d[a]! = true) ∧ ∀ c, j ≤ c → c < b → ltT d[c]! d[a]! = false
def Find2 (a m : Nat) (d : Array Rec) (i j : Nat) : Prop := (∀ c, a ≤ c → c < i → ltT d[m]! d[c]! = false) ∧ ∀ c, j ≤ c → c < m → ltT d[m]! d[c]! = true
def Find3 (st r0 p : Nat) (d : Array Rec) (i j : Nat) : Prop := (∀ c, st ≤ c → c < i → ltT d[p - c]! d[c]! = false) ∧ ∀ c, j ≤ c → c < r0 → ltT d[p - c]! d[c]! = true

theorem Find1.up {a m b i j h : Nat} {d : Array Rec} (P : Runs a m b d) (F : Find1 a m b d i j) (hm : m ≤ h) (hb : h < b) (hl : ltT d[h]! d[a]! = true) : Find1 a m b d (h + 1) j :=
  ⟨fun c h1 h2 => by
    rcases Nat.eq_or_lt_of_le (show c ≤ h by omega) with e | e
    · rw [e]; exact hl
    · cases hx : ltT d[c]! d[a]! with
      | true => rfl
      | false =>
        have := swoT.ntrans _ _ _ (P.right c h h1 e hb) hx
        rw [hl] at this
        exact absurd this (by simp), F.2⟩
theorem Find1.down {a m b i j h : Nat} {d : Array Rec} (P : Runs a m b d) (F : Find1 a m b d i j) (hm : m ≤ h) (hb : h < b) (hl : ltT d[h]! d[a]! = false) : Find1 a m b d i h :=
  ⟨F.1, fun c h1 h2 => by
    rcases Nat.eq_or_lt_of_le h1 with e | e
    · rw [← e]; exact hl
    · exact swoT.ntrans _ _ _ (P.right h c hm e h2) hl⟩
theorem Find2.up {a m b i j h : Nat} {d : Array Rec} (P : Runs a m b d) (F : Find2 a m d i j) (ha : a ≤ h) (hm : h < m) (hl : ltT d[m]! d[h]! = false) : Find2 a m d (h + 1) j :=
  ⟨fun c h1 h2 => by
    rcases Nat.eq_or_lt_of_le (show c ≤ h by omega) with e | e
    · rw [e]; exact hl
    · exact swoT.ntrans _ _ _ hl (P.left c h h1 e hm), F.2⟩
theorem Find2.down {a m b i j h : Nat} {d : Array Rec} (P : Runs a m b d) (F : Find2 a m d i j) (ha : a ≤ h) (hm : h < m) (hl : ltT d[m]! d[h]! = true) : Find2 a m d i h :=
  ⟨F.1, fun c h1 h2 => by
    rcases Nat.eq_or_lt_of_le h1 with e | e
    · rw [← e]; exact hl
    · cases hx : ltT d[m]! d[c]! with
      | true => rfl
      | false => have := swoT.ntrans _ _ _ hx (P.left h c ha e h2); rw [hl] at this; exact absurd this (by simp)⟩
theorem Find3.up {a m b st r0 p i j h : Nat} {d : Array Rec} (P : Runs a m b d) (F : Find3 st r0 p d i j) (hst : a ≤ st) (hr0 : r0 ≤ m) (hp : ∀ c, st ≤ c → c < r0 → m ≤ p - c ∧ p - c < b ∧ c ≤ p) (hs : st ≤ h) (hr : h < r0) (hl : ltT d[p - h]! d[h]! = false) : Find3 st r0 p d (h + 1) j :=
  ⟨fun c h1 h2 => by
    rcases Nat.eq_or_lt_of_le (show c ≤ h by omega) with e | e
    · rw [e]; exact hl
    · have q1 := hp c h1 (by omega)
      have q2 := hp h hs hr
      exact swoT.ntrans _ _ _ (P.right (p - h) (p - c) q2.1 (by omega) q1.2.1) (swoT.ntrans _ _ _ hl (P.left c h (by omega) e (by omega))), F.2⟩
theorem Find3.down {a m b st r0 p i j h : Nat} {d : Array Rec} (P : Runs a m b d) (F : Find3 st r0 p d i j) (hst : a ≤ st) (hr0 : r0 ≤ m) (hp : ∀ c, st ≤ c → c < r0 → m ≤ p - c ∧ p - c < b ∧ c ≤ p) (hs : st ≤ h) (hr : h < r0) (hl : ltT d[p - h]! d[h]! = true) : Find3 st r0 p d i h :=
  ⟨F.1, fun c h1 h2 => by
    rcases Nat.eq_or_lt_of_le h1 with e | e
    · rw [← e]; exact hl
    · cases hx : ltT d[p - c]! d[c]! with
      | true => rfl
      | false =>
        have q1 := hp c (by omega) h2
        have q2 := hp h hs hr
        have := swoT.ntrans _ _ _ (P.right (p - c) (p - h) q1.1 (by omega) q2.2.1) (swoT.ntrans _ _ _ hx (P.left h c (by omega) e (by omega)))
        rw [hl] at this; exact absurd this (by simp)⟩

set_option maxHeartbeats 3200000 in
set_option maxRecDepth 1000000 in
theorem sym1_walk (w0 w : World) (blk off n cap a m b : Nat) (d : Array Rec) (hS : S w0 blk off n d w) (P : Runs a m b d) (ham : m = a + 1) (hmb : m < b) (hb : b ≤ n) (hsz : n < 1152921504606846976) :
    Calls Yba.prog 36 #[.slice (some ⟨blk, off, none⟩) n cap, .int .i64 a, .int .i64 m, .int .i64 b, .func (.func 15) #[] #[]] w fun e w' => e = .returned (.tuple #[]) ∧ ∃ d', Hid (MergeOf a b d d') ∧ S w0 blk off n d' w' := by
  have HS := hide hS
  have HP := hide P
  have mixed := mixedYba
  have Ham := hide ham
  have ham1 : a < m := by omega
  have e1 : (m : Int) - (a : Int) = 1 := by omega
  clear hS P ham
  go_enter Yba.func36, Yba.ntmps36
  go_wp2_with fail
  go_loopg [10, 11] (b - m) (fun g v10 v11 wr => ∃ (i j : Nat), v10 = .int .i64 i ∧ v11 = .int .i64 j ∧ m ≤ i ∧ i ≤ j ∧ j ≤ b ∧ j - i ≤ g ∧ Hid (Find1 a m b d i j) ∧ Hid (S w0 blk off n d wr))
  case atStart => exact ⟨m, b, rfl, rfl, Nat.le_refl _, by omega, Nat.le_refl _, Nat.le_refl _, hide ⟨fun c h1 h2 => by omega, fun c h1 h2 => by omega⟩, HS⟩
  case round =>
  clear HS
  obtain ⟨i, j, rfl, rfl, hmi, hij, hjb, hg, hF, hs⟩ := hrel
  by_cases hlt : i < j
  · obtain ⟨h, hh⟩ : ∃ h, h = (i + j) / 2 := ⟨_, rfl⟩
    have eh : ((i : Int) + (j : Int)) / 2 = (h : Int) := by omega
    have hh1 : i ≤ h := by omega
    have hh2 : h < j := by omega
    clear hh
    obtain ⟨xu, xv, cv, gu0, gu1, gu2, gv0, gv1, gv2, hcmp, Hcv⟩ := hs.out.cmp (h) (a) (by omega) (by omega)
    have bu : ((h : Nat) : Int) < (n : Int) := by omega
    have bv : ((a : Nat) : Int) < (n : Int) := by omega
    obtain ⟨q, Hq⟩ : ∃ q : Bool, Hid (q = decide (cv < 0)) := ⟨_, hide rfl⟩
    go_upto_region 5 with fail
    go_cut [50] from 31 to 53 (fun v wc => v = .bool q ∧ S w0 blk off n d wc)
    case first =>
      go_quiet_grown (first | (go_at_call 15; refine Calls.grown_of (hcmp _ _)))
      go_wp2_with fail
      go_meet
      case rel => exact ⟨by rw [Hq.out], hs.out.grown _ _⟩
    case rest =>
    obtain ⟨rfl, hs2⟩ := hcut
    clear bu bv gu0 gu1 gu2 gv0 gv1 gv2 hcmp hs
    have hs := hide hs2
    clear hs2
    have hkey : decide (cv < 0) = ltT d[h]! d[a]! := Hcv.out.trans (HP.out.key (Nat.le_refl _) ham1 (by omega) (by omega))
    cases q
    · have hl : ltT d[h]! d[a]! = false := by rw [← hkey, ← Hq.out]
      have HL := hide hl
      clear hl hkey
      go_wp2_with fail
      go_roundg (h - i)
      case measure => omega
      case rel => exact ⟨i, h, rfl, rfl, hmi, hh1, by omega, Nat.le_refl _, hide (hF.out.down HP.out (by omega) (by omega) HL.out), hs⟩
    · have hl : ltT d[h]! d[a]! = true := by rw [← hkey, ← Hq.out]
      have HL := hide hl
      clear hl hkey
      go_wp2_with fail
      go_roundg (j - (h + 1))
      case measure => omega
      case rel => exact ⟨h + 1, j, by go_num, rfl, by omega, by omega, hjb, Nat.le_refl _, hide (hF.out.up HP.out (by omega) (by omega) HL.out), hs⟩
  · have hij2 : Hid (i = j) := by show _ = _; omega
    have hib : i ≤ b := by omega
    clear hij hjb hg
    go_wp2_with fail
    go_loopg [13] b (fun g v wr => ∃ (k : Nat) (dk : Array Rec), v = .int .i64 k ∧ a ≤ k ∧ k + 1 ≤ i ∧ i - k ≤ g ∧ Hid (Rot a m (k + 1) d dk) ∧ Hid (PermIn a b d dk) ∧ Hid (S w0 blk off n dk wr))
    case atStart => exact ⟨a, d, rfl, Nat.le_refl _, by omega, by omega, hide (Rot.refl d (by omega) (by have := Ham.out; omega) (by have := Ham.out; omega)), hide (permIn_refl d _ _), hs⟩
    case round =>
    clear hs
    obtain ⟨k, dk, rfl, hak, hki, hg, hrot, hperm, hs⟩ := hrel
    by_cases hlt2 : k + 1 < i
    · have hz : (k : Int) < (i : Int) - 1 := by omega
      obtain ⟨ca0, ca1, ca2, fa0, fa1, fa2⟩ := hs.out.cells k (by omega)
      obtain ⟨cb0, cb1, cb2, fb0, fb1, fb2⟩ := hs.out.cells (k + 1) (by omega)
      obtain ⟨xa, Hxa⟩ : ∃ x, Hid (x = dk[k]!) := ⟨_, hide rfl⟩
      obtain ⟨xb, Hxb⟩ : ∃ x, Hid (x = dk[k + 1]!) := ⟨_, hide rfl⟩
      rw [← Hxa.out] at ca0 ca1 ca2
      rw [← Hxb.out] at cb0 cb1 cb2
      go_wp2_with fail
      go_region
      go_wp2
      go_roundg (i - (k + 1))
      case measure => omega
      case rel => exact ⟨k + 1, swp dk k (k + 1), by go_num, by omega, by omega, Nat.le_refl _, hide (by have := Ham.out; subst this; exact hrot.out.up hak (by rw [← hrot.out.1, hs.out.size]; omega)), hide (permIn_trans _ _ _ _ _ hperm.out (swp_permIn dk a b k (k + 1) (by omega) (by omega) (by omega) (by omega) (by rw [hs.out.size]; omega))), hide (hs.out.swap6 k (k + 1) (by omega) (by omega) xb xa Hxb.out Hxa.out)⟩
    · have hz : ¬ ((k : Int) < (i : Int) - 1) := by omega
      have hki2 : Hid (k + 1 = i) := by show _ = _; omega
      go_wp2_with fail
      (try simp only [Exit.inBlock, Exit.then]); refine bodyPost_ret (results_none rfl _ _ _) rfl ?_
      refine ⟨rfl, dk, hide ⟨hperm.out, rot_sorted HP.out (Nat.le_refl a) (by omega) hmi hib (by rw [← hki2.out]; exact hrot.out) (fun i' j' h1 h2 => by omega) (fun i' j' h1 h2 h3 h4 => ?_) (fun i' j' h1 h2 h3 h4 => ?_) (fun i' j' h1 h2 => by omega)⟩, hs.out⟩
      · obtain rfl : i' = a := by have := Ham.out; omega
        exact swoT.asymm (hF.out.1 j' h3 h4)
      · obtain rfl : i' = a := by have := Ham.out; omega
        exact hF.out.2 j' (by have := hij2.out; omega) h4
end Go.Proofs.Ybulkbkdi
