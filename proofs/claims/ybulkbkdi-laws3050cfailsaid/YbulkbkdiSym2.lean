/-
  Seat b3050a: symMergeCmpFunc at records, its second case and the recursion.
-/
import Derived.Test.YbulkbkdiSym
namespace Go.Proofs.Ybulkbkdi
open Go.Shelf Go.RowKit Go.Sort
set_option linter.unusedVariables false

set_option maxHeartbeats 3200000 in
set_option maxRecDepth 1000000 in
theorem sym2_walk (w0 w : World) (blk off n cap a m b : Nat) (d : Array Rec) (hS : S w0 blk off n d w) (P : Runs a m b d) (ham : a + 1 < m) (hmb : b = m + 1) (hb : b ≤ n) (hsz : n < 1152921504606846976) :
    Calls Yba.prog 36 #[.slice (some ⟨blk, off, none⟩) n cap, .int .i64 a, .int .i64 m, .int .i64 b, .func (.func 15) #[] #[]] w fun e w' => e = .returned (.tuple #[]) ∧ ∃ d', Hid (MergeOf a b d d') ∧ S w0 blk off n d' w' := by
  have HS := hide hS
  have HP := hide P
  have mixed := mixedYba
  have Hmb := hide hmb
  have hmb1 : m < b := by omega
  have e1 : ((m : Int) - (a : Int) == 1) = false := by rw [beq_eq_false_iff_ne]; omega
  have e2 : (b : Int) - (m : Int) = 1 := by omega
  clear hS P hmb
  go_enter Yba.func36, Yba.ntmps36
  go_wp2_with fail
  go_loopg [14, 15] (m - a) (fun g v14 v15 wr => ∃ (i j : Nat), v14 = .int .i64 i ∧ v15 = .int .i64 j ∧ a ≤ i ∧ i ≤ j ∧ j ≤ m ∧ j - i ≤ g ∧ Hid (Find2 a m d i j) ∧ Hid (S w0 blk off n d wr))
  case atStart => exact ⟨a, m, rfl, rfl, Nat.le_refl _, by omega, Nat.le_refl _, Nat.le_refl _, hide ⟨fun c h1 h2 => by omega, fun c h1 h2 => by omega⟩, HS⟩
  case round =>
  clear HS
  obtain ⟨i, j, rfl, rfl, hai, hij, hjm, hg, hF, hs⟩ := hrel
  by_cases hlt : i < j
  · obtain ⟨h, hh⟩ : ∃ h, h = (i + j) / 2 := ⟨_, rfl⟩
    have eh : ((i : Int) + (j : Int)) / 2 = (h : Int) := by omega
    have hh1 : i ≤ h := by omega
    have hh2 : h < j := by omega
    clear hh
    obtain ⟨xu, xv, cv, gu0, gu1, gu2, gv0, gv1, gv2, hcmp, Hcv⟩ := hs.out.cmp (m) (h) (by omega) (by omega)
    have bu : ((m : Nat) : Int) < (n : Int) := by omega
    have bv : ((h : Nat) : Int) < (n : Int) := by omega
    obtain ⟨q, Hq⟩ : ∃ q : Bool, Hid (q = !decide (cv < 0)) := ⟨_, hide rfl⟩
    go_upto_region 17 with fail
    go_cut [103] from 83 to 106 (fun v wc => v = .bool q ∧ S w0 blk off n d wc)
    case first =>
      go_quiet_grown (first | (go_at_call 15; refine Calls.grown_of (hcmp _ _)))
      go_wp2_with fail
      go_meet
      case rel => exact ⟨by rw [Hq.out], hs.out.grown _ _⟩
    case rest =>
    obtain ⟨rfl, hs2⟩ := hcut
    clear bu bv gu0 gu1 gu2 gv0 gv1 gv2 hcmp hs
    have hs := hide hs2
    clear hs2
    have hkey : decide (cv < 0) = ltT d[m]! d[h]! := Hcv.out.trans (HP.out.key (by omega) (by omega) (Nat.le_refl _) hmb1)
    cases q
    · have hl : ltT d[m]! d[h]! = true := by rw [← hkey]; have := Hq.out; simpa using this
      have HL := hide hl
      clear hl hkey
      go_wp2_with fail
      go_roundg (h - i)
      case measure => omega
      case rel => exact ⟨i, h, rfl, rfl, hai, hh1, by omega, Nat.le_refl _, hide (hF.out.down HP.out (by omega) (by omega) HL.out), hs⟩
    · have hl : ltT d[m]! d[h]! = false := by rw [← hkey]; have := Hq.out; simpa using this
      have HL := hide hl
      clear hl hkey
      go_wp2_with fail
      go_roundg (j - (h + 1))
      case measure => omega
      case rel => exact ⟨h + 1, j, by go_num, rfl, by omega, by omega, hjm, Nat.le_refl _, hide (hF.out.up HP.out (by omega) (by omega) HL.out), hs⟩
  · have hij2 : Hid (i = j) := by show _ = _; omega
    have him : i ≤ m := by omega
    clear hij hjm hg
    go_wp2_with fail
    go_loopg [17] b (fun g v wr => ∃ (k : Nat) (dk : Array Rec), v = .int .i64 k ∧ i ≤ k ∧ k ≤ m ∧ k + 1 ≤ g ∧ Hid (Rot k m (m + 1) d dk) ∧ Hid (PermIn a b d dk) ∧ Hid (S w0 blk off n dk wr))
    case atStart => exact ⟨m, d, rfl, him, Nat.le_refl _, by omega, hide (Rot.refl d (Nat.le_refl _) (by omega) (Or.inl rfl)), hide (permIn_refl d _ _), hs⟩
    case round =>
    clear hs
    obtain ⟨k, dk, rfl, hik, hkm, hg, hrot, hperm, hs⟩ := hrel
    by_cases hlt2 : i < k
    · obtain ⟨ca0, ca1, ca2, fa0, fa1, fa2⟩ := hs.out.cells k (by omega)
      obtain ⟨cb0, cb1, cb2, fb0, fb1, fb2⟩ := hs.out.cells (k - 1) (by omega)
      obtain ⟨xa, Hxa⟩ : ∃ x, Hid (x = dk[k]!) := ⟨_, hide rfl⟩
      obtain ⟨xb, Hxb⟩ : ∃ x, Hid (x = dk[k - 1]!) := ⟨_, hide rfl⟩
      rw [← Hxa.out] at ca0 ca1 ca2
      rw [← Hxb.out] at cb0 cb1 cb2
      go_wp2_with fail
      go_region
      go_wp2
      go_roundg k
      case measure => omega
      case rel => exact ⟨k - 1, swp dk k (k - 1), by go_num, by omega, by omega, by omega, hide (hrot.out.down hlt2 hkm (by rw [← hrot.out.1, hs.out.size]; omega)), hide (permIn_trans _ _ _ _ _ hperm.out (swp_permIn dk a b k (k - 1) (by omega) (by omega) (by omega) (by omega) (by rw [hs.out.size]; omega))), hide (hs.out.swap6 k (k - 1) (by omega) (by omega) xb xa Hxb.out Hxa.out)⟩
    · have hki2 : Hid (k = i) := by show _ = _; omega
      go_wp2_with fail
      (try simp only [Exit.inBlock, Exit.then]); refine bodyPost_ret (results_none rfl _ _ _) rfl ?_
      refine ⟨rfl, dk, hide ⟨hperm.out, rot_sorted HP.out hai him (by omega) (Nat.le_refl b) (by rw [Hmb.out, ← hki2.out]; exact hrot.out) (fun i' j' h1 h2 h3 h4 => ?_) (fun i' j' h1 h2 h3 h4 => ?_) (fun i' j' h1 h2 h3 h4 => by omega) (fun i' j' h1 h2 h3 h4 => by omega)⟩, hs.out⟩
      · obtain rfl : j' = m := by have := Hmb.out; omega
        exact hF.out.1 i' h1 h2
      · obtain rfl : j' = m := by have := Hmb.out; omega
        exact swoT.asymm (hF.out.2 i' (by have := hij2.out; omega) h2)
end Go.Proofs.Ybulkbkdi
