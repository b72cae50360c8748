/-
  Seat b3050a: stableCmpFunc and slices.SortStableFunc at records: the records sorted by (key, source, place), where they came in the order of sources. symMergeCmpFunc's contract is a premise here ('SymOK'); YbulkbkdiSym3 pays it.
-/
import Derived.Test.YbulkbkdiIns
import Derived.Test.YbulkbkdiBlocks
namespace Go.Proofs.Ybulkbkdi
open Go.Shelf Go.RowKit Go.Sort
set_option linter.unusedVariables false

def SymOK : Prop := ∀ (w0 w : World) (blk off n cap a m b : Nat) (d : Array Rec), S w0 blk off n d w → Runs a m b d → a < m → m < b → b ≤ n → n < 1152921504606846976 →
    Calls Yba.prog 36 #[.slice (some ⟨blk, off, none⟩) n cap, .int .i64 a, .int .i64 m, .int .i64 b, .func (.func 15) #[] #[]] w fun e w' => e = .returned (.tuple #[]) ∧ ∃ d', Hid (MergeOf a b d d') ∧ S w0 blk off n d' w'

set_option maxHeartbeats 3200000 in
set_option maxRecDepth 1000000 in
theorem stable_walk (SY : SymOK) (w0 w : World) (blk off n cap : Nat) (d : Array Rec) (hS : S w0 blk off n d w) (hT : Tagged 0 n d) (hsz : n < 576460752303423488) :
    Calls Yba.prog 21 #[.slice (some ⟨blk, off, none⟩) n cap, .int .i64 n, .func (.func 15) #[] #[]] w fun e w' => e = .returned (.tuple #[]) ∧ ∃ d', Hid (MergeOf 0 n d d') ∧ S w0 blk off n d' w' := by
  have HS := hide hS
  have HSY := hide SY
  have HF := hide (First.zero hS.size hT)
  clear hS hT SY
  go_enter Yba.func21, Yba.ntmps21
  go_wp2
  go_loopg [7, 8] n (fun g v7 v8 wr => ∃ (a : Nat) (dk : Array Rec), v7 = .int .i64 a ∧ v8 = .int .i64 ((a + 20 : Nat) : Int) ∧ a ≤ n ∧ n - a ≤ g ∧ Hid (∃ p, a = 20 * p) ∧ Hid (First n d a dk) ∧ Hid (S w0 blk off n dk wr))
  case atStart => exact ⟨0, d, rfl, rfl, Nat.zero_le _, Nat.le_refl _, hide ⟨0, rfl⟩, HF, HS⟩
  case round =>
  clear HS HF
  obtain ⟨a, dk, rfl, rfl, han, hg, hp, hF, hs⟩ := hrel
  by_cases hb : a + 20 ≤ n
  · have hz : (a : Int) + 20 ≤ (n : Int) := by omega
    have hc : Calls Yba.prog 35 #[.slice (some ⟨blk, off, none⟩) n cap, .int .i64 a, .int .i64 ((a : Int) + 20), .func (.func 15) #[] #[]] wr fun e w' => e = .returned (.tuple #[]) ∧ ∃ d', Hid (MergeOf a (a + 20) dk d') ∧ S w0 blk off n d' w' := by
      have := ins_walk w0 wr blk off n cap a (a + 20) dk hs.out (by omega) hb (by omega) (fun i j h1 h2 h3 => hF.out.rest i j h1 h2 (by omega))
      exact this
    go_wp2_with (go_at_call 35; refine hc.mono ?_; rintro e w1 ⟨rfl, d1, hm, hs1⟩)
    go_roundg (n - (a + 20))
    case measure => omega
    case rel => exact ⟨a + 20, d1, by go_num, by go_num, by omega, Nat.le_refl _, hide (by obtain ⟨p, hp⟩ := hp.out; exact ⟨p + 1, by omega⟩), hide (hF.out.next hp.out hb hm.out), hide hs1⟩
  · have hz : ¬ ((a : Int) + 20 ≤ (n : Int)) := by omega
    have hc : Calls Yba.prog 35 #[.slice (some ⟨blk, off, none⟩) n cap, .int .i64 a, .int .i64 n, .func (.func 15) #[] #[]] wr fun e w' => e = .returned (.tuple #[]) ∧ ∃ d', Hid (MergeOf a n dk d') ∧ S w0 blk off n d' w' :=
      ins_walk w0 wr blk off n cap a n dk hs.out han (Nat.le_refl _) (by omega) (fun i j h1 h2 h3 => hF.out.rest i j h1 h2 h3)
    go_wp2_with (go_at_call 35; refine hc.mono ?_; rintro e w1 ⟨rfl, d1, hm, hs1⟩)
    have HB := hide (hF.out.blocks hp.out han (by omega) hm.out)
    have HS1 := hide hs1
    clear hF hp hm hs hs1 hc hz hg
    go_loopg [6] n (fun g v6 wr => ∃ (B : Nat) (dk : Array Rec), v6 = .int .i64 B ∧ 20 ≤ B ∧ B ≤ 2 * n + 20 ∧ n - B ≤ g ∧ Hid (Blocks n d B dk) ∧ Hid (S w0 blk off n dk wr))
    case atStart => exact ⟨20, d1, rfl, Nat.le_refl _, by omega, by omega, HB, HS1⟩
    case round =>
    clear HB HS1
    obtain ⟨B, dB, rfl, hB20, hBn, hg, hBl, hs⟩ := hrel
    by_cases hlt : B < n
    · have HH := hide hBl.out.half
      clear hBl
      go_wp2_with fail
      go_loopg [7, 8] n (fun g v7 v8 wr => ∃ (a p : Nat) (dk : Array Rec), v7 = .int .i64 a ∧ v8 = .int .i64 ((a + 2 * B : Nat) : Int) ∧ a ≤ n ∧ n - a ≤ g ∧ Hid (a = 2 * B * p) ∧ Hid (Half n d B p dk) ∧ Hid (S w0 blk off n dk wr))
      case atStart => exact ⟨0, 0, dB, rfl, by go_num, Nat.zero_le _, Nat.le_refl _, hide rfl, HH, hs⟩
      case round =>
      clear HH hs
      obtain ⟨a2, p, dk2, rfl, rfl, han2, hg2, hp2, hH, hs⟩ := hrel
      by_cases hb2 : a2 + 2 * B ≤ n
      · have hz2 : (a2 : Int) + 2 * (B : Int) ≤ (n : Int) := by omega
        have hc : Calls Yba.prog 36 #[.slice (some ⟨blk, off, none⟩) n cap, .int .i64 a2, .int .i64 ((a2 : Int) + (B : Int)), .int .i64 ((a2 : Int) + 2 * (B : Int)), .func (.func 15) #[] #[]] wr fun e w' => e = .returned (.tuple #[]) ∧ ∃ d', Hid (MergeOf a2 (a2 + 2 * B) dk2 d') ∧ S w0 blk off n d' w' := by
          have := HSY.out w0 wr blk off n cap a2 (a2 + B) (a2 + 2 * B) dk2 hs.out (hH.out.runs hp2.out (by omega) (Or.inl ⟨rfl, hb2⟩)) (by omega) (by omega) hb2 (by omega)
          rw [show ((a2 : Int) + (B : Int)) = ((a2 + B : Nat) : Int) by omega, show ((a2 : Int) + 2 * (B : Int)) = ((a2 + 2 * B : Nat) : Int) by omega]
          exact this
        go_wp2_with (go_at_call 36; refine hc.mono ?_; rintro e w1 ⟨rfl, d3, hm, hs1⟩)
        go_roundg (n - (a2 + 2 * B))
        case measure => omega
        case rel => exact ⟨a2 + 2 * B, p + 1, d3, by go_num, by go_num, hb2, Nat.le_refl _, (by show _ = _; rw [Nat.mul_add, ← hp2.out, Nat.mul_one]), hide (hH.out.next hp2.out hb2 hm.out), hide hs1⟩
      · have hz2 : ¬ ((a2 : Int) + 2 * (B : Int) ≤ (n : Int)) := by omega
        by_cases hm2 : a2 + B < n
        · have hz3 : (a2 : Int) + (B : Int) < (n : Int) := by omega
          have hc : Calls Yba.prog 36 #[.slice (some ⟨blk, off, none⟩) n cap, .int .i64 a2, .int .i64 ((a2 : Int) + (B : Int)), .int .i64 n, .func (.func 15) #[] #[]] wr fun e w' => e = .returned (.tuple #[]) ∧ ∃ d', Hid (MergeOf a2 n dk2 d') ∧ S w0 blk off n d' w' := by
            have := HSY.out w0 wr blk off n cap a2 (a2 + B) n dk2 hs.out (hH.out.runs hp2.out (by omega) (Or.inr ⟨rfl, by omega⟩)) (by omega) hm2 (Nat.le_refl _) (by omega)
            rw [show ((a2 : Int) + (B : Int)) = ((a2 + B : Nat) : Int) by omega]
            exact this
          go_wp2_with (go_at_call 36; refine hc.mono ?_; rintro e w1 ⟨rfl, d3, hm, hs1⟩)
          go_roundg (n - 2 * B)
          case measure => omega
          case rel => exact ⟨2 * B, d3, by go_num, by omega, by omega, Nat.le_refl _, hide (hH.out.blocks hp2.out han2 (by omega) hm.out), hide hs1⟩
        · have hz3 : ¬ ((a2 : Int) + (B : Int) < (n : Int)) := by omega
          go_wp2_with fail
          go_roundg (n - 2 * B)
          case measure => omega
          case rel => exact ⟨2 * B, dk2, by go_num, by omega, by omega, Nat.le_refl _, hide (hH.out.blocks hp2.out han2 (by omega) (hH.out.alone hp2.out (by omega))), hs⟩
    · go_wp2
      go_end0
      exact ⟨rfl, dB, hide (hBl.out.all (by omega)), hs.out⟩

set_option maxHeartbeats 1600000 in
set_option maxRecDepth 1000000 in
theorem sortStable_walk (SY : SymOK) (w0 w : World) (blk off n cap : Nat) (d : Array Rec) (hS : S w0 blk off n d w) (hT : Tagged 0 n d) (hsz : n < 576460752303423488) :
    Calls Yba.prog 14 #[.slice (some ⟨blk, off, none⟩) n cap, .func (.func 15) #[] #[]] w fun e w' => e = .returned (.tuple #[]) ∧ ∃ d', Hid (MergeOf 0 n d d') ∧ S w0 blk off n d' w' := by
  have hc := stable_walk SY w0 w blk off n cap d hS hT hsz
  clear SY hS hT
  go_enter Yba.func14, Yba.ntmps14
  go_wp2_with (go_at_call 21; refine hc.mono ?_; rintro e w1 ⟨rfl, d3, hm, hs1⟩)
  go_end0
  exact ⟨rfl, d3, hm, hs1⟩
end Go.Proofs.Ybulkbkdi
