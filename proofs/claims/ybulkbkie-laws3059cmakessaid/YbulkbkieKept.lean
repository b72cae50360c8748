/-
  The walk of zzs3059ckept (function 7) of seat b3059a.
-/
import Derived.Test.YbulkbkieParts
import Derived.WalkKit
import Derived.WalkSpells
import Derived.WalkLawsBesides
import Derived.Outline
namespace Go.Proofs.Ybulkbkie
open Go.RowKit
set_option linter.unusedVariables false


set_option maxHeartbeats 1600000 in
theorem kept_some (sb g1 g2 n c1 c2 b off len cap : Nat) (skip : Int) (z : Nat → Int) (w : World) (hlen : len ≤ 256) (hn : len ≤ n) (hn2 : n ≤ 1000) (hs0 : -1 ≤ skip) (hs1 : skip ≤ 1000)
    (hz : ∀ i, i < len → 0 ≤ z i ∧ z i ≤ 255)
    (hl : ∀ i, i < len → w.cell? ⟨b, off + i, none⟩ = some (.int .u8 (z i)))
    (hc0 : w.cell? ⟨sb, 0, none⟩ = some (.slice (some ⟨g1, 0, none⟩) n c1)) (hc1 : w.cell? ⟨sb, 1, none⟩ = some (.slice (some ⟨g2, 0, none⟩) n c2))
    (hseg : ∀ i : Nat, i < len → (i : Int) ≠ skip → ∃ g m : Nat, (z i % 16 = m) ∧ w.cell? ⟨g1, i, none⟩ = some (.slice (some ⟨g, 0, none⟩) m m) ∧ ∀ k : Nat, k < m → w.cell? ⟨g, k * 3, none⟩ = some (.int .u8 1) ∧ w.cell? ⟨g, k * 3 + 1, none⟩ = some (.int .i64 (i * 1000 + k + 1)) ∧ w.cell? ⟨g, k * 3 + 2, none⟩ = some .nilIface)
    (hent : ∀ i : Nat, i < len → (i : Int) ≠ skip → w.cell? ⟨g2, i, none⟩ = some (.int .i64 i)) :
    Calls Yba.prog 7 #[.pointer (some ⟨sb, 0, none⟩), .slice (some ⟨b, off, none⟩) len cap, .int .i64 skip] w fun e w' => e = .returned (.bool true) ∧ w' = w := by
  have Hz := hide hz
  have Hl := hide hl
  have Hs := hide hseg
  have He := hide hent
  clear hz hl hseg hent
  go_enter Yba.func7, Yba.ntmps7
  go_wp2
  go_loop [7] (fun t => ∃ j : Nat, j ≤ len ∧ t = .int .i64 j) (fun t => len - (intOf t).toNat)
  case atStart => exact ⟨0, Nat.zero_le _, rfl⟩
  case round =>
    obtain ⟨j, hj, rfl⟩ := hrel
    by_cases hlt : j < len
    · have hzj := unhide Hz j hlt
      have hlj := unhide Hl j hlt
      by_cases hsk : ((j : Int) == skip) = true
      · go_wp2
        go_round
        case rel => exact ⟨j + 1, by omega, by go_num⟩
        case measure => simp [intOf]; omega
      · have hsk' : ((j : Int) == skip) = false := by simpa using hsk
        have hne : (j : Int) ≠ skip := by simpa using hsk
        obtain ⟨g, m, hm, hcg, hcell⟩ := unhide Hs j hlt hne
        have hej := unhide He j hlt hne
        have Hm := hide hm
        have Hc := hide hcell
        have hm16 : m ≤ 15 := by omega
        have hmz : ((m : Int) != z j % 16) = false := by rw [hm]; simp
        clear hsk hne hm hcell
        go_wp2
        go_loop [9] (fun t => ∃ k : Nat, k ≤ m ∧ t = .int .i64 k) (fun t => m - (intOf t).toNat)
        case atStart => exact ⟨0, Nat.zero_le _, rfl⟩
        case round =>
          obtain ⟨k, hk, rfl⟩ := hrel
          by_cases hkt : k < m
          · obtain ⟨q0, q1, q2⟩ := unhide Hc k hkt
            go_wp2
            go_round
            case rel => exact ⟨k + 1, by omega, by go_num⟩
            case measure => simp [intOf]; omega
          · go_wp2
            go_round
            case rel => exact ⟨j + 1, by omega, by go_num⟩
            case measure => simp [intOf]; omega
    · go_wp2
      go_ret
      exact ⟨rfl, rfl⟩
end Go.Proofs.Ybulkbkie
