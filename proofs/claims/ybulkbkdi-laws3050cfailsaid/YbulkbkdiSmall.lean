/-
  Seat b3050a: zzs3050csmall and zzs3050cprefix.
-/
import Derived.Test.YbulkbkdiLog
import Derived.Laws.StructEq
namespace Go.Proofs.Ybulkbkdi
open Go.RowKit

set_option maxHeartbeats 1600000 in
set_option maxRecDepth 1000000 in
/-- small: at most 256 rows, each of at most 256 bytes. (L i: the length of row i.) -/
theorem small_walk (W : World) (q : Option Addr) (n cap : Nat) (A : Nat → Option Addr) (L C : Nat → Nat) (hcell : ∀ i, i < n → ∃ b o, q = some ⟨b, o, none⟩ ∧ W.cell? ⟨b, o + i, none⟩ = some (.slice (A i) (L i) (C i))) (hn : n ≤ 9223372036854775807) :
    Calls Yba.prog 5 #[.slice q n cap] W fun e w' => (∃ r : Bool, e = .returned (.bool r) ∧ Hid (r = true ↔ n ≤ 256 ∧ ∀ i, i < n → L i ≤ 256)) ∧ w' = W := by
  by_cases h0 : n ≤ 256
  · rcases Nat.eq_zero_or_pos n with hz | hz
    · subst hz
      clear hcell
      go_enter Yba.func5, Yba.ntmps5
      go_wp2
      refine wp_loop_rounds 1 ?_
      rw [rounds_succ]
      go_wp2
      go_ret
      exact ⟨⟨true, rfl, hide ⟨fun _ => ⟨by omega, fun i hi => by omega⟩, fun _ => rfl⟩⟩, rfl⟩
    · obtain ⟨b, o, hq, _⟩ := hcell 0 hz
      subst hq
      have hc : ∀ i, i < n → W.cell? ⟨b, o + i, none⟩ = some (.slice (A i) (L i) (C i)) := fun i hi => by
        obtain ⟨b', o', hq, h⟩ := hcell i hi
        cases hq
        exact h
      clear hcell
      go_enter Yba.func5, Yba.ntmps5
      go_wp2
      go_loopg [9] n (fun g v wr => ∃ i : Nat, v = .int .i64 i ∧ i ≤ n ∧ n - i ≤ g ∧ wr = W ∧ Hid (∀ k, k < i → L k ≤ 256))
      case atStart => exact ⟨0, rfl, Nat.zero_le _, Nat.le_refl _, rfl, hide fun k hk => by omega⟩
      case round =>
        obtain ⟨i, rfl, hin, hg, rfl, hall⟩ := hrel
        by_cases hlt : i < n
        · have hci := hc i hlt
          by_cases hbig : L i ≤ 256
          · have hz2 : ¬ ((256 : Int) < (L i : Int)) := by omega
            go_wp2
            go_roundg (n - (i + 1))
            case measure => omega
            case rel => exact ⟨i + 1, by go_num, by omega, Nat.le_refl _, rfl, hide fun k hk => by rcases Nat.lt_or_eq_of_le (Nat.le_of_lt_succ hk) with h | h; exact hall.out k h; rw [h]; exact hbig⟩
          · have hz2 : (256 : Int) < (L i : Int) := by omega
            go_wp2
            go_ret
            exact ⟨⟨false, rfl, hide ⟨fun h => by simp at h, fun h => absurd (h.2 i hlt) hbig⟩⟩, rfl⟩
        · go_wp2
          go_ret
          exact ⟨⟨true, rfl, hide ⟨fun _ => ⟨h0, fun k hk => hall.out k (by omega)⟩, fun _ => rfl⟩⟩, rfl⟩
  · have hz : (256 : Int) < (n : Int) := by omega
    clear hcell
    go_enter Yba.func5, Yba.ntmps5
    go_wp2
    go_ret
    exact ⟨⟨false, rfl, hide ⟨fun h => by simp at h, fun h => absurd h.1 h0⟩⟩, rfl⟩
end Go.Proofs.Ybulkbkdi
