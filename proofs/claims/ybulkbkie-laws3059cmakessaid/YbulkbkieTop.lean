/-
  Seat b3059a: the contracts of build and kept for whatever slice came in; the two laws' walks.
-/
import Derived.Test.YbulkbkieMake
import Derived.Test.YbulkbkieKept
import Derived.Outline
namespace Go.Proofs.Ybulkbkie
open Go.RowKit
set_option linter.unusedVariables false

/-- What the slice of lengths is: empty, or a row of cells in old memory. -/
def Lens (w : World) (a0 : Option Addr) (len : Nat) (z : Nat → Int) : Prop :=
  len = 0 ∨ ∃ b off, a0 = some ⟨b, off, none⟩ ∧ b < w.heap.size ∧ (∀ i, i < len → 0 ≤ z i ∧ z i ≤ 255) ∧ ∀ i, i < len → w.cell? ⟨b, off + i, none⟩ = some (.int .u8 (z i))

theorem Lens.below {w w' : World} {a0 : Option Addr} {len : Nat} {z : Nat → Int} (h : Lens w a0 len z) (hb : Below w.heap.size w w') : Lens w' a0 len z := by
  rcases h with h | ⟨b, off, h1, h2, h3, h4⟩
  · exact .inl h
  · exact .inr ⟨b, off, h1, Nat.lt_of_lt_of_le h2 hb.size, h3, fun i hi => (hb.cell (p := ⟨b, off + i, none⟩) h2).trans (h4 i hi)⟩

theorem build_zero (a0 : Option Addr) (cap : Nat) (z : Nat → Int) (w : World) :
    Calls Yba.prog 5 #[.slice a0 0 cap] w fun e w' => e = .returned (.pointer (some ⟨w.heap.size, 0, none⟩)) ∧ Built w' w.heap.size w.heap.size z 0 ∧ Below w.heap.size w w' := by
  go_enter Yba.func5, Yba.ntmps5
  go_wp2
  refine wp_loop_rounds 1 ?_
  rw [rounds_succ]
  go_wp2
  go_ret
  exact ⟨rfl, ⟨_, _, [], [], ⟨heap_alloc_new w _, World.ownsRow_nil _ _ _ _, World.ownsRow_nil _ _ _ _⟩, fun i hi => by omega, fun i hi => by omega⟩, (Below.refl _ w).alloc (Nat.le_refl _) _⟩

theorem build_any (a0 : Option Addr) (len cap : Nat) (z : Nat → Int) (w : World) (hlen : len ≤ 256) (L : Lens w a0 len z) :
    Calls Yba.prog 5 #[.slice a0 len cap] w fun e w' => e = .returned (.pointer (some ⟨w.heap.size, 0, none⟩)) ∧ Built w' w.heap.size w.heap.size z len ∧ Below w.heap.size w w' := by
  rcases L with rfl | ⟨b, off, rfl, h2, h3, h4⟩
  · exact build_zero a0 cap z w
  · exact build_some b off len cap z w hlen h2 h3 h4

theorem kept_zero (sb : Nat) (a0 : Option Addr) (cap : Nat) (skip : Int) (w : World) :
    Calls Yba.prog 7 #[.pointer (some ⟨sb, 0, none⟩), .slice a0 0 cap, .int .i64 skip] w fun e w' => e = .returned (.bool true) ∧ w' = w := by
  go_enter Yba.func7, Yba.ntmps7
  go_wp2
  refine wp_loop_rounds 1 ?_
  rw [rounds_succ]
  go_wp2
  go_ret
  exact ⟨rfl, rfl⟩

theorem kept_any (B sb n len cap : Nat) (a0 : Option Addr) (skip : Int) (z : Nat → Int) (v1 v2 : Value) (xs ys : List Value) (w : World) (hlen : len ≤ 256) (hn : len ≤ n) (hn2 : n ≤ 1000) (hs0 : -1 ≤ skip) (hs1 : skip ≤ 1000)
    (L : Lens w a0 len z) (S : Stk w B sb v1 v2 n n xs ys) (hseg : Segs w B z xs (fun i => i < len ∧ (i : Int) ≠ skip)) (hent : Ents ys (fun i => i < len ∧ (i : Int) ≠ skip)) :
    Calls Yba.prog 7 #[.pointer (some ⟨sb, 0, none⟩), .slice a0 len cap, .int .i64 skip] w fun e w' => e = .returned (.bool true) ∧ w' = w := by
  by_cases h0 : len = 0
  · subst h0
    exact kept_zero sb a0 cap skip w
  · rcases L with h | ⟨b, off, rfl, h2, h3, h4⟩
    · exact absurd h h0
    · obtain ⟨c0, c1, _, _⟩ := S.fields
      obtain ⟨n', rfl⟩ : ∃ n', n = n' + 1 := ⟨n - 1, by omega⟩
      obtain ⟨g1, p1, rfl⟩ := own_pos S.2.1
      obtain ⟨g2, p2, rfl⟩ := own_pos S.2.2
      refine kept_some sb g1 g2 (n' + 1) p1 p2 b off len cap skip z w hlen hn hn2 hs0 hs1 h3 h4 c0 c1 (fun i hi hne => ?_) (fun i hi hne => ?_)
      · obtain ⟨g, m, h1, _, h5, h6⟩ := hseg i ⟨hi, hne⟩
        exact ⟨g, m, h1, (S.2.1.cellAt i (by omega)).trans h5, fun k hk => h6.full hk hk⟩
      · exact (S.2.2.cellAt i (by omega)).trans (hent i ⟨hi, hne⟩)

end Go.Proofs.Ybulkbkie
