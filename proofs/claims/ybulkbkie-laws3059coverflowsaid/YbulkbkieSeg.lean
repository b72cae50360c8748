/-
  The walks of reserve (function 8) and newSegment (function 6) of seat b3059a.
-/
import Derived.Test.YbulkbkieBuild
import Derived.Outline
namespace Go.Proofs.Ybulkbkie
open Go.RowKit
set_option linter.unusedVariables false

/-- The values of the segments but one, of the first j. -/
def sumBut (z : Nat → Int) (idx : Int) : Nat → Int
  | 0 => 0
  | j + 1 => sumBut z idx j + if (j : Int) = idx then 0 else z j % 16

theorem sumBut_bd (z : Nat → Int) (idx : Int) : ∀ j, 0 ≤ sumBut z idx j ∧ sumBut z idx j ≤ 15 * j
  | 0 => by simp [sumBut]
  | j + 1 => by
    have h := sumBut_bd z idx j
    have h1 : 0 ≤ z j % 16 ∧ z j % 16 < 16 := by omega
    unfold sumBut
    split <;> omega

/-- The machine lies in block mb and has counted u bytes. -/
def Mach (w : World) (mb : Nat) (u : Int) : Prop := ∃ mc, w.heap[mb]? = some (.cells mc 48 (0, 0)) ∧ mc[7]? = some (.int .i64 u)

theorem Mach.facts {w : World} {mb : Nat} {u : Int} (h : Mach w mb u) : w.cell? ⟨mb, 7, none⟩ = some (.int .i64 u) ∧ w.frozen? ⟨mb, 7, none⟩ = false := by
  obtain ⟨mc, h1, h2⟩ := h
  exact ⟨by simp [World.cell?, h1, h2], by simp [World.frozen?, h1]⟩

theorem Mach.set {w : World} {mb : Nat} {u : Int} (h : Mach w mb u) (x : Int) : Mach (w.setCell ⟨mb, 7, none⟩ (.int .i64 x)) mb x := by
  obtain ⟨mc, h1, h2⟩ := h
  refine ⟨_, heap_setCell_same _ _ _ _ _ _ h1, ?_⟩
  have := (Array.getElem?_eq_some_iff.1 h2).1
  simp [this]

theorem Mach.kept {w w' : World} {mb : Nat} {u : Int} (h : Mach w mb u) (hk : ∀ (b : Nat) (c : Array Value), w.heap[b]? = some (.cells c 48 (0, 0)) → w'.heap[b]? = w.heap[b]?) : Mach w' mb u := by
  obtain ⟨mc, h1, h2⟩ := h
  exact ⟨mc, (hk _ _ h1).trans h1, h2⟩

set_option maxHeartbeats 400000 in
theorem reserve_any (mb : Nat) (u n : Int) (w : World) (M : Mach w mb u) (hu : 0 ≤ u) (hn : 0 ≤ n) (hs : u + n < 16777216) :
    Calls Yba.prog 8 #[.pointer (some ⟨mb, 0, none⟩), .int .i64 n] w fun e w' => e = .returned .nilIface ∧ w.grownBy w' (some mb) ∧ w'.heap.size = w.heap.size ∧ Mach w' mb (u + n) := by
  obtain ⟨c, f⟩ := M.facts
  have HM := hide M
  clear M
  go_enter Yba.func8, Yba.ntmps8
  go_wp2
  go_ret
  refine ⟨rfl, ⟨rfl, rfl, rfl, by simp, fun k hk hne => heap_setCell_other _ _ _ _ (fun e => hne (by rw [e]))⟩, by simp, (unhide HM).set _⟩

/-- A change of the machine's block alone. -/
theorem Stk.mach {w w' : World} {B sb n1 n2 mb : Nat} {v1 v2 : Value} {xs ys : List Value} {u : Int} (S : Stk w B sb v1 v2 n1 n2 xs ys) (M : Mach w mb u) (hg : w.grownBy w' (some mb)) : Stk w' B sb v1 v2 n1 n2 xs ys := by
  obtain ⟨mc, h1, _⟩ := M
  refine ⟨(hg.block sb (lt_of_block S.1) ?_).trans S.1, S.2.1.kept hg (.inr (own_ne S.2.1 h1 (by decide)).symm), S.2.2.kept hg (.inr (own_ne S.2.2 h1 (by decide)).symm)⟩
  intro e
  cases e
  have := S.1.symm.trans h1
  simp at this

theorem mach_ne {w w' : World} {mb : Nat} {u : Int} (M : Mach w mb u) (hg : w.grownBy w' (some mb)) {b : Nat} {c : Array Value} {t : Nat} (hb : w.heap[b]? = some (.cells c t (0, 0))) (ht : t ≠ 48) : w'.heap[b]? = w.heap[b]? := by
  obtain ⟨mc, h1, _⟩ := M
  refine hg.block b (lt_of_block hb) ?_
  intro e
  cases e
  have := hb.symm.trans h1
  simp at this
  exact ht this.2

set_option maxHeartbeats 1600000 in
/-- newSegment past the bound: the problem, and nothing turned. -/
theorem newseg_over (sb n : Nat) (B : Nat) (pm : Value) (idx N : Int) (z : Nat → Int) (v1 v2 : Value) (xs ys : List Value) (w : World) (S : Stk w B sb v1 v2 n n xs ys) (hseg : Segs w B z xs (· < n)) (hn : n ≤ 256)
    (hi : -1 ≤ idx ∧ idx ≤ 1000) (hN : 0 ≤ N ∧ N ≤ 100000000) (hover : 12582912 < N + sumBut z idx n) :
    Calls Yba.prog 6 #[.pointer (some ⟨sb, 0, none⟩), pm, .int .i64 idx, .int .i64 N] w fun e w' => e = .returned (.iface 52 (.string ⟨#[115, 116, 97, 99, 107, 32, 111, 118, 101, 114, 102, 108, 111, 119]⟩)) ∧ w' = w := by
  obtain ⟨a1, p1, rfl⟩ := own_form S.2.1
  obtain ⟨c0, c1, c2, hfz⟩ := S.fields
  have HS := hide S
  have Hseg := hide hseg
  have Hov := hide hover
  clear S hseg hover
  go_enter Yba.func6, Yba.ntmps6
  go_wp2
  go_loop [9, 20] (fun s t => ∃ j : Nat, j ≤ n ∧ t = .int .i64 j ∧ s = .int .i64 (N + sumBut z idx j)) (fun _ t => n - (intOf t).toNat)
  case atStart => exact ⟨0, Nat.zero_le _, rfl, by simp [sumBut]⟩
  case round =>
    obtain ⟨j, hj, rfl, rfl⟩ := hrel
    have hsb := sumBut_bd z idx j
    by_cases hlt : j < n
    · obtain ⟨g, m, hm, hBg, hxj, hsg⟩ := unhide Hseg j hlt
      obtain ⟨g1, rfl⟩ : ∃ g1, a1 = some ⟨g1, 0, none⟩ := by
        rcases (unhide HS).2.1.2 with ⟨_, h0⟩ | ⟨g1, _, _, h, _⟩
        · omega
        · simp at h; exact ⟨g1, h.1⟩
      have hcj : w.cell? ⟨g1, j, none⟩ = some (.slice (some ⟨g, 0, none⟩) m m) := ((unhide HS).2.1.cellAt j (by omega)).trans hxj
      have hm16 : m ≤ 15 := by omega
      have Hm := hide hm
      clear hm hxj hsg
      by_cases hne : (j : Int) = idx
      · have hb : ((j : Int) != idx) = false := by simp [hne]
        have Hne := hide hne
        clear hne
        go_wp2
        go_round
        case rel => exact ⟨j + 1, by omega, by go_num, by simp [sumBut, unhide Hne]⟩
        case measure => simp [intOf]; omega
      · have hb : ((j : Int) != idx) = true := by simp [hne]
        go_wp2
        go_round
        case rel => exact ⟨j + 1, by omega, by go_num, by simp only [sumBut, if_neg hne, unhide Hm]; go_num⟩
        case measure => simp [intOf]; omega
    · have hjn : j = n := by omega
      subst hjn
      have hov := unhide Hov
      go_wp2
      go_ret
      exact ⟨rfl, rfl⟩

end Go.Proofs.Ybulkbkie
