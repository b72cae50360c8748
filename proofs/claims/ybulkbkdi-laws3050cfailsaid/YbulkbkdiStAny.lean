/-
  Seat b3050a: SortStableFunc of the expected records, whatever they are.
-/
import Derived.Test.YbulkbkdiStable
import Derived.Test.YbulkbkdiSym3
import Derived.Test.YbulkbkdiPrefix
import Derived.Test.YbulkbkdiPl
namespace Go.Proofs.Ybulkbkdi
open Go.RowKit Go.Sort Go.Shelf

theorem flat_cons (r : Rec) (L : List Rec) : flat (r :: L) = enc3 r ++ flat L := by simp [flat]
theorem flat_get : ∀ (L : List Rec) (i : Nat) (h : i < L.length), (flat L)[i * 3]? = some (.int .u8 L[i].1) ∧ (flat L)[i * 3 + 1]? = some (.int .u8 L[i].2.1) ∧ (flat L)[i * 3 + 2]? = some (.int .u8 L[i].2.2)
  | [], i, h => by simp at h
  | r :: L, 0, h => by rw [flat_cons]; exact ⟨rfl, rfl, rfl⟩
  | r :: L, i + 1, h => by
    have hi : i < L.length := by simpa using h
    obtain ⟨a, b, c⟩ := flat_get L i hi
    rw [flat_cons, show (i + 1) * 3 = i * 3 + 3 by omega]
    have e : ∀ k, (enc3 r ++ flat L)[k + 3]? = (flat L)[k]? := fun k => by
      rw [List.getElem?_append_right (by rw [enc3_len]; omega), enc3_len, Nat.add_sub_cancel]
    rw [show i * 3 + 3 + 1 = (i * 3 + 1) + 3 by omega, show i * 3 + 3 + 2 = (i * 3 + 2) + 3 by omega, e, e, e]
    exact ⟨a, b, c⟩

/-- The slice ev holds the records E (its array is a block of its own). -/
def ExpAt (W : World) (ev : Value) (E : List Rec) : Prop :=
  (ev = .slice none 0 0 ∧ E = []) ∨ ∃ g cap, ev = .slice (some ⟨g, 0, none⟩) E.length cap ∧ g < W.heap.size ∧ RecsAt W (some ⟨g, 0, none⟩) E.length (fun i => E.getD i (0, 0, 0))

theorem exp_of_row {W : World} {base : Nat} {ev : Value} {L : List Rec} (h : W.ownsRow base 34 3 ev L.length (flat L)) : ExpAt W ev L := by
  rcases h.2 with ⟨rfl, h0⟩ | ⟨g, cap, cur, rfl, hb, hg, hr⟩
  · exact Or.inl ⟨rfl, List.eq_nil_of_length_eq_zero h0⟩
  · refine Or.inr ⟨g, cap, rfl, lt_of hg, fun i hi => ⟨g, 0, rfl, ?_⟩⟩
    obtain ⟨a, b, c⟩ := flat_get L i hi
    have hx : L.getD i (0, 0, 0) = L[i] := by simp [hi]
    dsimp only
    rw [hx, Nat.zero_add]
    rw [World.ownsRow.cellAt h (i * 3) (by omega), World.ownsRow.cellAt h (i * 3 + 1) (by omega), World.ownsRow.cellAt h (i * 3 + 2) (by omega)]
    exact ⟨a, b, c⟩

theorem ExpAt.keep {W W' : World} {ev : Value} {E : List Rec} (h : ExpAt W ev E) (hs : W.heap.size ≤ W'.heap.size) (hb : ∀ k, ev.ownBlock = some k → W'.heap[k]? = W.heap[k]?) : ExpAt W' ev E := by
  rcases h with h | ⟨g, cap, rfl, hg, hr⟩
  · exact Or.inl h
  · refine Or.inr ⟨g, cap, rfl, by omega, fun i hi => ?_⟩
    obtain ⟨b, o, e, h1, h2, h3⟩ := hr i hi
    cases e
    have hb' := hb g rfl
    exact ⟨g, 0, rfl, by rw [World.cell?_of_block (w := W) hb']; exact h1, by rw [World.cell?_of_block (w := W) hb']; exact h2, by rw [World.cell?_of_block (w := W) hb']; exact h3⟩

set_option maxHeartbeats 1600000 in
set_option maxRecDepth 1000000 in
theorem ins_none (q : Option Addr) (cap : Nat) (fv : Value) (w : World) : Calls Yba.prog 35 #[.slice q 0 cap, .int .i64 0, .int .i64 0, fv] w fun e w' => e = .returned (.tuple #[]) ∧ w' = w := by
  go_enter Yba.func35, Yba.ntmps35
  go_wp2
  refine wp_loop_rounds 1 ?_
  rw [rounds_succ]
  go_wp2
  go_end0
  exact ⟨rfl, rfl⟩

set_option maxHeartbeats 1600000 in
set_option maxRecDepth 1000000 in
theorem stable_none (q : Option Addr) (cap : Nat) (fv : Value) (w : World) : Calls Yba.prog 21 #[.slice q 0 cap, .int .i64 0, fv] w fun e w' => e = .returned (.tuple #[]) ∧ w' = w := by
  go_enter Yba.func21, Yba.ntmps21
  go_wp2
  refine wp_loop_rounds 1 ?_
  rw [rounds_succ]
  go_wp2_with (go_at_call 35; refine (ins_none q cap fv _).mono ?_; rintro e w' ⟨rfl, rfl⟩)
  refine wp_loop_rounds 1 ?_
  rw [rounds_succ]
  go_wp2
  go_end0
  exact ⟨rfl, rfl⟩

set_option maxHeartbeats 1600000 in
set_option maxRecDepth 1000000 in
theorem sortStable_none (q : Option Addr) (cap : Nat) (fv : Value) (w : World) : Calls Yba.prog 14 #[.slice q 0 cap, fv] w fun e w' => e = .returned (.tuple #[]) ∧ w' = w := by
  go_enter Yba.func14, Yba.ntmps14
  go_wp2_with (go_at_call 21; refine (stable_none q cap fv _).mono ?_; rintro e w' ⟨rfl, rfl⟩)
  go_end0
  exact ⟨rfl, rfl⟩

theorem stable_any (W : World) (base : Nat) (ev : Value) (L : List Rec) (hlen : L.length < 100000) (hT : L.Pairwise fun x y => ltG x y = true) (h : W.ownsRow base 34 3 ev L.length (flat L)) :
    ∃ q cap, ev = .slice q L.length cap ∧ Calls Yba.prog 14 #[.slice q L.length cap, .func (.func 15) #[] #[]] W fun e w' => e = .returned (.tuple #[]) ∧ ∃ E : List Rec, Hid (Asc E ∧ E.Perm L) ∧ ExpAt w' ev E ∧ Step (fun k => ev.ownBlock = some k) W w' := by
  rcases h.2 with ⟨rfl, h0⟩ | ⟨g, cap, cur, rfl, hb, hg, hr⟩
  · have hx : L = [] := List.eq_nil_of_length_eq_zero h0
    subst hx
    refine ⟨none, 0, rfl, (sortStable_none none 0 _ W).mono ?_⟩
    rintro e w' ⟨rfl, rfl⟩
    exact ⟨rfl, [], hide ⟨List.Pairwise.nil, List.Perm.refl _⟩, Or.inl ⟨rfl, rfl⟩, Step.refl _ _⟩
  · have hgl := lt_of hg
    have hH : HoldsK enc3 3 W g 0 L.toArray := fun j hj => by
      have hj2 : j < L.length * 3 := by simpa using hj
      refine ⟨?_, frozen_of hg _⟩
      rw [get_flatK _ _ _ _ (by simpa using hj2), Nat.zero_add, World.ownsRow.cellAt h j hj2]
      have hi : j / 3 < L.length := by omega
      obtain ⟨a, b, c⟩ := flat_get L (j / 3) hi
      have hd : L.toArray[j / 3]! = L[j / 3] := by simp [hi]
      rw [hd]
      have hj3 : j = j / 3 * 3 + j % 3 := by omega
      have hm : j % 3 < 3 := Nat.mod_lt _ (by omega)
      generalize j / 3 = i at *
      generalize j % 3 = m at *
      subst hj3
      match m, hm with
      | 0, _ => rw [Nat.add_zero, a]; rfl
      | 1, _ => rw [b]; rfl
      | 2, _ => rw [c]; rfl
    have hS : S W g 0 L.length L.toArray W := ⟨SWK.start hH, by simp, L.toArray, by simp, ⟨enc3_len, enc3_one, hH, hgl⟩⟩
    have hTg : Tagged 0 L.length L.toArray := fun i j _ hij hj => by
      have := List.pairwise_iff_getElem.1 hT i j (by omega) hj hij
      simpa [show i < L.length by omega, hj] using this
    refine ⟨some ⟨g, 0, none⟩, cap, rfl, (sortStable_walk (fun w0 w blk off n cap a m b d hS P h1 h2 h3 h4 => sym_walk (b - a + 1) w0 w blk off n cap a m b d (by omega) hS P h1 h2 h3 h4) W W g 0 L.length cap L.toArray hS hTg (by omega)).mono ?_⟩
    rintro e w' ⟨rfl, d, hd, hSd⟩
    have hds : d.size = L.length := hSd.size
    have hp : d.toList.Perm L := by
      have := hd.out.1.2.2
      rw [show L.length = L.toArray.size by simp] at this
      rw [show d.extract 0 L.toArray.size = d by rw [show L.toArray.size = d.size by simp [hds]]; simp, show L.toArray.extract 0 L.toArray.size = L.toArray by simp] at this
      simpa using this
    refine ⟨rfl, d.toList, hide ⟨?_, hp⟩, Or.inr ⟨g, cap, by simp [hds], by have := hSd.step.size; omega, fun i hi => ⟨g, 0, rfl, ?_⟩⟩, hSd.step.mono fun k _ e => by subst e; rfl⟩
    · refine List.pairwise_iff_getElem.2 fun i j hi hj hij => ?_
      have hj2 : j < d.size := by simpa using hj
      have := hd.out.2 i j (Nat.zero_le _) hij (by omega)
      rw [getElem!_pos d j hj2, getElem!_pos d i (by omega)] at this
      simpa using this
    · have hi2 : i < d.size := by simpa using hi
      obtain ⟨a, b, c, _⟩ := hSd.cells i (by omega)
      rw [getElem!_pos d i hi2] at a b c
      have hx : d.toList.getD i (0, 0, 0) = d[i] := by simp [hi2]
      dsimp only
      rw [hx]
      exact ⟨a, b, c⟩
end Go.Proofs.Ybulkbkdi
