/-
  Seat b3050a: the plain side of stableCmpFunc: blocks that are sorted, and cuts that part the records by their sources. No walk here.
-/
import Derived.Test.YbulkbkdiMerge
namespace Go.Proofs.Ybulkbkdi
open Go.Sort

/-- All that lies ahead of c comes earlier in the order of sources than all that lies behind it. -/
def Sep (c : Nat) (d : Array Rec) : Prop := ∀ i j, i < c → c ≤ j → j < d.size → ltG d[i]! d[j]! = true

theorem Sep.perm {c u v : Nat} {d x : Array Rec} (h : Sep c d) (hp : PermIn u v d x) (hv : v ≤ d.size) (hc : c ≤ u ∨ v ≤ c) : Sep c x := by
  intro i j hi hj hs
  rw [hp.1] at hs
  rcases hc with hc | hc
  · rw [hp.2.1 i (Or.inl (by omega))]
    by_cases hj2 : u ≤ j ∧ j < v
    · exact permIn_all d x u v (fun y => ltG d[i]! y = true) hv hp (fun k hk hk' => h i k hi (by omega) (by omega)) j hj2.1 hj2.2
    · rw [hp.2.1 j (by omega)]; exact h i j hi hj hs
  · rw [hp.2.1 j (Or.inr (by omega))]
    by_cases hi2 : u ≤ i ∧ i < v
    · exact permIn_all d x u v (fun y => ltG y d[j]! = true) hv hp (fun k hk hk' => h k j (by omega) hj hs) i hi2.1 hi2.2
    · rw [hp.2.1 i (by omega)]; exact h i j hi hj hs

theorem run_off {x y u v : Nat} {d z : Array Rec} (h : SortedIn ltT x y d) (hp : PermIn u v d z) (ho : y ≤ u ∨ v ≤ x) : SortedIn ltT x y z := fun i j hi hij hj => by
  rw [hp.2.1 i (by omega), hp.2.1 j (by omega)]; exact h i j hi hij hj

/-- In the order of sources. -/
def Tagged (a n : Nat) (d : Array Rec) : Prop := ∀ i j, a ≤ i → i < j → j < n → ltG d[i]! d[j]! = true

/-- The first pass: the blocks ahead of a are sorted. -/
structure First (n : Nat) (d0 : Array Rec) (a : Nat) (d : Array Rec) : Prop where
  perm : PermIn 0 n d0 d
  size : d.size = n
  run : ∀ q, 20 * (q + 1) ≤ a → SortedIn ltT (20 * q) (20 * (q + 1)) d
  sep : ∀ q, 20 * q ≤ a → Sep (20 * q) d
  rest : Tagged a n d

theorem First.zero {n : Nat} {d : Array Rec} (hs : d.size = n) (h : Tagged 0 n d) : First n d 0 d :=
  ⟨permIn_refl d _ _, hs, fun q hq => by omega, fun q hq => fun i j hi => by omega, h⟩

theorem First.next {n : Nat} {d0 : Array Rec} {a : Nat} {d d' : Array Rec} (F : First n d0 a d) (ha : ∃ p, a = 20 * p) (hb : a + 20 ≤ n) (h : MergeOf a (a + 20) d d') : First n d0 (a + 20) d' := by
  obtain ⟨p, rfl⟩ := ha
  have hs := F.size
  have hsep : Sep (20 * p + 20) d := fun i j hi hj hjs => by
    by_cases h1 : i < 20 * p
    · exact F.sep p (Nat.le_refl _) i j h1 (by omega) hjs
    · exact F.rest i j (by omega) (by omega) (by omega)
  refine ⟨permIn_trans _ _ _ _ _ F.perm (permIn_mono _ _ (20 * p) (20 * p + 20) 0 n (Nat.zero_le _) hb (by omega) h.1), by rw [h.1.1]; exact hs, fun q hq => ?_, fun q hq => ?_, fun i j hi hij hj => ?_⟩
  · by_cases e : q = p
    · subst e; exact h.2
    · exact run_off (F.run q (by omega)) h.1 (Or.inl (by omega))
  · by_cases e : q = p + 1
    · subst e; exact hsep.perm h.1 (by omega) (Or.inr (by omega))
    · exact (F.sep q (by omega)).perm h.1 (by omega) (Or.inl (by omega))
  · rw [h.1.2.1 i (by omega), h.1.2.1 j (by omega)]; exact F.rest i j (by omega) hij hj

/-- Sorted blocks of B records each. -/
structure Blocks (n : Nat) (d0 : Array Rec) (B : Nat) (d : Array Rec) : Prop where
  perm : PermIn 0 n d0 d
  size : d.size = n
  run : ∀ q, SortedIn ltT (B * q) (min (B * (q + 1)) n) d
  sep : ∀ q, Sep (B * q) d

theorem First.blocks {n : Nat} {d0 : Array Rec} {a : Nat} {d d' : Array Rec} (F : First n d0 a d) (ha : ∃ p, a = 20 * p) (han : a ≤ n) (hb : n < a + 20) (h : MergeOf a n d d') : Blocks n d0 20 d' := by
  obtain ⟨p, rfl⟩ := ha
  have hs := F.size
  refine ⟨permIn_trans _ _ _ _ _ F.perm (permIn_mono _ _ (20 * p) n 0 n (Nat.zero_le _) (Nat.le_refl _) (by omega) h.1), by rw [h.1.1]; exact hs, fun q => ?_, fun q => ?_⟩
  · rcases Nat.lt_trichotomy q p with e | e | e
    · rw [Nat.min_eq_left (by omega)]; exact run_off (F.run q (by omega)) h.1 (Or.inl (by omega))
    · subst e; rw [Nat.min_eq_right (by omega)]; exact h.2
    · intro i j hi hij hj; omega
  · by_cases e : 20 * q ≤ 20 * p
    · exact (F.sep q e).perm h.1 (by omega) (Or.inl e)
    · intro i j hi hj hjs; rw [h.1.1] at hjs; omega

/-- The pairs of blocks ahead of a are merged. -/
structure Half (n : Nat) (d0 : Array Rec) (B p : Nat) (d : Array Rec) : Prop where
  perm : PermIn 0 n d0 d
  size : d.size = n
  done : ∀ q, q < p → SortedIn ltT (2 * B * q) (2 * B * (q + 1)) d
  run : ∀ q, 2 * p ≤ q → SortedIn ltT (B * q) (min (B * (q + 1)) n) d
  sep2 : ∀ q, Sep (2 * B * q) d
  sep : ∀ q, 2 * p ≤ q → Sep (B * q) d

theorem two_mul' (B q : Nat) : 2 * B * q = B * (2 * q) := by rw [Nat.mul_comm 2 B, Nat.mul_assoc]

theorem Blocks.half {n : Nat} {d0 : Array Rec} {B : Nat} {d : Array Rec} (h : Blocks n d0 B d) : Half n d0 B 0 d :=
  ⟨h.perm, h.size, fun q hq => by omega, fun q _ => h.run q, fun q => by rw [two_mul']; exact h.sep _, fun q _ => h.sep q⟩

theorem Half.runs {n : Nat} {d0 : Array Rec} {B p a b : Nat} {d : Array Rec} (h : Half n d0 B p d) (ha : a = 2 * B * p) (hm : a + B ≤ b) (hb : b = a + 2 * B ∧ b ≤ n ∨ b = n ∧ n ≤ a + 2 * B) : Runs a (a + B) b d := by
  have e0 : B * (2 * p) = a := by rw [ha, two_mul']
  have e1 : B * (2 * p + 1) = a + B := by rw [Nat.mul_add, e0, Nat.mul_one]
  have e2 : B * (2 * p + 1 + 1) = a + B + B := by rw [Nat.mul_add, e1, Nat.mul_one]
  have hs := h.size
  have r1 := h.run (2 * p) (Nat.le_refl _)
  have r2 := h.run (2 * p + 1) (by omega)
  have s1 := h.sep (2 * p + 1) (by omega)
  rw [e0, e1, Nat.min_eq_left (by omega)] at r1
  rw [e1, e2] at r2
  rw [e1] at s1
  refine ⟨by omega, hm, by omega, r1, fun i j hi hij hj => r2 i j hi hij (by omega), fun i j h1 h2 h3 h4 => s1 i j h2 h3 (by omega)⟩

theorem Half.next {n : Nat} {d0 : Array Rec} {B p a : Nat} {d d' : Array Rec} (h : Half n d0 B p d) (ha : a = 2 * B * p) (hb : a + 2 * B ≤ n) (hm : MergeOf a (a + 2 * B) d d') : Half n d0 B (p + 1) d' := by
  have hs := h.size
  have e1 : 2 * B * (p + 1) = a + 2 * B := by rw [Nat.mul_add, ← ha, Nat.mul_one]
  have up : ∀ q, p + 1 ≤ q → a + 2 * B ≤ 2 * B * q := fun q hq => by rw [← e1]; exact Nat.mul_le_mul_left _ hq
  have lo : ∀ q, q ≤ p → 2 * B * q ≤ a := fun q hq => by rw [ha]; exact Nat.mul_le_mul_left _ hq
  have up2 : ∀ q, 2 * (p + 1) ≤ q → a + 2 * B ≤ B * q := fun q hq => by rw [← e1, two_mul']; exact Nat.mul_le_mul_left _ hq
  refine ⟨permIn_trans _ _ _ _ _ h.perm (permIn_mono _ _ a (a + 2 * B) 0 n (Nat.zero_le _) hb (by omega) hm.1), by rw [hm.1.1]; exact hs, fun q hq => ?_, fun q hq => ?_, fun q => ?_, fun q hq => ?_⟩
  · by_cases e : q = p
    · subst e; rw [e1, ← ha]; exact hm.2
    · exact run_off (h.done q (by omega)) hm.1 (Or.inl (lo (q + 1) (by omega)))
  · exact run_off (h.run q (by omega)) hm.1 (Or.inr (up2 q hq))
  · by_cases e : q ≤ p
    · exact (h.sep2 q).perm hm.1 (by omega) (Or.inl (lo q e))
    · exact (h.sep2 q).perm hm.1 (by omega) (Or.inr (up q (by omega)))
  · exact (h.sep q (by omega)).perm hm.1 (by omega) (Or.inr (up2 q hq))

theorem Half.blocks {n : Nat} {d0 : Array Rec} {B p a : Nat} {d d' : Array Rec} (h : Half n d0 B p d) (ha : a = 2 * B * p) (han : a ≤ n) (hb : n < a + 2 * B) (hm : MergeOf a n d d') : Blocks n d0 (2 * B) d' := by
  have hs := h.size
  have e1 : 2 * B * (p + 1) = a + 2 * B := by rw [Nat.mul_add, ← ha, Nat.mul_one]
  have up : ∀ q, p + 1 ≤ q → a + 2 * B ≤ 2 * B * q := fun q hq => by rw [← e1]; exact Nat.mul_le_mul_left _ hq
  have lo : ∀ q, q ≤ p → 2 * B * q ≤ a := fun q hq => by rw [ha]; exact Nat.mul_le_mul_left _ hq
  refine ⟨permIn_trans _ _ _ _ _ h.perm (permIn_mono _ _ a n 0 n (Nat.zero_le _) (Nat.le_refl _) (by omega) hm.1), by rw [hm.1.1]; exact hs, fun q => ?_, fun q => ?_⟩
  · rcases Nat.lt_trichotomy q p with e | e | e
    · have := lo (q + 1) (by omega)
      rw [Nat.min_eq_left (by omega)]; exact run_off (h.done q e) hm.1 (Or.inl this)
    · subst e; rw [Nat.min_eq_right (by omega), ← ha]; exact hm.2
    · have := up q (by omega)
      intro i j hi hij hj; omega
  · by_cases e : q ≤ p
    · exact (h.sep2 q).perm hm.1 (by omega) (Or.inl (lo q e))
    · have := up q (by omega)
      exact (h.sep2 q).perm hm.1 (by omega) (Or.inr (by omega))

theorem Half.alone {n : Nat} {d0 : Array Rec} {B p a : Nat} {d : Array Rec} (h : Half n d0 B p d) (ha : a = 2 * B * p) (hb : n ≤ a + B) : MergeOf a n d d := by
  have e0 : B * (2 * p) = a := by rw [ha, two_mul']
  have e1 : B * (2 * p + 1) = a + B := by rw [Nat.mul_add, e0, Nat.mul_one]
  have r1 := h.run (2 * p) (Nat.le_refl _)
  rw [e0, e1, Nat.min_eq_right (by omega)] at r1
  exact ⟨permIn_refl d _ _, r1⟩

theorem Blocks.all {n : Nat} {d0 : Array Rec} {B : Nat} {d : Array Rec} (h : Blocks n d0 B d) (hB : n ≤ B) : MergeOf 0 n d0 d := by
  have := h.run 0
  rw [Nat.mul_zero, Nat.mul_one, Nat.min_eq_right hB] at this
  exact ⟨h.perm, this⟩
end Go.Proofs.Ybulkbkdi
