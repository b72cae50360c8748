/-
  Seat b3050a: the plain side of mergeSources' rounds. No walk here.
-/
import Derived.Test.YbulkbkdiMS
namespace Go.Proofs.Ybulkbkdi
open Go.Sort

/-- The records expected of the first i sources. -/
def want (K : Nat → List Int) (i : Nat) : List Rec := (List.range i).flatMap (recs K)
theorem want_succ (K : Nat → List Int) (i : Nat) : want K (i + 1) = want K i ++ recs K i := by simp [want, List.range_succ]

/-- The sources that live behind the first calls of next. -/
def live0 (K : Nat → List Int) : Nat → List (Nat × Nat)
  | 0 => []
  | i + 1 => live0 K i ++ (if 0 < (K i).length then [(i, 0)] else [])

theorem left_append (K : Nat → List Int) (a b : List (Nat × Nat)) : left K (a ++ b) = left K a ++ left K b := by simp [left]
theorem left_live0 (K : Nat → List Int) : ∀ i, left K (live0 K i) = want K i
  | 0 => rfl
  | i + 1 => by
    rw [want_succ, live0, left_append, left_live0 K i]
    congr 1
    by_cases h : 0 < (K i).length
    · rw [if_pos h]; simp [left]
    · rw [if_neg h]
      have : (recs K i).length = 0 := by rw [recs_length]; omega
      rw [List.length_eq_zero_iff.1 this]; rfl
theorem live0_lt (K : Nat → List Int) : ∀ i, ∀ p ∈ live0 K i, p.1 < i ∧ p.2 = 0 ∧ 0 < (K p.1).length
  | 0, p, h => by simp [live0] at h
  | i + 1, p, h => by
    rw [live0] at h
    rcases List.mem_append.1 h with h | h
    · obtain ⟨a, b, c⟩ := live0_lt K i p h; exact ⟨by omega, b, c⟩
    · by_cases e : 0 < (K i).length
      · rw [if_pos e] at h; simp at h; subst h; exact ⟨by simp, rfl, e⟩
      · rw [if_neg e] at h; simp at h
theorem live0_asc (K : Nat → List Int) : ∀ i, (live0 K i).Pairwise fun p q => p.1 < q.1
  | 0 => List.Pairwise.nil
  | i + 1 => by
    rw [live0]
    refine List.pairwise_append.2 ⟨live0_asc K i, ?_, fun p hp q hq => ?_⟩
    · by_cases e : 0 < (K i).length
      · rw [if_pos e]; exact List.pairwise_singleton _ _
      · rw [if_neg e]; exact List.Pairwise.nil
    · have := (live0_lt K i p hp).1
      by_cases e : 0 < (K i).length
      · rw [if_pos e] at hq; simp at hq; subst hq; exact this
      · rw [if_neg e] at hq; simp at hq
theorem live0_mem (K : Nat → List Int) : ∀ i j, j < i → 0 < (K j).length → (j, 0) ∈ live0 K i
  | 0, j, h, _ => by omega
  | i + 1, j, h, hk => by
    rw [live0]
    by_cases e : j = i
    · subst e; rw [if_pos hk]; simp
    · exact List.mem_append_left _ (live0_mem K i j (by omega) hk)
theorem live0_len (K : Nat → List Int) : ∀ i, (live0 K i).length ≤ i
  | 0 => by simp [live0]
  | i + 1 => by
    rw [live0, List.length_append]
    have := live0_len K i
    by_cases e : 0 < (K i).length
    · rw [if_pos e]; simp; omega
    · rw [if_neg e]; simp; omega

/-- Between two rounds: l has been yielded, Lv lives. -/
structure Pl (K : Nat → List Int) (n : Nat) (E l : List Rec) (Lv : List (Nat × Nat)) (cnt : Nat → Nat) : Prop where
  up : ∀ j, j < n → ∀ t u, t ≤ u → u < (K j).length → (K j).getD t 0 ≤ (K j).getD u 0
  asc : Lv.Pairwise fun p q => p.1 < q.1
  inn : ∀ p ∈ Lv, p.1 < n ∧ p.2 < (K p.1).length ∧ cnt p.1 = p.2 + 1
  out : ∀ j, j < n → (∀ p ∈ Lv, p.1 ≠ j) → cnt j = (K j).length + 1
  rest : ∃ E', E = l ++ E' ∧ Asc E' ∧ E'.Perm (left K Lv)

theorem Pl.start {K : Nat → List Int} {n : Nat} {E : List Rec} {cnt : Nat → Nat} (up : ∀ j, j < n → ∀ t u, t ≤ u → u < (K j).length → (K j).getD t 0 ≤ (K j).getD u 0) (hE : Asc E) (hp : E.Perm (want K n)) (hc : ∀ j, j < n → cnt j = 1) : Pl K n E [] (live0 K n) cnt := by
  refine ⟨up, live0_asc K n, fun p hp => ?_, fun j hj hno => ?_, E, rfl, hE, by rw [left_live0]; exact hp⟩
  · obtain ⟨a, b, c⟩ := live0_lt K n p hp
    exact ⟨a, by omega, by rw [hc _ a, b]⟩
  · rw [hc j hj]
    by_cases e : 0 < (K j).length
    · exact absurd rfl (hno _ (live0_mem K n j hj e))
    · omega

theorem Pl.done {K : Nat → List Int} {n : Nat} {E l : List Rec} {cnt : Nat → Nat} (h : Pl K n E l [] cnt) : l = E ∧ ∀ j, j < n → cnt j = (K j).length + 1 := by
  obtain ⟨E', h1, _, h3⟩ := h.rest
  refine ⟨?_, fun j hj => h.out j hj (by simp)⟩
  have : E' = [] := List.Perm.eq_nil h3
  rw [h1, this, List.append_nil]

/-- Index m of Lv is the least: behind it no smaller, ahead of it greater ones. -/
def Least (K : Nat → List Int) (Lv : List (Nat × Nat)) (m : Nat) : Prop := ∀ t (h : t < Lv.length) (hm : m < Lv.length), key K Lv[m] ≤ key K Lv[t] ∧ (t < m → key K Lv[m] < key K Lv[t])

theorem split_at {α : Type} (l : List α) (m : Nat) (h : m < l.length) : l = l.take m ++ l[m] :: l.drop (m + 1) := by
  rw [← List.drop_eq_getElem_cons h, List.take_append_drop]

/-- The least record is the next of the expected ones; source i moves. -/
theorem Pl.yield {K : Nat → List Int} {n : Nat} {E l : List Rec} {Lv : List (Nat × Nat)} {cnt : Nat → Nat} (h : Pl K n E l Lv cnt) {m : Nat} (hm : m < Lv.length) (hl : Least K Lv m) :
    E[l.length]? = some (head K Lv[m]) ∧ (∃ E', E = (l ++ [head K Lv[m]]) ++ E') ∧
    ((Lv[m].2 + 1 < (K Lv[m].1).length → Pl K n E (l ++ [head K Lv[m]]) (Lv.set m (Lv[m].1, Lv[m].2 + 1)) (upd cnt Lv[m].1 (Lv[m].2 + 2))) ∧
     (Lv[m].2 + 1 = (K Lv[m].1).length → Pl K n E (l ++ [head K Lv[m]]) (Lv.take m ++ Lv.drop (m + 1)) (upd cnt Lv[m].1 (Lv[m].2 + 2)))) := by
  obtain ⟨E', hE, hA, hP⟩ := h.rest
  have hs := split_at Lv m hm
  have hset : Lv.set m (Lv[m].1, Lv[m].2 + 1) = Lv.take m ++ (Lv[m].1, Lv[m].2 + 1) :: Lv.drop (m + 1) := List.set_eq_take_append_cons_drop .. |>.trans (if_pos hm)
  have hAm : ∀ p ∈ Lv.take m, key K Lv[m] < key K p := fun p hp => by
    obtain ⟨t, ht, e⟩ := List.mem_iff_getElem.1 hp
    rw [List.length_take] at ht
    rw [List.getElem_take] at e
    have := (hl t (by omega) hm).2 (by omega)
    rw [e] at this; exact this
  have hBm : ∀ p ∈ Lv.drop (m + 1), key K Lv[m] ≤ key K p := fun p hp => by
    obtain ⟨t, ht, e⟩ := List.mem_iff_getElem.1 hp
    rw [List.length_drop] at ht
    rw [List.getElem_drop] at e
    have := (hl (m + 1 + t) (by omega) hm).1
    rw [e] at this; exact this
  have hmem : Lv[m] ∈ Lv := List.getElem_mem hm
  have hpw := h.asc
  have hin := h.inn
  have hout := h.out
  rw [hset]
  generalize Lv.take m = A at *
  generalize Lv.drop (m + 1) = B at *
  generalize Lv[m] = q at *
  obtain ⟨i, t⟩ := q
  subst hs
  have hn : ∀ p ∈ A ++ (i, t) :: B, p.2 < (K p.1).length := fun p hp => (hin p hp).2.1
  obtain ⟨E2, e1, e2, e3⟩ := pick (K := K) (fun p hp u h1 h2 => h.up p.1 (hin p hp).1 p.2 u h1 h2) hpw hn hAm hBm hA hP
  have hpw2 := List.pairwise_append.1 hpw
  have hB2 := List.pairwise_cons.1 hpw2.2.1
  have hneA : ∀ p ∈ A, p.1 ≠ i := fun p hp => by have := hpw2.2.2 p hp (i, t) (by simp); simp at this; omega
  have hneB : ∀ p ∈ B, p.1 ≠ i := fun p hp => by have := hB2.1 p hp; simp at this; omega
  refine ⟨by rw [hE, e1]; simp, ⟨E2, by rw [hE, e1]; simp⟩, fun ht => ?_, fun ht => ?_⟩
  · refine ⟨h.up, ?_, fun p hp => ?_, fun j hj hno => ?_, E2, by rw [hE, e1]; simp, e3, e2⟩
    · refine List.pairwise_append.2 ⟨hpw2.1, List.pairwise_cons.2 ⟨hB2.1, hB2.2⟩, fun p hp q hq => ?_⟩
      rcases List.mem_cons.1 hq with rfl | hq
      · exact hpw2.2.2 p hp (i, t) (by simp)
      · exact hpw2.2.2 p hp q (by simp [hq])
    · rcases List.mem_append.1 hp with hp | hp
      · rw [upd_ne _ _ (hneA p hp)]; exact hin p (by simp [hp])
      · rcases List.mem_cons.1 hp with rfl | hp
        · exact ⟨(hin (i, t) (by simp)).1, ht, by simp [upd_same]⟩
        · rw [upd_ne _ _ (hneB p hp)]; exact hin p (by simp [hp])
    · have hji : j ≠ i := fun e => hno (i, t + 1) (by simp) e.symm
      rw [upd_ne _ _ hji]
      refine hout j hj fun p hp => ?_
      rcases List.mem_append.1 hp with hp | hp
      · exact hno p (by simp [hp])
      · rcases List.mem_cons.1 hp with rfl | hp
        · exact fun e => hji e.symm
        · exact hno p (by simp [hp])
  · have hst := left_strike (K := K) (A := A) (B := B) (i := i) (t := t + 1) (by simp at ht; omega)
    rw [hst] at e2
    refine ⟨h.up, ?_, fun p hp => ?_, fun j hj hno => ?_, E2, by rw [hE, e1]; simp, e3, e2⟩
    · exact List.pairwise_append.2 ⟨hpw2.1, hB2.2, fun p hp q hq => hpw2.2.2 p hp q (by simp [hq])⟩
    · rcases List.mem_append.1 hp with hp | hp
      · rw [upd_ne _ _ (hneA p hp)]; exact hin p (by simp [hp])
      · rw [upd_ne _ _ (hneB p hp)]; exact hin p (by simp [hp])
    · by_cases hji : j = i
      · subst hji; rw [upd_same]; simp at ht ⊢; omega
      · rw [upd_ne _ _ hji]
        refine hout j hj fun p hp => ?_
        rcases List.mem_append.1 hp with hp | hp
        · exact hno p (by simp [hp])
        · rcases List.mem_cons.1 hp with rfl | hp
          · exact fun e => hji e.symm
          · exact hno p (by simp [hp])
end Go.Proofs.Ybulkbkdi
