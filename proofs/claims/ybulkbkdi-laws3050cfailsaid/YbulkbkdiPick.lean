/-
  Seat b3050a: the plain side of mergeSources: the least head of the live sources is the next record of the sorted list. No walk here.
-/
import Derived.Test.YbulkbkdiMerge
namespace Go.Proofs.Ybulkbkdi
open Go.Sort

/-- Source i's records. -/
def recs (K : Nat → List Int) (i : Nat) : List Rec := (K i).zipIdx.map fun x => (x.1, (i : Int), (x.2 : Int))
def key (K : Nat → List Int) (p : Nat × Nat) : Int := (K p.1).getD p.2 0
def head (K : Nat → List Int) (p : Nat × Nat) : Rec := (key K p, (p.1 : Int), (p.2 : Int))
/-- What the live sources have still to give. -/
def left (K : Nat → List Int) (live : List (Nat × Nat)) : List Rec := live.flatMap fun p => (recs K p.1).drop p.2

theorem recs_length (K : Nat → List Int) (i : Nat) : (recs K i).length = (K i).length := by simp [recs]
theorem recs_get (K : Nat → List Int) (i t : Nat) (h : t < (K i).length) : (recs K i)[t]? = some (head K (i, t)) := by
  simp [recs, head, key, h]
theorem recs_drop (K : Nat → List Int) (i t : Nat) (h : t < (K i).length) : (recs K i).drop t = head K (i, t) :: (recs K i).drop (t + 1) := by
  have hl : t < (recs K i).length := by rw [recs_length]; exact h
  rw [List.drop_eq_getElem_cons hl]
  have := recs_get K i t h
  rw [List.getElem?_eq_getElem hl] at this
  injection this with e
  rw [e]
theorem mem_drop (K : Nat → List Int) (i t : Nat) {x : Rec} (h : x ∈ (recs K i).drop t) : ∃ u, t ≤ u ∧ u < (K i).length ∧ x = head K (i, u) := by
  obtain ⟨n, hn, e⟩ := List.mem_iff_getElem.1 h
  rw [List.length_drop, recs_length] at hn
  refine ⟨t + n, by omega, by omega, ?_⟩
  have h2 := recs_get K i (t + n) (by omega)
  rw [List.getElem_drop] at e
  rw [← e]
  rw [List.getElem?_eq_getElem (by rw [recs_length]; omega)] at h2
  exact Option.some.inj h2

/-- Ascending by ltT. -/
def Asc (E : List Rec) : Prop := E.Pairwise fun x y => ltT y x = false

theorem ltT_eq {x y : Rec} (h1 : ltT x y = false) (h2 : ltT y x = false) : x = y := by
  simp only [ltT, decide_eq_false_iff_not] at h1 h2
  obtain ⟨a, b, c⟩ := x
  obtain ⟨a', b', c'⟩ := y
  simp only at h1 h2
  have e1 : a = a' := by omega
  have e2 : b = b' := by omega
  have e3 : c = c' := by omega
  rw [e1, e2, e3]

theorem asc_head {E R : List Rec} {r : Rec} (hE : Asc E) (hp : E.Perm (r :: R)) (hr : ∀ x ∈ R, ltT x r = false) : ∃ E', E = r :: E' ∧ E'.Perm R ∧ Asc E' := by
  cases E with
  | nil => exact absurd hp.length_eq (by simp)
  | cons e E' =>
    have h1 : ltT e r = false := by
      rcases List.mem_cons.1 (hp.mem_iff.1 (List.mem_cons_self)) with h | h
      · rw [h]; exact swoT.irrefl _
      · exact hr e h
    have h2 : ltT r e = false := by
      rcases List.mem_cons.1 (hp.mem_iff.2 (List.mem_cons_self)) with h | h
      · rw [h]; exact swoT.irrefl _
      · exact (List.pairwise_cons.1 hE).1 r h
    have e1 : e = r := ltT_eq h1 h2
    subst e1
    exact ⟨E', rfl, (List.perm_cons e).1 hp, (List.pairwise_cons.1 hE).2⟩

theorem pick {K : Nat → List Int} {A B : List (Nat × Nat)} {i t : Nat} (hK : ∀ p ∈ A ++ (i, t) :: B, ∀ u, p.2 ≤ u → u < (K p.1).length → (K p.1).getD p.2 0 ≤ (K p.1).getD u 0) (hasc : (A ++ (i, t) :: B).Pairwise fun p q => p.1 < q.1) (hin : ∀ p ∈ A ++ (i, t) :: B, p.2 < (K p.1).length)
    (hA : ∀ p ∈ A, key K (i, t) < key K p) (hB : ∀ p ∈ B, key K (i, t) ≤ key K p) {E : List Rec} (hE : Asc E) (hp : E.Perm (left K (A ++ (i, t) :: B))) :
    ∃ E', E = head K (i, t) :: E' ∧ E'.Perm (left K (A ++ (i, t + 1) :: B)) ∧ Asc E' := by
  have ht : t < (K i).length := hin (i, t) (by simp)
  have e1 : left K (A ++ (i, t) :: B) = left K A ++ (head K (i, t) :: ((recs K i).drop (t + 1) ++ left K B)) := by
    simp only [left, List.flatMap_append, List.flatMap_cons]
    rw [recs_drop K i t ht]; rfl
  have e2 : left K (A ++ (i, t + 1) :: B) = left K A ++ ((recs K i).drop (t + 1) ++ left K B) := by
    simp only [left, List.flatMap_append, List.flatMap_cons]
  rw [e2]
  refine asc_head hE (hp.trans ?_) fun x hx => ?_
  · rw [e1]; exact List.perm_middle
  · have gen : ∀ p ∈ A ++ (i, t) :: B, ∀ u, p.2 ≤ u → u < (K p.1).length → (key K (i, t) < key K p ∨ (key K (i, t) ≤ key K p ∧ (i < p.1 ∨ (i = p.1 ∧ t ≤ u)))) → ltT (head K (p.1, u)) (head K (i, t)) = false := fun p hp u h1 h2 h3 => by
      have hk := hK p hp u h1 h2
      have hk' : key K p ≤ key K (p.1, u) := hk
      refine decide_eq_false ?_
      show ¬ (key K (p.1, u) < key K (i, t) ∨ (key K (p.1, u) = key K (i, t) ∧ ((p.1 : Int) < (i : Int) ∨ ((p.1 : Int) = (i : Int) ∧ (u : Int) < (t : Int)))))
      omega
    have hA2 := List.pairwise_append.1 hasc
    have hB2 := List.pairwise_cons.1 hA2.2.1
    rcases List.mem_append.1 hx with hx | hx
    · obtain ⟨p, hpA, hxp⟩ := List.mem_flatMap.1 hx
      obtain ⟨u, h1, h2, rfl⟩ := mem_drop K _ _ hxp
      exact gen p (List.mem_append_left _ hpA) u h1 h2 (Or.inl (hA p hpA))
    · rcases List.mem_append.1 hx with hx | hx
      · obtain ⟨u, h1, h2, rfl⟩ := mem_drop K _ _ hx
        exact gen (i, t) (by simp) u (by simp; omega) h2 (Or.inr ⟨Int.le_refl _, Or.inr ⟨rfl, by omega⟩⟩)
      · obtain ⟨p, hpB, hxp⟩ := List.mem_flatMap.1 hx
        obtain ⟨u, h1, h2, rfl⟩ := mem_drop K _ _ hxp
        exact gen p (by simp [hpB]) u h1 h2 (Or.inr ⟨hB p hpB, Or.inl (hB2.1 p hpB)⟩)

/-- A source that has no record left may be struck. -/
theorem left_strike {K : Nat → List Int} {A B : List (Nat × Nat)} {i t : Nat} (h : (K i).length ≤ t) : left K (A ++ (i, t) :: B) = left K (A ++ B) := by
  simp only [left, List.flatMap_append, List.flatMap_cons]
  rw [List.drop_eq_nil_of_le (by rw [recs_length]; exact h)]
  rfl
end Go.Proofs.Ybulkbkdi
