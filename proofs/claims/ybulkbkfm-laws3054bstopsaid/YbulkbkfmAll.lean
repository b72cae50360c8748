/-
  Seat b3054a: what the whole walk over the tree yields, as a list: each file once, with its path.
-/
import Derived.Test.YbulkbkfmLaid
namespace Go.Proofs.Ybulkbkfm
open Go.RowKit

section
variable {α : Type}

theorem flat_put (x : α) (f : Nat → List α) (a : Nat) : ∀ (idx : List Nat), idx.Nodup → a ∈ idx → (idx.flatMap fun i => if a = i then x :: f i else f i).Perm (x :: idx.flatMap f)
  | [], _, h => by simp at h
  | i :: idx, hn, h => by
    obtain ⟨h1, h2⟩ := List.nodup_cons.1 hn
    simp only [List.flatMap_cons]
    by_cases e : a = i
    · subst e
      rw [if_pos rfl]
      have : (idx.flatMap fun i => if a = i then x :: f i else f i) = idx.flatMap f := by
        simp only [List.flatMap]
        congr 1
        exact List.map_congr_left fun i hi => if_neg (fun (e : a = i) => h1 (e ▸ hi))
      rw [this]
      exact List.Perm.refl _
    · rw [if_neg e]
      have ih := flat_put x f a idx h2 (by rcases List.mem_cons.1 h with h' | h'; exact absurd h' e; exact h')
      exact (ih.append_left (f i)).trans List.perm_middle

theorem part_perm (key : α → Nat) (idx : List Nat) (hn : idx.Nodup) : ∀ (rs : List α), (∀ r ∈ rs, key r ∈ idx) → (idx.flatMap fun i => rs.filter fun r => key r == i).Perm rs
  | [], _ => by simp
  | r :: rs, h => by
    have e : (idx.flatMap fun i => (r :: rs).filter fun r => key r == i) = idx.flatMap fun i => if key r = i then r :: (rs.filter fun r => key r == i) else rs.filter fun r => key r == i := by
      congr 1
      funext i
      rw [List.filter_cons]
      by_cases hk : key r = i <;> simp [hk]
    rw [e]
    exact (flat_put r (fun i => rs.filter fun r => key r == i) (key r) idx hn (h r (by simp))).trans (List.Perm.cons r (part_perm key idx hn rs (fun q hq => h q (by simp [hq]))))

end

/-- All that the whole walk yields. -/
def AllB (rs : List Rec) : List (ByteArray × Nat) := Sy nmB kidsB (flOf rs) 3 0 ⟨#[]⟩

theorem jp1 : jp ⟨#[]⟩ (nmB 1) = pathB 1 := by decide +kernel
theorem jp2 : jp ⟨#[]⟩ (nmB 2) = pathB 2 := by decide +kernel
theorem jp3 : jp ⟨#[]⟩ (nmB 3) = pathB 3 := by decide +kernel
theorem jp4 : jp (pathB 1) (nmB 4) = pathB 4 := by decide +kernel
theorem jp5 : jp (pathB 2) (nmB 5) = pathB 5 := by decide +kernel
theorem jp6 : jp (pathB 3) (nmB 6) = pathB 6 := by decide +kernel

theorem fl_map (rs : List Rec) (i : Nat) : (flOf rs i).map (fun x => (pathB i, x.2)) = (rs.filter fun r => r.1 == i).map fun r => (pathB r.1, r.2.2) := by
  simp only [flOf, List.map_map]
  refine List.map_congr_left fun r hr => ?_
  have := (List.mem_filter.1 hr).2
  simp at this
  simp [this]

theorem all_perm (rs : List Rec) (h : ∀ r ∈ rs, r.1 < 7) : (AllB rs).Perm (rs.map fun r => (pathB r.1, r.2.2)) := by
  have hp := (part_perm (fun r : Rec => r.1) [0, 1, 4, 2, 5, 3, 6] (by decide) rs (fun r hr => by have := h r hr; simp; omega)).map fun r => (pathB r.1, r.2.2)
  refine List.Perm.trans ?_ hp
  have e0 : (⟨#[]⟩ : ByteArray) = pathB 0 := rfl
  simp only [AllB, Sy, kidsB, List.flatMap_cons, List.flatMap_nil, List.append_nil, jp1, jp2, jp3, jp4, jp5, jp6]
  simp only [e0, fl_map, List.map_append]
  simp
end Go.Proofs.Ybulkbkfm
