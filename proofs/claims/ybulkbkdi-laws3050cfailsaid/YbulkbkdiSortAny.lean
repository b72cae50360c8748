/-
  Seat b3050a: slices.Sort of the cloned keys, whatever they are.
-/
import Derived.Test.YbulkbkdiKeys
import Derived.Test.YbulkbkdiBI
namespace Go.Proofs.Ybulkbkdi
open Go.RowKit Go.Sort

theorem sort_any (W : World) (base rb : Nat) (v : Value) (xs : List Int) (hlen : xs.length < 100000) (h : W.ownsRow base 5 1 v xs.length (xs.map (Value.int .u8))) :
    ∃ q cap, v = .slice q xs.length cap ∧ Calls Yba.prog 13 #[.slice q xs.length cap] W fun e w' => e = .returned (.tuple #[]) ∧ ∃ (ys : List Int) (g : Nat), Hid (ys.Perm xs ∧ ys.length = xs.length ∧ ∀ t u, t ≤ u → u < ys.length → ys.getD t 0 ≤ ys.getD u 0) ∧ KeysAt w' g v ys ∧
      ((v = .slice none 0 0 ∧ g = rb ∧ w' = W) ∨ (base ≤ g ∧ g < W.heap.size ∧ v.ownBlock = some g ∧ Step (· = g) W w')) := by
  rcases h.2 with ⟨rfl, h0⟩ | ⟨g, cap, cur, rfl, hb, hg, hcap, hmax, hcs, htake⟩
  · have hx : xs = [] := List.eq_nil_of_length_eq_zero h0
    subst hx
    refine ⟨none, 0, rfl, (sort_none none 0 W).mono ?_⟩
    rintro e w' ⟨rfl, rfl⟩
    exact ⟨rfl, [], rb, hide ⟨List.Perm.refl _, rfl, fun t u _ hu => absurd hu (by simp)⟩, Or.inl ⟨rfl, rfl⟩, Or.inl ⟨rfl, rfl, rfl⟩⟩
  · have hgl := lt_of hg
    have hH : Holds e8 W g 0 xs.toArray := fun j hj => by
      have hj2 : j < xs.length := by simpa using hj
      have hc := h.cellAt j (by omega)
      rw [Nat.zero_add]
      refine ⟨?_, frozen_of hg j⟩
      rw [hc, List.getElem?_map, List.getElem?_eq_getElem hj2]
      simp [getElem!_pos, hj2]
    have hR := R.start hH hgl
    rw [show xs.toArray.size = xs.length by simp] at hR
    refine ⟨some ⟨g, 0, none⟩, cap, rfl, (sort_walk W W g 0 xs.length cap xs.toArray hR (by omega)).mono ?_⟩
    rintro e w' ⟨rfl, d, hd, hRd⟩
    have hds : d.size = xs.length := hRd.size
    have hp : d.toList.Perm xs := by
      have := hd.out.1.2.2
      rw [show xs.length = xs.toArray.size by simp] at this
      rw [show d.extract 0 xs.toArray.size = d by rw [show xs.toArray.size = d.size by simp [hds]]; simp, show xs.toArray.extract 0 xs.toArray.size = xs.toArray by simp] at this
      simpa using this
    refine ⟨rfl, d.toList, g, hide ⟨hp, by simp [hds], fun t u htu hu => ?_⟩, Or.inr ⟨cap, by simp [hds], hRd.here, fun t ht => ?_⟩, Or.inr ⟨hb, hgl, rfl, hRd.step⟩⟩
    · have hu2 : u < d.size := by simpa using hu
      rcases Nat.eq_or_lt_of_le htu with e | e
      · rw [e]; exact Int.le_refl _
      · have := hd.out.2 t u (Nat.zero_le _) e (by omega)
        simp only [ltInt, decide_eq_false_iff_not] at this
        rw [getElem!_pos d u hu2, getElem!_pos d t (by omega)] at this
        simp [hu2, show t < d.size by omega]
        omega
    · have ht2 : t < d.size := by simpa using ht
      have := hRd.cell t (by omega)
      rw [Nat.zero_add, getElem!_pos d t ht2] at this
      simpa using this
end Go.Proofs.Ybulkbkdi
