/-
  Seat b3050a: the rows that came in, opened.
-/
import Derived.Test.YbulkbkdiMergeLaw
import Derived.Deep.Matrix
import Derived.ProofKit
import Derived.OpenShut
namespace Go.Proofs.Ybulkbkdi
open Go.RowKit Go.Deep Go.ChangeShapes Go.WideShapes

theorem rows_open {H : Type} {enc : TypeId × Value → H} {W : World} {base : Nat} {held : Bool} {a0 : Option Addr} {len cap : Nat} {d : DataW H} {p : List MemPlace} (h : DataW.Trod enc Yba.prog W base (fun _ => true) held 22 (.slice a0 len cap) d p) :
    ∃ A C X, In W a0 len A C X ∧ len ≤ 9223372036854775807 := by
  obtain ⟨fuel, hf⟩ := h
  rcases open_int_rows Yba.underlying22 Yba.underlying32 Yba.underlying5 (by kernel_rfl) (by kernel_rfl) hf with ⟨hcs, _⟩ | ⟨a, l, c, A, L, C, Z, hcs, _, hl, hm, _, hx⟩
  · simp [Value.cells] at hcs
    obtain ⟨rfl, rfl, rfl⟩ := hcs
    exact ⟨fun _ => none, fun _ => 0, fun _ => [], ⟨fun i hi => by omega, fun i hi => by omega, fun i hi => by omega, fun i hi => by omega⟩, by omega⟩
  · simp [Value.cells] at hcs
    obtain ⟨rfl, rfl, rfl⟩ := hcs
    have hX : ∀ i, i < len → ((Z i).take (L i)).length = L i := fun i hi => by
      obtain ⟨_, h1, _, h2, _⟩ := hx i (by omega)
      rw [List.length_take]; omega
    refine ⟨A, C, fun i => (Z i).take (L i), ⟨fun i hi => ?_, fun i hi hA => ?_, fun i hi h0 b o s hA => ?_, fun i hi x hxm => ?_⟩, by unfold maxLen at hm; omega⟩
    · obtain ⟨c0, _⟩ := hx i (by omega)
      obtain ⟨c00, _⟩ := hx 0 (by omega)
      obtain ⟨b, off, spot⟩ := a
      have hspot : spot = none := by simpa [Addr.add] using World.cell?_spot c00
      subst hspot
      have hadd : (⟨b, off, none⟩ : Addr).add i = ⟨b, off + i, none⟩ := by unfold Addr.add; split <;> simp_all
      have hb := World.block_lt_of_cell? _ _ c0
      rw [hadd] at c0 hb
      exact ⟨b, off, rfl, hb, by rw [hX i hi]; exact c0⟩
    · obtain ⟨_, h1, _, _, _, h2, _⟩ := hx i (by omega)
      have := h2 hA
      have hz : L i = 0 := by omega
      show (Z i).take (L i) = []
      rw [hz]; rfl
    · obtain ⟨_, h1, _, h2, _, _, h3⟩ := hx i (by omega)
      have hl0 : 0 < L i := by have := hX i hi; omega
      obtain ⟨_, h4⟩ := h3 _ hA
      have c00 := h4 0 (by omega)
      have hspot : s = none := by simpa [Addr.add] using World.cell?_spot c00
      subst hspot
      refine ⟨rfl, fun t ht => ?_⟩
      have ht2 : t < L i := by have := hX i hi; omega
      have c0 := h4 t (by omega)
      have hadd : (⟨b, o, none⟩ : Addr).add t = ⟨b, o + t, none⟩ := by unfold Addr.add; split <;> simp_all
      have hb := World.block_lt_of_cell? _ _ c0
      rw [hadd] at c0 hb
      refine ⟨hb, ?_⟩
      rw [c0]
      simp [List.getElem_take, show t < (Z i).length by omega]
    · obtain ⟨_, _, _, _, hw, _⟩ := hx i (by omega)
      have := bounds_u8 (hw x (List.mem_of_mem_take hxm))
      omega
end Go.Proofs.Ybulkbkdi
