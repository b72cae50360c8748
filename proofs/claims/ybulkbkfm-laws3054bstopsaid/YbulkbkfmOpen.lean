/-
  Seat b3054a: the slice of items that came in, opened.
-/
import Derived.Test.YbulkbkfmBuild
import Derived.Deep.SlicePairs
import Derived.ProofKit
import Derived.OpenShut
namespace Go.Proofs.Ybulkbkfm
open Go.RowKit Go.Deep Go.ChangeShapes Go.WideShapes

def strOf : Value → ByteArray
  | .string s => s
  | _ => ⟨#[]⟩

theorem items_open {H : Type} {enc : TypeId × Value → H} {W : World} {base : Nat} {sp : Nat → Bool} {held : Bool} {a0 : Option Addr} {len cap : Nat} {d : DataW H} {p : List MemPlace} (h : DataW.Trod enc Yba.prog W base sp held 22 (.slice a0 len cap) d p) :
    ∃ wh ct, Items W a0 len wh ct ∧ len ≤ 9223372036854775807 := by
  obtain ⟨fuel, hf⟩ := h
  rcases open_slice_pairs Yba.underlying22 Yba.underlying43 (by kernel_rfl) rfl rfl (by kernel_rfl) (by kernel_rfl) hf with ⟨hcs, _⟩ | ⟨a, l, c, m, n, V0, V1, D0, D1, P0, P1, hcs, _, hl, hm, hmm, _, hx⟩
  · simp [Value.cells] at hcs
    obtain ⟨rfl, rfl, rfl⟩ := hcs
    exact ⟨fun _ => 0, fun _ => ⟨#[]⟩, .inl rfl, by omega⟩
  · simp [Value.cells] at hcs
    obtain ⟨rfl, rfl, rfl⟩ := hcs
    have hlm : len ≤ m := by rw [hmm]; split <;> omega
    refine ⟨fun i => intOf (V0 i), fun i => strOf (V1 i), ?_, by unfold maxLen at hm; omega⟩
    by_cases h0 : len = 0
    · exact .inl h0
    · obtain ⟨c0, _⟩ := hx 0 (by omega)
      obtain ⟨b, off, spot⟩ := a
      have hspot : spot = none := by simpa [Addr.add] using World.cell?_spot c0
      subst hspot
      have hadd : ∀ i, (⟨b, off, none⟩ : Addr).add i = ⟨b, off + i, none⟩ := fun i => by unfold Addr.add; split <;> simp_all
      refine .inr ⟨b, off, rfl, ?_, fun i hi => ?_⟩
      · have := World.block_lt_of_cell? _ _ c0
        rw [hadd] at this
        exact this
      · obtain ⟨x0, x1, x2, x3⟩ := hx i (by omega)
        rw [hadd] at x0 x1
        obtain ⟨y, e0, _, wy⟩ := DataW.trod_int Yba.underlying5 x2
        obtain ⟨s, e1, _⟩ := DataW.trod_string Yba.underlying9 x3
        simp at e0 e1
        have := bounds_u8 wy
        have f0 : intOf (V0 i) = y := by rw [e0]; rfl
        have f1 : strOf (V1 i) = s := by rw [e1]; rfl
        refine ⟨?_, ?_, ?_⟩
        · show 0 ≤ intOf (V0 i) ∧ intOf (V0 i) ≤ 255
          rw [f0]
          omega
        · show _ = some (Value.int .u8 (intOf (V0 i)))
          rw [x0, f0, e0]
        · show _ = some (Value.string (strOf (V1 i)))
          rw [Nat.add_assoc, x1, f1, e1]

end Go.Proofs.Ybulkbkfm
