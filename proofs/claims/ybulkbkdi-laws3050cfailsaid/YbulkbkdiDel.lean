/-
  Seat b3050a: slices.Delete of one source off the live ones, off the shelf.
-/
import Derived.Test.YbulkbkdiRow
import Derived.Shelf.SlGeneric
import Derived.Shelf.SlicesE.Delete
import Derived.Ground.SlgnProg
namespace Go.Proofs.Ybulkbkdi
open Go.Shelf Go.RowKit Go.Lib Go.Sort

set_option maxRecDepth 100000 in
shelf_lay_g SlLaysE.n45 Slgn 45 at Yba 18 as Yba.lay18

/-- A source as the interface holds it; none: nil. -/
def encS : Option Nat → Value
  | some p => .iface 39 (.pointer (some ⟨p, 0, none⟩))
  | none => .nilIface

theorem info46 : (Yba.prog.info? 46).map (fun i => i.size) = some 1 := by kernel_rfl

theorem delete_walk (W : World) (blk cap i : Nat) (d : Array (Option Nat)) (hH : Holds encS W blk 0 d) (hcap : d.size ≤ cap) (hm : cap < 100000) (hi : i < d.size) :
    Calls Yba.prog 18 #[.slice (some ⟨blk, 0, none⟩) d.size cap, .int .i64 i, .int .i64 ((i + 1 : Nat) : Int)] W fun e w' => e = .returned (.slice (some ⟨blk, 0, none⟩) (d.size - 1) cap) ∧ ∃ q, w' = putRow encS (Sort.ahead W q) blk 0 (d.toList.take i ++ d.toList.drop (i + 1) ++ [none]).toArray := by
  obtain ⟨i0, hi0, hz1⟩ : ∃ i0, Yba.prog.info? 46 = some i0 ∧ i0.size = 1 := by
    have h := info46
    cases he : Yba.prog.info? 46 with
    | none => rw [he] at h; simp at h
    | some i => rw [he] at h; simp at h; exact ⟨i, rfl, h⟩
  have h := AnyE.slices_Delete Yba.lay18 encS (fun x => by cases x <;> rfl) none Yba.zeroValue46 i0 hi0 hz1 blk 0 cap i (i + 1) d W hH hcap (by omega) (by omega) hi
  change Calls Yba.prog 18 _ _ _ at h
  rw [Nat.add_sub_cancel_left] at h
  exact h
end Go.Proofs.Ybulkbkdi
