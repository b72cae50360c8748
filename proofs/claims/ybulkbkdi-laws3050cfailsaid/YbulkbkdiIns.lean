/-
  Seat b3050a: insertionSortCmpFunc at records, off the shelf.
-/
import Derived.Test.YbulkbkdiSym
import Derived.Shelf.SlGeneric
import Derived.Ground.SlsfProg
namespace Go.Proofs.Ybulkbkdi
open Go.Shelf Go.RowKit Go.Lib Go.Sort

shelf_lay_g SlLaysF0.n20 Slsf 20 at Yba 35 as Yba.lay35

theorem enters15 : ∀ args w, (callFunc 15 args).run Yba.prog w = .ok (.enter 15 args) w := enters_of Yba.func15 (by kernel_rfl) rfl

theorem cmpLays15 (blk off size : Nat) (w : World) : CmpLays Yba.prog 15 #[] enc3 3 (fun x y => cmpI x.1 y.1) blk off size w :=
  fun _ _ _ _ x y => closure_walk x y _

theorem ltOf_key : ltOf (fun x y : Rec => cmpI x.1 y.1) = ltK := by
  funext x y
  show decide _ = decide _
  rw [decide_eq_decide]
  exact cmpI_neg _ _

theorem ins_walk (w0 w : World) (blk off n cap a b : Nat) (d : Array Rec) (hS : S w0 blk off n d w) (hab : a ≤ b) (hb : b ≤ n) (hsz : n < 1152921504606846976) (htag : ∀ i j, a ≤ i → i < j → j < b → ltG d[i]! d[j]! = true) :
    Calls Yba.prog 35 #[.slice (some ⟨blk, off, none⟩) n cap, .int .i64 a, .int .i64 b, .func (.func 15) #[] #[]] w fun e w' => e = .returned (.tuple #[]) ∧ ∃ d', Hid (MergeOf a b d d') ∧ S w0 blk off n d' w' := by
  have hblk : blk < w.heap.size := Nat.lt_of_lt_of_le hS.old hS.sw.le
  have hn := hS.size
  have hcon := AnyQ.insertionSortCmpFunc Yba.lay35 3 Yba.isAgg34 Yba.sizeOf34 enc3 enc3_len enc3_one (fun x y => cmpI x.1 y.1) 15 #[] blk off cap a b d w enters15 (cmpLays15 blk off d.size w) hS.holds hblk hab (by omega) (by omega)
  change Calls Yba.prog 35 _ _ _ at hcon
  rw [hn, ltOf_key] at hcon
  refine hcon.mono ?_
  rintro e w' ⟨rfl, m, os, rfl⟩
  have hst := insertion_stable d a b hab (by omega) htag
  exact ⟨rfl, _, hide hst, ⟨hS.sw.on hS.old m _ os hst.1.1, by rw [hst.1.1]; exact hn, hS.base⟩⟩
end Go.Proofs.Ybulkbkdi
