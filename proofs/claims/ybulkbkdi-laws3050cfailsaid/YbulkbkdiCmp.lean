/-
  Seat b3050a: bytes.Compare at two slices of one byte; errors.New.
-/
import Derived.Test.YbulkbkdiRun
import Derived.Lib.Bytealg
namespace Go.Proofs.Ybulkbkdi
open Go.RowKit

def one8 (x : Int) : ByteArray := ByteArray.empty.push x.toNat.toUInt8

theorem run_bytes1 (P : Program) (W : World) (a : Nat) (x : Int) (ha : W.cell? ⟨a, 0, none⟩ = some (.int .u8 x)) :
    Sem.run P (Extern.Bytes.bytesOf (.slice (some ⟨a, 0, none⟩) 1 1)) W = .ok (one8 x) W := by
  simp [Extern.Bytes.bytesOf, Extern.Bytes.loadBytes, go_sem, ha, one8]

theorem cmp1 (x y : Int) (hx0 : 0 ≤ x) (hx1 : x < 256) (hy0 : 0 ≤ y) (hy1 : y < 256) : (Extern.BytealgCompare.cmp (one8 x) (one8 y) < 0) ↔ x < y := by
  obtain ⟨m, rfl⟩ : ∃ m : Fin 256, x = (m.val : Int) := ⟨⟨x.toNat, by omega⟩, by simp; omega⟩
  obtain ⟨n, rfl⟩ : ∃ n : Fin 256, y = (n.val : Int) := ⟨⟨y.toNat, by omega⟩, by simp; omega⟩
  have h : ∀ u v : UInt8, (Extern.BytealgCompare.cmp (ByteArray.empty.push u) (ByteArray.empty.push v) < 0) ↔ u < v := fun u v => by
    have e1 : (List.range (min (ByteArray.empty.push u).size (ByteArray.empty.push v).size)) = [0] := rfl
    unfold Extern.BytealgCompare.cmp
    rw [e1]
    have e2 : (ByteArray.empty.push u)[0]! = u := rfl
    have e3 : (ByteArray.empty.push v)[0]! = v := rfl
    simp only [List.find?, e2, e3]
    by_cases h : u = v
    · subst h; simp
    · have hb : (u != v) = true := by simp [h]
      simp only [hb]
      show ((if (ByteArray.empty.push u)[0]! < (ByteArray.empty.push v)[0]! then (-1 : Int) else 1) < 0) ↔ u < v
      rw [e2, e3]
      by_cases hl : u < v
      · rw [if_pos hl]; exact ⟨fun _ => hl, fun _ => by omega⟩
      · rw [if_neg hl]; exact ⟨fun h => by omega, fun h => absurd h hl⟩
  unfold one8
  rw [h]
  simp [UInt8.lt_iff_toNat_lt]

set_option maxHeartbeats 1600000 in
set_option maxRecDepth 1000000 in
theorem compare1_walk (W : World) (a b : Nat) (x y : Int) (hx0 : 0 ≤ x) (hx1 : x < 256) (hy0 : 0 ≤ y) (hy1 : y < 256) (ha : W.cell? ⟨a, 0, none⟩ = some (.int .u8 x)) (hb : W.cell? ⟨b, 0, none⟩ = some (.int .u8 y)) :
    Calls Yba.prog 17 #[.slice (some ⟨a, 0, none⟩) 1 1, .slice (some ⟨b, 0, none⟩) 1 1] W fun e w' => ∃ z : Int, e = .returned (.int .i64 z) ∧ Hid (z < 0 ↔ x < y) ∧ w' = W := by
  have hrun : Sem.run Yba.prog (Extern.BytealgCompare.compare #[.slice (some ⟨a, 0, none⟩) 1 1, .slice (some ⟨b, 0, none⟩) 1 1]) W = .ok (.int .i64 (Extern.BytealgCompare.cmp (one8 x) (one8 y))) W := by
    have e1 := run_bytes1 Yba.prog W a x ha
    have e2 := run_bytes1 Yba.prog W b y hb
    show Sem.run Yba.prog (do pure (goInt (Extern.BytealgCompare.cmp (← Extern.Bytes.bytesOf (.slice (some ⟨a, 0, none⟩) 1 1)) (← Extern.Bytes.bytesOf (.slice (some ⟨b, 0, none⟩) 1 1))))) W = _
    simp [go_sem, e1, e2, goInt]
  have hz := hide (cmp1 x y hx0 hx1 hy0 hy1)
  generalize Extern.BytealgCompare.cmp (one8 x) (one8 y) = z at hrun hz
  go_enter Yba.func17, Yba.ntmps17
  go_wp2
  rw [run_callFunc_extern Yba.func23 (by kernel_rfl) (by kernel_rfl) (by kernel_rfl) (e := Extern.BytealgCompare.compare) (by kernel_rfl), hrun]
  simp only [Result.andThen]
  rw [Oper.upon_value]
  go_wp2
  go_ret
  exact ⟨z, rfl, hz, rfl⟩

set_option maxHeartbeats 1600000 in
theorem errNew_walk (W : World) (s : ByteArray) : Calls Yba.prog 10 #[.string s] W fun e w' => e = .returned (.iface 56 (.pointer (some ⟨W.heap.size, 0, none⟩))) ∧ w' = W.alloc (.cells #[.string s] 58) := by
  go_enter Yba.func10, Yba.ntmps10
  go_wp2
  go_ret
  exact ⟨rfl, rfl⟩
end Go.Proofs.Ybulkbkdi
