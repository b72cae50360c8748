/-
  Seat b3050a: a source in memory; (*run).next, (*run).current.
-/
import Derived.Test.YbulkbkdiRow
import Derived.Below
namespace Go.Proofs.Ybulkbkdi
open Go.RowKit

/-- W' is W, new blocks aside, but for the blocks F. -/
structure Step (F : Nat → Prop) (W W' : World) : Prop where
  os : W'.os = W.os
  tape : W'.tape = W.tape
  output : W'.output = W.output
  size : W.heap.size ≤ W'.heap.size
  block : ∀ k, k < W.heap.size → ¬ F k → W'.heap[k]? = W.heap[k]?

variable {F G : Nat → Prop} {W W1 W2 : World}
theorem Step.refl (F : Nat → Prop) (W : World) : Step F W W := ⟨rfl, rfl, rfl, Nat.le_refl _, fun _ _ _ => rfl⟩
theorem Step.trans (h : Step F W W1) (g : Step G W1 W2) (hG : ∀ k, k < W.heap.size → G k → F k) : Step F W W2 :=
  ⟨g.os.trans h.os, g.tape.trans h.tape, g.output.trans h.output, Nat.le_trans h.size g.size, fun k hk hF => (g.block k (Nat.lt_of_lt_of_le hk h.size) (fun x => hF (hG k hk x))).trans (h.block k hk hF)⟩
theorem Step.mono (h : Step F W W1) (hG : ∀ k, k < W.heap.size → F k → G k) : Step G W W1 := ⟨h.os, h.tape, h.output, h.size, fun k hk hF => h.block k hk fun x => hF (hG k hk x)⟩
theorem Step.alloc (h : Step F W W1) (o : Obj) : Step F W (W1.alloc o) :=
  ⟨h.os, h.tape, h.output, by have := h.size; simp; omega, fun k hk hF => by rw [Below.heap_alloc _ _ _ (by have := h.size; omega)]; exact h.block k hk hF⟩
theorem Step.setCell (h : Step F W W1) {p : Addr} (hp : F p.block ∨ W.heap.size ≤ p.block) (v : Value) : Step F W (W1.setCell p v) :=
  ⟨h.os, h.tape, h.output, by have := h.size; simp; omega, fun k hk hF => by
    rw [Below.heap_setCell _ _ _ _ (by rintro rfl; exact hp.elim hF (fun hp => absurd hk (by omega)))]; exact h.block k hk hF⟩
theorem Step.drewN (h : Step F W W1) (m : Nat) : Step F W (W1.drewN m) := ⟨h.os, h.tape, h.output, h.size, h.block⟩
theorem Step.below {B : Nat} (h : Step F W W1) (hF : ∀ k, F k → B ≤ k) (hB : B ≤ W.heap.size) : Below B W W1 := ⟨h.os, h.tape, h.output, h.size, fun k hk => h.block k (by omega) fun x => by have := hF k x; omega⟩

/-- Source p: its keys, number, counters, error, current key and value. -/
def RunIs (W : World) (p : Nat) (kv : Value) (id at' calls failAt : Int) (err key val : Value) : Prop :=
  W.heap[p]? = some (.cells #[kv, .int .u8 id, .int .i64 at', .int .i64 calls, .int .i64 failAt, err, key, val] 38 (0, 0))

/-- A slice of bytes whose array is block g from its head on. -/
def KeysAt (W : World) (g : Nat) (kv : Value) (xs : List Int) : Prop :=
  (kv = .slice none 0 0 ∧ xs = []) ∨ ∃ cap, kv = .slice (some ⟨g, 0, none⟩) xs.length cap ∧ g < W.heap.size ∧ ∀ t (h : t < xs.length), W.cell? ⟨g, t, none⟩ = some (.int .u8 xs[t])

theorem cell_of {W : World} {p : Nat} {cs : Array Value} {e : TypeId} {fr : Nat × Nat} (h : W.heap[p]? = some (.cells cs e fr)) (t : Nat) : W.cell? ⟨p, t, none⟩ = cs[t]? := by
  simp [World.cell?, h]
theorem frozen_of {W : World} {p : Nat} {cs : Array Value} {e : TypeId} (h : W.heap[p]? = some (.cells cs e (0, 0))) (t : Nat) : W.frozen? ⟨p, t, none⟩ = false := by
  simp [World.frozen?, h]
theorem lt_of {W : World} {p : Nat} {o : Obj} (h : W.heap[p]? = some o) : p < W.heap.size := (Array.getElem?_eq_some_iff.1 h).1

theorem heap_setCell_same {W : World} {p : Nat} {cs : Array Value} {e : TypeId} {fr : Nat × Nat} (h : W.heap[p]? = some (.cells cs e fr)) (t : Nat) (v : Value) :
    (W.setCell ⟨p, t, none⟩ v).heap[p]? = some (.cells (cs.setIfInBounds t v) e fr) := by
  rw [Sort.setCell_eq]
  simp [Sort.mapBlock, Array.getElem?_modify, h, Sort.onCells]

set_option maxHeartbeats 1600000 in
set_option maxRecDepth 1000000 in
theorem current_walk (W : World) (p : Nat) (kv : Value) (id at' calls failAt : Int) (err : Value) (kq vq : Option Addr) (kn kc vn vc : Nat) (h : RunIs W p kv id at' calls failAt err (.slice kq kn kc) (.slice vq vn vc)) :
    Calls Yba.prog 60 #[.pointer (some ⟨p, 0, none⟩)] W fun e w' => e = .returned (.tuple #[.slice kq kn kc, .slice vq vn vc]) ∧ ∃ m, w' = W.drewN m := by
  have c6 : W.cell? ⟨p, 6, none⟩ = some (.slice kq kn kc) := cell_of h 6
  have c7 : W.cell? ⟨p, 7, none⟩ = some (.slice vq vn vc) := cell_of h 7
  clear h
  go_enter Yba.func60, Yba.ntmps60
  go_wp2
  go_region
  all_goals go_wp2
  go_ret2
  exact ⟨rfl, 1, rfl⟩

/-- The call of next that fails. -/
theorem next_fail (W : World) (p : Nat) (kv : Value) (id at' calls failAt : Int) (err : Value) (key val : Value) (ert : TypeId) (erv : Value) (he : err = .iface ert erv) (hcf : calls = failAt) (hc0 : 0 ≤ calls) (hc1 : calls < 100000) (h : RunIs W p kv id at' calls failAt err key val) :
    Calls Yba.prog 61 #[.pointer (some ⟨p, 0, none⟩)] W fun e w' => e = .returned (.tuple #[.bool false, err]) ∧ Step (· = p) W w' ∧ RunIs w' p kv id at' (calls + 1) failAt err key val := by
  have c3 : W.cell? ⟨p, 3, none⟩ = some (.int .i64 calls) := cell_of h 3
  have c4 : W.cell? ⟨p, 4, none⟩ = some (.int .i64 failAt) := cell_of h 4
  have c5 : W.cell? ⟨p, 5, none⟩ = some err := cell_of h 5
  have f3 := frozen_of h 3
  subst he
  subst hcf
  have H := hide h
  clear h
  go_enter Yba.func61, Yba.ntmps61
  go_wp2
  go_region
  all_goals go_wp2
  all_goals go_region
  all_goals go_wp2
  go_ret2
  refine ⟨rfl, ?_, ?_⟩
  · exact (((Step.refl (· = p) W).drewN 1).setCell (p := ⟨p, 3, none⟩) (Or.inl rfl) _).drewN 1
  · exact heap_setCell_same (W := W) H.out 3 _
/-- The call of next at the end of the keys. -/
theorem next_end (W : World) (p : Nat) (kq : Option Addr) (kn kc : Nat) (id at' calls failAt : Int) (err : Value) (key val : Value) (hcf : calls ≠ failAt) (hc0 : 0 ≤ calls) (hc1 : calls < 100000) (ha0 : -1 ≤ at') (ha1 : at' < 100000) (hend : (kn : Int) ≤ at' + 1) (h : RunIs W p (.slice kq kn kc) id at' calls failAt err key val) :
    Calls Yba.prog 61 #[.pointer (some ⟨p, 0, none⟩)] W fun e w' => e = .returned (.tuple #[.bool false, .nilIface]) ∧ Step (· = p) W w' ∧ RunIs w' p (.slice kq kn kc) id (at' + 1) (calls + 1) failAt err key val := by
  have c0 : W.cell? ⟨p, 0, none⟩ = some (.slice kq kn kc) := cell_of h 0
  have c2 : W.cell? ⟨p, 2, none⟩ = some (.int .i64 at') := cell_of h 2
  have c3 : W.cell? ⟨p, 3, none⟩ = some (.int .i64 calls) := cell_of h 3
  have c4 : W.cell? ⟨p, 4, none⟩ = some (.int .i64 failAt) := cell_of h 4
  have f2 := frozen_of h 2
  have f3 := frozen_of h 3
  have H := hide h
  clear h
  go_enter Yba.func61, Yba.ntmps61
  go_wp2
  go_region
  all_goals go_wp2
  all_goals go_region
  all_goals go_wp2
  go_ret2
  refine ⟨rfl, ?_, ?_⟩
  · exact ((((Step.refl (· = p) W).drewN 1).setCell (p := ⟨p, 3, none⟩) (Or.inl rfl) _).setCell (p := ⟨p, 2, none⟩) (Or.inl rfl) _).drewN 1
  · exact heap_setCell_same (W := W.setCell ⟨p, 3, none⟩ _) (heap_setCell_same (W := W) H.out 3 _) 2 _

theorem alloc_new (w : World) (o : Obj) : (w.alloc o).heap[w.heap.size]? = some o := by show (w.heap.push o)[w.heap.size]? = some o; exact Array.getElem?_push_size

set_option maxHeartbeats 3200000 in
set_option maxRecDepth 1000000 in
/-- The call of next that comes to a record. -/
theorem next_rec (W : World) (p g : Nat) (kn kc : Nat) (id at' calls failAt : Int) (err : Value) (key val : Value) (x : Int) (t : Nat) (hcf : calls ≠ failAt) (hc0 : 0 ≤ calls) (hc1 : calls < 100000) (hat : at' + 1 = t) (ht : t < kn) (ht2 : t < 256) (hx : W.cell? ⟨g, t, none⟩ = some (.int .u8 x)) (hgp : g ≠ p) (h : RunIs W p (.slice (some ⟨g, 0, none⟩) kn kc) id at' calls failAt err key val) :
    Calls Yba.prog 61 #[.pointer (some ⟨p, 0, none⟩)] W fun e w' => e = .returned (.tuple #[.bool true, .nilIface]) ∧ Step (· = p) W w' ∧ ∃ kb vb, W.heap.size ≤ kb ∧ W.heap.size ≤ vb ∧ w'.heap[kb]? = some (.cells #[.int .u8 x] 5 (0, 0)) ∧ w'.heap[vb]? = some (.cells #[.int .u8 id, .int .u8 t] 5 (0, 0)) ∧ RunIs w' p (.slice (some ⟨g, 0, none⟩) kn kc) id t (calls + 1) failAt err (.slice (some ⟨kb, 0, none⟩) 1 1) (.slice (some ⟨vb, 0, none⟩) 2 2) := by
  have c0 : W.cell? ⟨p, 0, none⟩ = some (.slice (some ⟨g, 0, none⟩) kn kc) := cell_of h 0
  have c1 : W.cell? ⟨p, 1, none⟩ = some (.int .u8 id) := cell_of h 1
  have c2 : W.cell? ⟨p, 2, none⟩ = some (.int .i64 at') := cell_of h 2
  have c3 : W.cell? ⟨p, 3, none⟩ = some (.int .i64 calls) := cell_of h 3
  have c4 : W.cell? ⟨p, 4, none⟩ = some (.int .i64 failAt) := cell_of h 4
  have c6 : W.cell? ⟨p, 6, none⟩ = some key := cell_of h 6
  have c7 : W.cell? ⟨p, 7, none⟩ = some val := cell_of h 7
  have f2 := frozen_of h 2
  have f3 := frozen_of h 3
  have f6 := frozen_of h 6
  have f7 := frozen_of h 7
  have hp : p < W.heap.size := lt_of h
  have hp1 : p < W.heap.size + 1 := by omega
  have hg : g < W.heap.size := by
    rcases Nat.lt_or_ge g W.heap.size with h | h
    · exact h
    · simp [World.cell?, Array.getElem?_eq_none h] at hx
  have hg1 : g < W.heap.size + 1 := by omega
  have hat0 : -1 ≤ at' := by omega
  have hat1 : at' < 256 := by omega
  have H := hide h
  clear h
  go_enter Yba.func61, Yba.ntmps61
  go_wp2
  go_region
  all_goals go_wp2
  all_goals go_region
  all_goals go_wp2
  all_goals go_region
  all_goals go_wp2
  all_goals go_region
  all_goals go_wp2
  go_ret2
  refine ⟨rfl, ?_, W.heap.size, W.heap.size + 1, Nat.le_refl _, Nat.le_succ _, ?_, ?_, ?_⟩
  · exact (((((((Step.refl (· = p) W).setCell (p := ⟨p, 3, none⟩) (Or.inl rfl) _).setCell (p := ⟨p, 2, none⟩) (Or.inl rfl) _).setCell (p := ⟨p, 6, none⟩) (Or.inl rfl) _).setCell (p := ⟨p, 7, none⟩) (Or.inl rfl) _).alloc _).alloc _).drewN 4
  · show (World.alloc (World.alloc _ _) _).heap[W.heap.size]? = _
    rw [Below.heap_alloc _ _ _ (by simp)]
    have e := (alloc_new ((((W.setCell ⟨p, 3, none⟩ (.int .i64 (calls + 1))).setCell ⟨p, 2, none⟩ (.int .i64 t)).setCell ⟨p, 6, none⟩ (.slice (some ⟨W.heap.size, 0, none⟩) 1 1)).setCell ⟨p, 7, none⟩ (.slice (some ⟨W.heap.size + 1, 0, none⟩) 2 2)) (.cells #[.int .u8 x] 5 (0, 0)))
    simpa using e
  · show (World.alloc (World.alloc _ _) _).heap[W.heap.size + 1]? = _
    have e := (alloc_new (World.alloc ((((W.setCell ⟨p, 3, none⟩ (.int .i64 (calls + 1))).setCell ⟨p, 2, none⟩ (.int .i64 t)).setCell ⟨p, 6, none⟩ (.slice (some ⟨W.heap.size, 0, none⟩) 1 1)).setCell ⟨p, 7, none⟩ (.slice (some ⟨W.heap.size + 1, 0, none⟩) 2 2)) (.cells #[.int .u8 x] 5 (0, 0))) (.cells #[.int .u8 id, .int .u8 t] 5 (0, 0)))
    simpa using e
  · show (World.alloc (World.alloc _ _) _).heap[p]? = _
    rw [Below.heap_alloc _ _ _ (by simp; omega), Below.heap_alloc _ _ _ (by simp; omega)]
    exact heap_setCell_same (heap_setCell_same (heap_setCell_same (heap_setCell_same (W := W) H.out 3 _) 2 _) 6 _) 7 _
end Go.Proofs.Ybulkbkdi
