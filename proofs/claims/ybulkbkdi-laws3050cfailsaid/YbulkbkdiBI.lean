/-
  Seat b3050a: what the sorts leave, as steps; the sources as the build lays them.
-/
import Derived.Test.YbulkbkdiRun
import Derived.Test.YbulkbkdiStab
import Derived.Test.YbulkbkdiPick
import Derived.Test.YbulkbkdiLog
namespace Go.Proofs.Ybulkbkdi
open Go.RowKit Go.Sort

theorem R.step {w wr : World} {blk off n : Nat} {d : Array Int} (h : R w blk off n d wr) : Step (· = blk) w wr := by
  obtain ⟨m, os, e⟩ := h.at'
  rw [e]
  refine ⟨rfl, rfl, rfl, by simp, fun k hk hne => ?_⟩
  rw [heap_grow_old _ _ (by simpa using hk)]
  simp only [putRow, mapBlock, Array.getElem?_modify]
  rw [if_neg (fun e => hne e.symm)]
  rfl

theorem S.step {w0 W : World} {blk off n : Nat} {d : Array Rec} (h : S w0 blk off n d W) : Step (· = blk) w0 W := by
  obtain ⟨m, os, e⟩ := h.sw
  rw [e]
  unfold sortWorldK putRowK
  refine ⟨rfl, rfl, rfl, by simp, fun k hk hne => ?_⟩
  rw [heap_grow_old _ _ (by simpa using hk)]
  simp only [putRow, mapBlock, Array.getElem?_modify]
  rw [if_neg (fun e => hne e.symm)]
  rfl

/-- The first i sources lie as the build lays them: the runs' row (rb), the sources' row (sb), each run's block (P) and keys' block (G, KV), their keys K. -/
structure BR (B n : Nat) (X : Nat → List Int) (i rb sb : Nat) (P G : Nat → Nat) (KV : Nat → Value) (K : Nat → List Int) (W : World) : Prop where
  runs : ∃ cur : Array Value, W.heap[rb]? = some (.cells cur 39 (0, 0)) ∧ cur.size = n ∧ ∀ j, j < i → cur[j]? = some (.pointer (some ⟨P j, 0, none⟩))
  srcs : ∃ cur : Array Value, W.heap[sb]? = some (.cells cur 46 (0, 0)) ∧ cur.size = n ∧ ∀ j, j < i → cur[j]? = some (.iface 39 (.pointer (some ⟨P j, 0, none⟩)))
  run : ∀ j, j < i → RunIs W (P j) (KV j) j (-1) 0 (-1) .nilIface (.slice none 0 0) (.slice none 0 0)
  keys : ∀ j, j < i → KeysAt W (G j) (KV j) (K j)
  perm : ∀ j, j < i → (K j).Perm (X j)
  up : ∀ j, j < i → ∀ t u, t ≤ u → u < (K j).length → (K j).getD t 0 ≤ (K j).getD u 0
  base : B ≤ rb ∧ B ≤ sb ∧ rb ≠ sb
  new : ∀ j, j < i → (B ≤ P j ∧ P j ≠ rb ∧ P j ≠ sb ∧ P j < W.heap.size) ∧ ((KV j = .slice none 0 0 ∧ G j = rb) ∨ (B ≤ G j ∧ G j ≠ rb ∧ G j ≠ sb ∧ G j < W.heap.size))
  apart : ∀ j k, j < i → k < i → j ≠ k → P j ≠ P k
  cross : ∀ j k, j < i → k < i → P j ≠ G k

/-- Block k is none of theirs. -/
def Off (i rb sb : Nat) (P G : Nat → Nat) (k : Nat) : Prop := k ≠ rb ∧ k ≠ sb ∧ ∀ j, j < i → k ≠ P j ∧ k ≠ G j

theorem KeysAt.keep {W W' : World} {g : Nat} {kv : Value} {xs : List Int} (h : KeysAt W g kv xs) (hs : W.heap.size ≤ W'.heap.size) (hb : W'.heap[g]? = W.heap[g]?) : KeysAt W' g kv xs := by
  rcases h with h | ⟨cap, h1, h2, h3⟩
  · exact Or.inl h
  · exact Or.inr ⟨cap, h1, by omega, fun t ht => by rw [World.cell?_of_block (w := W) hb]; exact h3 t ht⟩

theorem BR.keep {B n : Nat} {X : Nat → List Int} {i rb sb : Nat} {P G : Nat → Nat} {KV : Nat → Value} {K : Nat → List Int} {W W' : World} {F : Nat → Prop} (h : BR B n X i rb sb P G KV K W) (st : Step F W W') (hF : ∀ k, F k → k < W.heap.size → Off i rb sb P G k) : BR B n X i rb sb P G KV K W' := by
  have hsz := st.size
  have hrb : W'.heap[rb]? = W.heap[rb]? := by
    obtain ⟨cur, hc, _⟩ := h.runs
    exact st.block rb (lt_of hc) fun f => (hF rb f (lt_of hc)).1 rfl
  have hsb : W'.heap[sb]? = W.heap[sb]? := by
    obtain ⟨cur, hc, _⟩ := h.srcs
    exact st.block sb (lt_of hc) fun f => (hF sb f (lt_of hc)).2.1 rfl
  have hP : ∀ j, j < i → W'.heap[P j]? = W.heap[P j]? := fun j hj => by
    have := (h.new j hj).1.2.2.2
    exact st.block (P j) this fun f => ((hF (P j) f this).2.2 j hj).1 rfl
  have hG : ∀ j, j < i → W'.heap[G j]? = W.heap[G j]? := fun j hj => by
    rcases (h.new j hj).2 with ⟨_, e⟩ | ⟨_, _, _, this⟩
    · rw [e]; exact hrb
    · exact st.block (G j) this fun f => ((hF (G j) f this).2.2 j hj).2 rfl
  refine ⟨by rw [hrb]; exact h.runs, by rw [hsb]; exact h.srcs, fun j hj => ?_, fun j hj => (h.keys j hj).keep hsz (hG j hj), h.perm, h.up, h.base, fun j hj => ?_, h.apart, h.cross⟩
  · unfold RunIs; rw [hP j hj]; exact h.run j hj
  · obtain ⟨⟨a1, a2, a3, a4⟩, a5⟩ := h.new j hj
    exact ⟨⟨a1, a2, a3, by omega⟩, a5.elim Or.inl fun ⟨b1, b2, b3, b4⟩ => Or.inr ⟨b1, b2, b3, by omega⟩⟩

def upd {α : Type} (f : Nat → α) (i : Nat) (x : α) : Nat → α := fun j => if j = i then x else f j
theorem upd_same {α : Type} (f : Nat → α) (i : Nat) (x : α) : upd f i x i = x := by simp [upd]
theorem upd_lt {α : Type} (f : Nat → α) {i j : Nat} (x : α) (h : j < i) : upd f i x j = f j := by simp [upd, show j ≠ i by omega]

theorem BR.next {B n : Nat} {X : Nat → List Int} {i rb sb : Nat} {P G : Nat → Nat} {KV : Nat → Value} {K : Nat → List Int} {W : World} (h : BR B n X i rb sb P G KV K W) (hi : i < n) (hB : B ≤ W.heap.size) {g : Nat} {kv : Value} {ks : List Int} (hk : KeysAt W g kv ks) (hperm : ks.Perm (X i)) (hup : ∀ t u, t ≤ u → u < ks.length → ks.getD t 0 ≤ ks.getD u 0)
    (hg : (kv = .slice none 0 0 ∧ g = rb) ∨ (B ≤ g ∧ g < W.heap.size ∧ Off i rb sb P G g)) :
    BR B n X (i + 1) rb sb (upd P i W.heap.size) (upd G i g) (upd KV i kv) (upd K i ks) (((W.alloc (.cells #[kv, .int .u8 i, .int .i64 (-1), .int .i64 0, .int .i64 (-1), .nilIface, .slice none 0 0, .slice none 0 0] 38)).setCell ⟨rb, i, none⟩ (.pointer (some ⟨W.heap.size, 0, none⟩))).setCell ⟨sb, i, none⟩ (.iface 39 (.pointer (some ⟨W.heap.size, 0, none⟩)))) := by
  obtain ⟨cr, hcr, hcrn, hcrp⟩ := h.runs
  obtain ⟨cs, hcs, hcsn, hcsp⟩ := h.srcs
  have hrl := lt_of hcr
  have hsl := lt_of hcs
  have hne := h.base.2.2
  generalize hO : Obj.cells #[kv, .int .u8 i, .int .i64 (-1), .int .i64 0, .int .i64 (-1), .nilIface, .slice none 0 0, .slice none 0 0] 38 = O
  have e1 : ((W.alloc O).setCell ⟨rb, i, none⟩ (.pointer (some ⟨W.heap.size, 0, none⟩))).heap[rb]? = some (.cells (cr.setIfInBounds i (.pointer (some ⟨W.heap.size, 0, none⟩))) 39 (0, 0)) :=
    heap_setCell_same (by rw [Below.heap_alloc _ _ _ hrl]; exact hcr) i _
  have far : ∀ k, k ≠ rb → k ≠ sb → k < W.heap.size → (((W.alloc O).setCell ⟨rb, i, none⟩ (.pointer (some ⟨W.heap.size, 0, none⟩))).setCell ⟨sb, i, none⟩ (.iface 39 (.pointer (some ⟨W.heap.size, 0, none⟩)))).heap[k]? = W.heap[k]? := fun k h1 h2 h3 => by
    rw [Below.heap_setCell _ _ _ _ h2, Below.heap_setCell _ _ _ _ h1, Below.heap_alloc _ _ _ h3]
  have hnew : (((W.alloc O).setCell ⟨rb, i, none⟩ (.pointer (some ⟨W.heap.size, 0, none⟩))).setCell ⟨sb, i, none⟩ (.iface 39 (.pointer (some ⟨W.heap.size, 0, none⟩)))).heap[W.heap.size]? = some O := by
    rw [Below.heap_setCell _ _ _ _ (show W.heap.size ≠ sb by omega), Below.heap_setCell _ _ _ _ (show W.heap.size ≠ rb by omega)]
    exact alloc_new W O
  have hsz : (((W.alloc O).setCell ⟨rb, i, none⟩ (.pointer (some ⟨W.heap.size, 0, none⟩))).setCell ⟨sb, i, none⟩ (.iface 39 (.pointer (some ⟨W.heap.size, 0, none⟩)))).heap.size = W.heap.size + 1 := by simp
  have f1 : (((W.alloc O).setCell ⟨rb, i, none⟩ (.pointer (some ⟨W.heap.size, 0, none⟩))).setCell ⟨sb, i, none⟩ (.iface 39 (.pointer (some ⟨W.heap.size, 0, none⟩)))).heap[rb]? = some (.cells (cr.setIfInBounds i (.pointer (some ⟨W.heap.size, 0, none⟩))) 39 (0, 0)) := by
    rw [Below.heap_setCell _ _ _ _ hne]; exact e1
  have f2 : (((W.alloc O).setCell ⟨rb, i, none⟩ (.pointer (some ⟨W.heap.size, 0, none⟩))).setCell ⟨sb, i, none⟩ (.iface 39 (.pointer (some ⟨W.heap.size, 0, none⟩)))).heap[sb]? = some (.cells (cs.setIfInBounds i (.iface 39 (.pointer (some ⟨W.heap.size, 0, none⟩)))) 46 (0, 0)) :=
    heap_setCell_same (by rw [Below.heap_setCell _ _ _ _ (Ne.symm hne), Below.heap_alloc _ _ _ hsl]; exact hcs) i _
  generalize (((W.alloc O).setCell ⟨rb, i, none⟩ (.pointer (some ⟨W.heap.size, 0, none⟩))).setCell ⟨sb, i, none⟩ (.iface 39 (.pointer (some ⟨W.heap.size, 0, none⟩)))) = W5 at far hnew hsz f1 f2 ⊢
  have cases' : ∀ j, j < i + 1 → j = i ∨ j < i := fun j hj => by omega
  refine ⟨⟨_, f1, by simp [hcrn], fun j hj => ?_⟩, ⟨_, f2, by simp [hcsn], fun j hj => ?_⟩, fun j hj => ?_, fun j hj => ?_, fun j hj => ?_, fun j hj => ?_, h.base, fun j hj => ?_, fun j k hj hk hjk => ?_, fun j k hj hk => ?_⟩
  · rcases cases' j hj with e | e
    · subst e; rw [upd_same, Array.getElem?_setIfInBounds, if_pos rfl, if_pos (by omega)]
    · rw [upd_lt _ _ e, Array.getElem?_setIfInBounds, if_neg (by omega)]; exact hcrp j e
  · rcases cases' j hj with e | e
    · subst e; rw [upd_same, Array.getElem?_setIfInBounds, if_pos rfl, if_pos (by omega)]
    · rw [upd_lt _ _ e, Array.getElem?_setIfInBounds, if_neg (by omega)]; exact hcsp j e
  · rcases cases' j hj with e | e
    · subst e; rw [upd_same, upd_same]; unfold RunIs; rw [hnew, ← hO]
    · rw [upd_lt _ _ e, upd_lt _ _ e]
      obtain ⟨⟨a1, a2, a3, a4⟩, _⟩ := h.new j e
      unfold RunIs; rw [far _ a2 a3 a4]; exact h.run j e
  · rcases cases' j hj with e | e
    · subst e
      rw [upd_same, upd_same, upd_same]
      rcases hg with ⟨rfl, rfl⟩ | ⟨_, b2, b3, b4, _⟩
      · rcases hk with hk | ⟨_, hk, _⟩
        · exact Or.inl hk
        · cases hk
      · exact hk.keep (by omega) (far g b3 b4 b2)
    · rw [upd_lt _ _ e, upd_lt _ _ e, upd_lt _ _ e]
      rcases (h.new j e).2 with ⟨b1, b2⟩ | ⟨_, b2, b3, b4⟩
      · rcases h.keys j e with hk | ⟨_, hk, _⟩
        · exact Or.inl hk
        · rw [b1] at hk; cases hk
      · exact (h.keys j e).keep (by omega) (far _ b2 b3 b4)
  · rcases cases' j hj with e | e
    · subst e; rw [upd_same]; exact hperm
    · rw [upd_lt _ _ e]; exact h.perm j e
  · rcases cases' j hj with e | e
    · subst e; rw [upd_same]; exact hup
    · rw [upd_lt _ _ e]; exact h.up j e
  · rcases cases' j hj with e | e
    · subst e
      rw [upd_same, upd_same, upd_same]
      exact ⟨⟨hB, by omega, by omega, by omega⟩, hg.elim Or.inl fun ⟨b1, b2, b3, b4, _⟩ => Or.inr ⟨b1, b3, b4, by omega⟩⟩
    · rw [upd_lt _ _ e, upd_lt _ _ e, upd_lt _ _ e]
      obtain ⟨⟨a1, a2, a3, a4⟩, a5⟩ := h.new j e
      exact ⟨⟨a1, a2, a3, by omega⟩, a5.elim Or.inl fun ⟨b1, b2, b3, b4⟩ => Or.inr ⟨b1, b2, b3, by omega⟩⟩
  · rcases cases' j hj with e | e <;> rcases cases' k hk with e' | e'
    · omega
    · subst e; rw [upd_same, upd_lt _ _ e']; have := (h.new k e').1.2.2.2; omega
    · subst e'; rw [upd_same, upd_lt _ _ e]; have := (h.new j e).1.2.2.2; omega
    · rw [upd_lt _ _ e, upd_lt _ _ e']; exact h.apart j k e e' hjk
  · rcases cases' j hj with e | e <;> rcases cases' k hk with e' | e'
    · subst e; subst e'
      rw [upd_same, upd_same]
      rcases hg with ⟨_, rfl⟩ | ⟨_, b2, _⟩ <;> omega
    · subst e; rw [upd_same, upd_lt _ _ e']
      rcases (h.new k e').2 with ⟨_, b2⟩ | ⟨_, _, _, b4⟩ <;> omega
    · subst e'; rw [upd_same, upd_lt _ _ e]
      rcases hg with ⟨_, rfl⟩ | ⟨_, _, b3⟩
      · exact (h.new j e).1.2.1
      · exact fun x => ((b3.2.2 j e).1) x.symm
    · rw [upd_lt _ _ e, upd_lt _ _ e']; exact h.cross j k e e'
end Go.Proofs.Ybulkbkdi
