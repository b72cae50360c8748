/-
  Seat b3050a: mergeSources' world, and what its steps leave.
-/
import Derived.Test.YbulkbkdiPl
import Derived.Test.YbulkbkdiDel
import Derived.Test.YbulkbkdiLog
import Derived.Test.YbulkbkdiCmp
namespace Go.Proofs.Ybulkbkdi
open Go.RowKit Go.Sort

/-- What is asked of the callback. -/
def CB (g : Nat) (bd : Array Value) (B lb mb : Nat) (mo : Obj) (cont : Nat → Bool) : Prop :=
  ∀ (W : World) (lv : Value) (l : List Rec) (r : Rec) (kb vb : Nat), LogAt W B lb lv l → B ≤ W.heap.size → l.length < 100000 → lv.ownBlock ≠ some lb → lv.ownBlock ≠ some mb → W.heap[mb]? = some mo → lv.ownBlock ≠ some kb → lv.ownBlock ≠ some vb → W.heap[kb]? = some (.cells #[.int .u8 r.1] 5 (0, 0)) → W.heap[vb]? = some (.cells #[.int .u8 r.2.1, .int .u8 r.2.2] 5 (0, 0)) →
    Calls Yba.prog g (#[.slice (some ⟨kb, 0, none⟩) 1 1, .slice (some ⟨vb, 0, none⟩) 2 2] ++ bd) W fun e w' => e = .returned (.bool (cont (l.length + 1))) ∧ Step (fun k => k = lb ∨ lv.ownBlock = some k) W w' ∧ ∃ lv', LogAt w' B lb lv' (l ++ [r]) ∧ ∀ k, lv'.ownBlock = some k → lv.ownBlock = some k ∨ W.heap.size ≤ k

/-- The live sources' slice: its array is block N0. -/
def LiveAt (W : World) (N0 n : Nat) (P : Nat → Nat) (ids : List Nat) : Prop := W.ownsRow N0 46 1 (.slice (some ⟨N0, 0, none⟩) ids.length n) ids.length (ids.map fun i => encS (some (P i)))

/-- The names of mergeSources' blocks. -/
structure Names (N0 n : Nat) (P G : Nat → Nat) (sb lb mb : Nat) : Prop where
  lay : Lay N0 n P G
  sbl : sb < N0
  lbl : lb < N0
  mbl : mb < N0
  lbsb : lb ≠ sb
  lbmb : lb ≠ mb
  off : ∀ j, j < n → lb ≠ P j ∧ lb ≠ G j ∧ sb ≠ P j ∧ mb ≠ P j

/-- mergeSources' world: sources, log, live ones, what the callback reads; all else as it was. -/
structure WS (W0 : World) (n : Nat) (P G : Nat → Nat) (KV : Nat → Value) (K : Nat → List Int) (fa : Nat → Int) (er : Nat → Value) (lb mb : Nat) (mo : Obj) (ids : List Nat) (l : List Rec) (lv : Value) (cnt : Nat → Nat) (W : World) : Prop where
  ms : MS W0.heap.size n P G KV K fa er lv.ownBlock cnt W
  log : LogAt W (W0.heap.size + 1) lb lv l
  live : LiveAt W W0.heap.size n P ids
  mbk : W.heap[mb]? = some mo
  step : Step (fun k => k = lb ∨ ∃ j, j < n ∧ k = P j) W0 W

variable {W0 W W' : World} {n : Nat} {P G : Nat → Nat} {KV : Nat → Value} {K : Nat → List Int} {fa : Nat → Int} {er : Nat → Value} {sb lb mb : Nat} {mo : Obj} {ids : List Nat} {l : List Rec} {lv : Value} {cnt : Nat → Nat}

theorem WS.size (h : WS W0 n P G KV K fa er lb mb mo ids l lv cnt W) : W0.heap.size < W.heap.size := (h.live.lt _ rfl).2
theorem WS.ob (h : WS W0 n P G KV K fa er lb mb mo ids l lv cnt W) : ∀ k, lv.ownBlock = some k → W0.heap.size < k ∧ k < W.heap.size := fun k hk => h.log.2.lt k hk

theorem WS.cell (h : WS W0 n P G KV K fa er lb mb mo ids l lv cnt W) {t : Nat} (ht : t < ids.length) : W.cell? ⟨W0.heap.size, t, none⟩ = some (.iface 39 (.pointer (some ⟨P ids[t], 0, none⟩))) := by
  have := World.ownsRow.cellAt h.live t (by omega)
  rw [this, List.getElem?_map, List.getElem?_eq_getElem ht]
  rfl

/-- A step that touches only live's array, the log's block or array, or a source, kept from all others. -/
theorem WS.drewN (h : WS W0 n P G KV K fa er lb mb mo ids l lv cnt W) (m : Nat) : WS W0 n P G KV K fa er lb mb mo ids l lv cnt (W.drewN m) :=
  ⟨⟨h.ms.src, h.ms.keys, h.ms.pass, h.ms.size⟩, h.log, h.live, h.mbk, h.step.drewN m⟩

/-- Source j has moved. -/
theorem WS.moved (N : Names W0.heap.size n P G sb lb mb) (h : WS W0 n P G KV K fa er lb mb mo ids l lv cnt W) {j : Nat} (hj : j < n) (st : Step (· = P j) W W') {cnt' : Nat → Nat} (hm : MS W0.heap.size n P G KV K fa er lv.ownBlock cnt' W') : WS W0 n P G KV K fa er lb mb mo ids l lv cnt' W' := by
  have hp := N.lay.p j hj
  have hs := h.size
  obtain ⟨o1, o2, o3, o4⟩ := N.off j hj
  refine ⟨hm, ⟨?_, ownsRow_step h.log.2 st fun k hk e => ?_⟩, ownsRow_step h.live st fun k hk e => ?_, ?_, h.step.trans st fun k _ e => Or.inr ⟨j, hj, e⟩⟩
  · rw [st.block lb (lt_of h.log.1) o1]; exact h.log.1
  · have := (h.ob k hk).1; omega
  · have := (h.live.lt k hk).1; omega
  · rw [st.block mb (lt_of h.mbk) o4]; exact h.mbk

/-- The callback has run. -/
theorem WS.yielded (N : Names W0.heap.size n P G sb lb mb) (h : WS W0 n P G KV K fa er lb mb mo ids l lv cnt W) {lv' : Value} {l' : List Rec} (st : Step (fun k => k = lb ∨ lv.ownBlock = some k) W W') (hl : LogAt W' (W0.heap.size + 1) lb lv' l') (ho : ∀ k, lv'.ownBlock = some k → lv.ownBlock = some k ∨ W.heap.size ≤ k) : WS W0 n P G KV K fa er lb mb mo ids l' lv' cnt W' := by
  have hs := h.size
  have hl1 := N.lbl
  have hm1 := N.mbl
  refine ⟨h.ms.keep N.lay st (fun k hk hkl => ?_) ho, hl, ownsRow_step h.live st fun k hk e => ?_, ?_, h.step.trans st fun k hk e => ?_⟩
  · rcases hk with rfl | hk
    · exact Or.inl ⟨by omega, fun j hj => ⟨(N.off j hj).1, (N.off j hj).2.1⟩⟩
    · exact Or.inr ⟨(h.ob k hk).1, hk⟩
  · simp only [Value.ownBlock, Option.some.injEq] at hk
    rcases e with e | e
    · omega
    · have := (h.ob k e).1; omega
  · rw [st.block mb (lt_of h.mbk) ?_]
    · exact h.mbk
    · rintro (e | e)
      · exact N.lbmb e.symm
      · have := (h.ob mb e).1; omega
  · rcases e with e | e
    · exact Or.inl e
    · have := (h.ob k e).1; omega

theorem putRow_step (w : World) (q blk : Nat) (d : Array (Option Nat)) : Step (· = blk) w (putRow encS (Sort.ahead w q) blk 0 d) := by
  refine ⟨rfl, rfl, rfl, by simp, fun k hk hne => ?_⟩
  simp only [putRow, mapBlock, Array.getElem?_modify]
  rw [if_neg (fun e => hne e.symm)]
  rfl

/-- A source has been struck. -/
theorem WS.struck (N : Names W0.heap.size n P G sb lb mb) (h : WS W0 n P G KV K fa er lb mb mo ids l lv cnt W) {m q : Nat} (hm : m < ids.length) : WS W0 n P G KV K fa er lb mb mo (ids.take m ++ ids.drop (m + 1)) l lv cnt
    (putRow encS (Sort.ahead W q) W0.heap.size 0 (((ids.map fun i => some (P i)).toArray.toList.take m ++ (ids.map fun i => some (P i)).toArray.toList.drop (m + 1) ++ [none]).toArray)) := by
  have st := putRow_step W q W0.heap.size (((ids.map fun i => some (P i)).toArray.toList.take m ++ (ids.map fun i => some (P i)).toArray.toList.drop (m + 1) ++ [none]).toArray)
  have hs := h.size
  have hm1 := N.mbl
  have hl1 := N.lbl
  refine ⟨h.ms.keep N.lay st (fun k hk hkl => ?_) (fun k hk => Or.inl hk), ⟨?_, ownsRow_step h.log.2 st fun k hk e => ?_⟩, ?_, ?_, h.step.trans st fun k hk e => ?_⟩
  · subst hk
    exact Or.inl ⟨Nat.le_refl _, fun j hj => ⟨by have := N.lay.p j hj; omega, by have := N.lay.g j hj; omega⟩⟩
  · rw [st.block lb (lt_of h.log.1) (by omega)]; exact h.log.1
  · have := (h.ob k hk).1; omega
  · obtain ⟨g, cap, cur, hv, hb, hh, hc1, hc2, hc3, hc4⟩ := h.live.2.resolve_left (by rintro ⟨e, _⟩; cases e)
    cases hv
    have hlen : (ids.take m ++ ids.drop (m + 1)).length = ids.length - 1 := by simp; omega
    refine ⟨by simp, Or.inr ⟨_, n, putCells encS 0 (((ids.map fun i => some (P i)).toArray.toList.take m ++ (ids.map fun i => some (P i)).toArray.toList.drop (m + 1) ++ [none]).toArray) cur, rfl, Nat.le_refl _, ?_, by omega, hc2, by simp [putCells, hc3], ?_⟩⟩
    · have hh' : (Sort.ahead W q).heap[W0.heap.size]? = some (.cells cur 46 (0, 0)) := hh
      simp only [putRow, mapBlock, Array.getElem?_modify, if_true, hh', Option.map_some, onCells]
    · apply List.ext_getElem?
      intro k
      rw [Nat.mul_one, List.getElem?_take]
      by_cases hk : k < (ids.take m ++ ids.drop (m + 1)).length
      · rw [if_pos hk]
        have hkc : k < cur.size := by omega
        have hk1 : k < ids.length - 1 := by omega
        rw [Array.getElem?_toList]
        simp only [putCells, Array.getElem?_mapIdx]
        rw [Array.getElem?_eq_getElem hkc, Option.map_some, if_pos (by simp; omega)]
        rw [List.getElem?_map, List.getElem?_eq_getElem hk, Option.map_some]
        have e : (((ids.map fun i => some (P i)).toArray.toList.take m ++ (ids.map fun i => some (P i)).toArray.toList.drop (m + 1) ++ [none]).toArray) = (((ids.take m ++ ids.drop (m + 1)).map fun i => some (P i)) ++ [none]).toArray := by simp
        rw [e, Nat.sub_zero, getElem!_pos _ k (by simp; omega)]
        simp only [List.getElem_toArray]
        rw [List.getElem_append_left (by rw [List.length_map]; exact hk), List.getElem_map]
      · rw [if_neg hk, List.getElem?_eq_none (by rw [List.length_map]; omega)]
  · rw [st.block mb (lt_of h.mbk) (by omega)]; exact h.mbk
  · omega

/-- One source more lives. -/
theorem WS.grown (N : Names W0.heap.size n P G sb lb mb) (h : WS W0 n P G KV K fa er lb mb mo ids l lv cnt W) {o : Obj} {i : Nat} (hg : (W.alloc o).grownBy W' (some W0.heap.size)) (hown : W'.ownsRow W0.heap.size 46 1 (.slice (some ⟨W0.heap.size, 0, none⟩) (ids.length + 1) n) (ids.length + 1) ((ids.map fun i => encS (some (P i))) ++ [encS (some (P i))])) : WS W0 n P G KV K fa er lb mb mo (ids ++ [i]) l lv cnt W' := by
  have st : Step (· = W0.heap.size) W W' := ((Step.refl (· = W0.heap.size) W).alloc o).trans (G := (· = W0.heap.size)) ⟨hg.os, hg.tape, hg.output, hg.size, fun k hk hn => hg.block k hk (fun e => hn (Option.some.inj e))⟩ (fun k _ h => h)
  have hs := h.size
  have hm1 := N.mbl
  have hl1 := N.lbl
  refine ⟨h.ms.keep N.lay st (fun k hk hkl => ?_) (fun k hk => Or.inl hk), ⟨?_, ownsRow_step h.log.2 st fun k hk e => ?_⟩, ?_, ?_, h.step.trans st fun k hk e => ?_⟩
  · subst hk
    exact Or.inl ⟨Nat.le_refl _, fun j hj => ⟨by have := N.lay.p j hj; omega, by have := N.lay.g j hj; omega⟩⟩
  · rw [st.block lb (lt_of h.log.1) (by omega)]; exact h.log.1
  · have := (h.ob k hk).1; omega
  · unfold LiveAt
    rw [List.length_append, List.length_singleton, List.map_append, List.map_singleton]
    exact hown
  · rw [st.block mb (lt_of h.mbk) (by omega)]; exact h.mbk
  · omega
end Go.Proofs.Ybulkbkdi
