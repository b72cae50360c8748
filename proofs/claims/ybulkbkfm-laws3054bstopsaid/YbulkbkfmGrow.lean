/-
  Seat b3054a: the tree while zzs3054bbuild lays it: what each step does to memory. No walk here.
-/
import Derived.Test.YbulkbkfmTree
namespace Go.Proofs.Ybulkbkfm
open Go.RowKit
open Go.ChangeMaps (setBlock)

def off : Nat → Nat
  | 0 => 1 | 1 => 5 | 2 => 11 | 3 => 17 | 4 => 8 | 5 => 14 | 6 => 20 | _ => 0

/-- Where folder i's three blocks lie: from X B i on. -/
def XB (B i : Nat) : Nat := B + off i

def nmB : Nat → ByteArray
  | 0 => ⟨#[114]⟩ | 1 => ⟨#[97]⟩ | 2 => ⟨#[98]⟩ | 3 => ⟨#[99]⟩ | _ => ⟨#[100]⟩

def kidsB : Nat → List Nat
  | 0 => [1, 2, 3] | 1 => [4] | 2 => [5] | 3 => [6] | _ => []

theorem off_inj : ∀ i, i < 7 → ∀ a, a < 7 → off i = off a → i = a := by decide
theorem off_one : ∀ i, i < 7 → ∀ a, a < 7 → off i + 1 ≠ off a := by decide
theorem off_bd : ∀ i, i < 7 → 1 ≤ off i ∧ off i ≤ 20 := by decide
theorem off_four : ∀ i, i < 7 → ∀ j, j < 3 → off i + j ≠ 4 := by decide

/-- The folder's struct. -/
def foldCells (B i : Nat) : Array Value := #[.string (nmB i), .string ⟨#[]⟩, .int .u64 0, .int .i64 0, .pointer none, .int .u64 0, .map (some (XB B i)), .map (some (XB B i + 1))]

def lnk (B : Nat) (ks : List Nat) : List (ByteArray × Nat) := ks.map fun k => (nmB k, XB B k + 2)

/-- The tree as far as it is laid: 'bl' says which folders are there, 'ks' what each links to. -/
structure Part (B : Nat) (bl : Nat → Prop) (ks : Nat → List Nat) (W : World) : Prop where
  subs : ∃ cur, W.heap[B]? = some (.cells cur 46 (0, 0)) ∧ cur.size = 7 ∧ ∀ i, i < 7 → bl i → cur[i]? = some (ptr (XB B i + 2))
  names : W.heap[B + 4]? = some (.cells #[.string ⟨#[97]⟩, .string ⟨#[98]⟩, .string ⟨#[99]⟩] 48 (0, 0))
  fold : ∀ i, i < 7 → bl i → W.heap[XB B i + 2]? = some (.cells (foldCells B i) 52 (0, 0)) ∧ MapAt W (XB B i) (lnk B (ks i)) ∧ MapAt W (XB B i + 1) []

theorem Part.sub {B : Nat} {bl : Nat → Prop} {ks : Nat → List Nat} {W : World} (h : Part B bl ks W) {i : Nat} (hi : i < 7) : (∃ v, W.cell? ⟨B, i, none⟩ = some v) ∧ W.frozen? ⟨B, i, none⟩ = false ∧ (bl i → W.cell? ⟨B, i, none⟩ = some (.pointer (some ⟨XB B i + 2, 0, none⟩))) := by
  obtain ⟨⟨cur, hs1, hs2, hs3⟩, _, _⟩ := h
  refine ⟨⟨cur[i], by simp [World.cell?, hs1, hs2, hi]⟩, by simp [World.frozen?, hs1], fun hb => ?_⟩
  have := hs3 i hi hb
  simp [World.cell?, hs1, this, ptr]

theorem Part.lts {B : Nat} {bl : Nat → Prop} {ks : Nat → List Nat} {W : World} (h : Part B bl ks W) : B < W.heap.size ∧ B + 4 < W.heap.size := by
  obtain ⟨⟨cur, hs1, hs2, hs3⟩, hn, _⟩ := h
  exact ⟨lt_of_block hs1, lt_of_block hn⟩

theorem Part.name {B : Nat} {bl : Nat → Prop} {ks : Nat → List Nat} {W : World} (h : Part B bl ks W) {j : Nat} (hj : j < 3) : W.cell? ⟨B + 4, j, none⟩ = some (.string (nmB (j + 1))) := by
  have hn := h.names
  obtain rfl | rfl | rfl : j = 0 ∨ j = 1 ∨ j = 2 := by omega
  all_goals simp [World.cell?, hn, nmB]

theorem Part.maps {B : Nat} {bl : Nat → Prop} {ks : Nat → List Nat} {W : World} (h : Part B bl ks W) {i : Nat} (hi : i < 7) (hb : bl i) : W.cell? ⟨XB B i + 2, 6, none⟩ = some (.map (some (XB B i))) ∧ W.cell? ⟨XB B i + 2, 7, none⟩ = some (.map (some (XB B i + 1))) := by
  have hf := (h.fold i hi hb).1
  exact ⟨by simp [World.cell?, hf, foldCells], by simp [World.cell?, hf, foldCells]⟩

/-- A folder is made and laid into the array. -/
theorem Part.add {B : Nat} {bl : Nat → Prop} {ks : Nat → List Nat} {W : World} (h : Part B bl ks W) (q : Nat) (hq : q < 7) (hX : XB B q = W.heap.size) (hk : ks q = []) (bl' : Nat → Prop) (hb' : ∀ i, bl' i → bl i ∨ i = q) :
    Part B bl' ks ((((W.setCell ⟨B, q, none⟩ (.pointer (some ⟨W.heap.size + 2, 0, none⟩))).alloc (.map #[] 0)).alloc (.map #[] 0)).alloc
      (.cells #[.string (nmB q), .string ⟨#[]⟩, .int .u64 0, .int .i64 0, .pointer none, .int .u64 0, .map (some W.heap.size), .map (some (W.heap.size + 1))] 52)) := by
  obtain ⟨⟨cur, hs1, hs2, hs3⟩, hn, hf⟩ := h
  have hsz : (W.setCell ⟨B, q, none⟩ (.pointer (some ⟨W.heap.size + 2, 0, none⟩))).heap.size = W.heap.size := by simp [World.setCell]
  generalize hW1 : W.setCell ⟨B, q, none⟩ (.pointer (some ⟨W.heap.size + 2, 0, none⟩)) = W1 at hsz ⊢
  have hold : ∀ b, b < W.heap.size → ∀ o1 o2 o3, (((W1.alloc o1).alloc o2).alloc o3).heap[b]? = W1.heap[b]? := fun b hb o1 o2 o3 => by
    rw [heap_alloc_old _ _ (by simp; omega), heap_alloc_old _ _ (by simp; omega), heap_alloc_old _ _ (by omega)]
  have hoth : ∀ b, b ≠ B → W1.heap[b]? = W.heap[b]? := fun b hb => by rw [← hW1, heap_setCell_other _ _ _ _ (by simpa using hb)]
  have hBl := lt_of_block hs1
  refine ⟨⟨cur.setIfInBounds q (.pointer (some ⟨W.heap.size + 2, 0, none⟩)), ?_, by simp [hs2], fun i hi hbi => ?_⟩, ?_, fun i hi hbi => ?_⟩
  · rw [hold B hBl, ← hW1]
    exact heap_setCell_same _ _ _ _ _ _ hs1
  · by_cases e : i = q
    · subst e
      simp [hs2, hi, ptr, hX]
    · rw [Array.getElem?_setIfInBounds_ne (fun e' => e e'.symm)]
      rcases hb' i hbi with h' | h'
      · exact hs3 i hi h'
      · exact absurd h' e
  · rw [hold _ (lt_of_block hn), hoth _ (by omega)]
    exact hn
  · by_cases e : i = q
    · subst e
      rw [hX, foldCells, hX, hk]
      refine ⟨?_, ?_, ?_⟩
      · have := heap_alloc_new ((W1.alloc (.map #[] 0)).alloc (.map #[] 0)) (.cells #[.string (nmB i), .string ⟨#[]⟩, .int .u64 0, .int .i64 0, .pointer none, .int .u64 0, .map (some W.heap.size), .map (some (W.heap.size + 1))] 52)
        simpa [hsz] using this
      · have := heap_alloc_new W1 (.map #[] 0)
        rw [hsz] at this
        unfold MapAt
        rw [heap_alloc_old _ _ (by simp; omega), heap_alloc_old _ _ (by simp; omega), this]
        rfl
      · have := heap_alloc_new (W1.alloc (.map #[] 0)) (.map #[] 0)
        simp only [World.size_alloc, hsz] at this
        unfold MapAt
        rw [heap_alloc_old _ _ (by simp; omega), this]
        rfl
    · have hbl : bl i := by
        rcases hb' i hbi with h' | h'
        · exact h'
        · exact absurd h' e
      obtain ⟨f1, f2, f3⟩ := hf i hi hbl
      have ho := (off_bd i hi).1
      refine ⟨?_, ?_, ?_⟩
      · rw [hold _ (lt_of_block f1), hoth _ (by unfold XB; omega)]; exact f1
      · unfold MapAt; rw [hold _ (lt_of_block f2), hoth _ (by unfold XB; omega)]; exact f2
      · unfold MapAt; rw [hold _ (lt_of_block f3), hoth _ (by unfold XB; omega)]; exact f3

/-- A folder is linked into another's map. -/
theorem Part.link {B : Nat} {bl : Nat → Prop} {ks : Nat → List Nat} {W : World} (h : Part B bl ks W) (a k : Nat) (ha : a < 7) (hba : bl a) (ks' : Nat → List Nat) (hk' : ∀ i, i < 7 → bl i → ks' i = if i = a then ks a ++ [k] else ks i) :
    Part B bl ks' (setBlock W (XB B a) (.map (ent (lnk B (ks a) ++ [(nmB k, XB B k + 2)])) (lnk B (ks a) ++ [(nmB k, XB B k + 2)]).length)) := by
  obtain ⟨⟨cur, hs1, hs2, hs3⟩, hn, hf⟩ := h
  have fa := (hf a ha hba).2.1
  have hoa := off_bd a ha
  refine ⟨⟨cur, ?_, hs2, hs3⟩, ?_, fun i hi hbi => ?_⟩
  · rw [setBlock_other (by unfold XB; omega)]; exact hs1
  · rw [setBlock_other (by have := off_four a ha 0 (by omega); unfold XB; omega)]; exact hn
  · obtain ⟨f1, f2, f3⟩ := hf i hi hbi
    rw [hk' i hi hbi]
    refine ⟨?_, ?_, ?_⟩
    · rw [setBlock_other]
      · exact f1
      · intro e
        have h1 : W.heap[XB B a]? = some (.cells (foldCells B i) 52 (0, 0)) := e ▸ f1
        have h2 : W.heap[XB B a]? = some (.map (ent (lnk B (ks a))) (lnk B (ks a)).length) := fa
        rw [h1] at h2
        simp at h2
    · by_cases e : i = a
      · subst e
        rw [if_pos rfl]
        have e1 : lnk B (ks i ++ [k]) = lnk B (ks i) ++ [(nmB k, XB B k + 2)] := by simp [lnk]
        rw [e1]
        exact setBlock_same fa
      · rw [if_neg e]
        unfold MapAt
        rw [setBlock_other (fun e' => e (off_inj i hi a ha (by unfold XB at e'; omega)))]
        exact f2
    · unfold MapAt
      rw [setBlock_other (by have := off_one i hi a ha; unfold XB; omega)]
      exact f3

theorem Part.drew {B : Nat} {bl : Nat → Prop} {ks : Nat → List Nat} {W : World} (h : Part B bl ks W) : Part B bl ks W.drew := ⟨h.subs, h.names, h.fold⟩

theorem nm_ne : ∀ a, a < 7 → ∀ b, b < 4 → a ≠ b → nmB a ≠ nmB b := by decide

/-- The store that links, as a run. -/
theorem Part.link_run {B : Nat} {bl : Nat → Prop} {ks : Nat → List Nat} {W : World} (h : Part B bl ks W) (a k : Nat) (ha : a < 7) (hba : bl a) (ks' : Nat → List Nat) (hk' : ∀ i, i < 7 → bl i → ks' i = if i = a then ks a ++ [k] else ks i)
    (hne : ∀ q ∈ ks a, nmB q ≠ nmB k) :
    ∃ W2, (Instr.mapUpdate 49 (.map (some (XB B a))) (.string (nmB k)) (.pointer (some ⟨XB B k + 2, 0, none⟩))).run Yba.prog W.drew = .ok () W2 ∧ Part B bl ks' W2 ∧ W2.heap.size = W.heap.size ∧ ∀ w, Below B w W → Below B w W2 := by
  refine ⟨_, run_update 49 23 Yba.underlying49 W.drew (XB B a) (lnk B (ks a)) (nmB k) (XB B k + 2) (h.fold a ha hba).2.1 (fun x hx => ?_), h.drew.link a k ha hba ks' hk', by simp [setBlock], fun w hb => ?_⟩
  · obtain ⟨q, hq, rfl⟩ := List.mem_map.1 hx
    exact hne q hq
  · exact hb.trans ⟨rfl, rfl, rfl, by simp [setBlock], fun b hbb => by rw [setBlock_other (by unfold XB; omega)]; rfl⟩

end Go.Proofs.Ybulkbkfm
