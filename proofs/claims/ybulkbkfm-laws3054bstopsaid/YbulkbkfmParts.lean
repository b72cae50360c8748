/-
  Seat b3054a: maps as the build lays them (each store a new key), and what a range over such a map gives. No walk here.
-/
import Derived.Test.YbulkbkfmRows
import Derived.WalkKit
import Derived.WalkSpells
import Derived.WalkLawsBesides
import Derived.Maps.RangeRun
import Derived.Laws.StructEq
namespace Go.Proofs.Ybulkbkfm
open Go.RowKit
open Go.ChangeMaps (setBlock)

theorem hide {p : Prop} (h : p) : Hid p := h
theorem unhide {p : Prop} (h : Hid p) : p := h

/-- A pointer to the head of block p. -/
def ptr (p : Nat) : Value := .pointer (some ⟨p, 0, none⟩)

/-- The entries of a map into which the pairs l were stored one behind the other, each under a new key. -/
def ent (l : List (ByteArray × Nat)) : Array MapEntry := (l.zipIdx.map fun x => { key := .string x.1.1, val := ptr x.1.2, born := x.2 : MapEntry }).toArray

theorem ent_push (l : List (ByteArray × Nat)) (k : ByteArray) (p : Nat) : ent (l ++ [(k, p)]) = (ent l).push { key := .string k, val := ptr p, born := l.length } := by
  simp [ent, List.zipIdx_append]

theorem ent_size (l : List (ByteArray × Nat)) : (ent l).size = l.length := by simp [ent]

theorem ent_mem {l : List (ByteArray × Nat)} {e : MapEntry} (h : e ∈ (ent l).toList) : ∃ k p, (k, p) ∈ l ∧ l[e.born]? = some (k, p) ∧ e = { key := .string k, val := ptr p, born := e.born } := by
  simp only [ent] at h
  obtain ⟨x, hx, rfl⟩ := List.mem_map.1 h
  have := List.mem_zipIdx_iff_getElem?.1 hx
  exact ⟨x.1.1, x.1.2, List.mem_of_getElem? this, by simpa using this, rfl⟩

theorem ent_born_lt {l : List (ByteArray × Nat)} {e : MapEntry} (h : e ∈ (ent l).toList) : e.born < l.length := by
  obtain ⟨k, p, _, h2, _⟩ := ent_mem h
  exact (List.getElem?_eq_some_iff.1 h2).1

theorem ent_born (l : List (ByteArray × Nat)) : (ent l).toList.map (·.born) = List.range l.length := by
  simp only [ent, List.map_map]
  refine List.ext_getElem (by simp) fun i h1 h2 => by simp

theorem ent_nodup (l : List (ByteArray × Nat)) : ((ent l).toList.map (·.born)).Nodup := by
  rw [ent_born]
  exact List.nodup_range

/-- Block b is such a map. -/
def MapAt (W : World) (b : Nat) (l : List (ByteArray × Nat)) : Prop := W.heap[b]? = some (.map (ent l) l.length)

theorem beq_of_ne {a b : ByteArray} (h : a ≠ b) : (a == b) = false := by
  rw [beq_toListBytes, ByteArray.toList_eq, ByteArray.toList_eq, beq_eq_false_iff_ne]
  intro e
  apply h
  cases a
  cases b
  simp at e
  rw [e]

theorem find_fresh (k : ByteArray) : ∀ (es : List MapEntry) (i : Nat), (∀ e ∈ es, ∃ s, e.key = .string s ∧ s ≠ k) → Instr.findNow .string (.string k) es i = some none
  | [], _, _ => rfl
  | e :: es, i, h => by
    obtain ⟨s, hs, hne⟩ := h e (by simp)
    have : Instr.sameNow .string (.string k) e.key = some false := by
      rw [hs]
      simp only [Instr.sameNow, Option.some.injEq]
      exact beq_of_ne (Ne.symm hne)
    simp only [Instr.findNow, this]
    exact find_fresh k es (i + 1) (fun x hx => h x (by simp [hx]))

theorem run_check (k : ByteArray) (W : World) : (Instr.checkKey false 10000 9 (.string k)).run Yba.prog W = .ok () W := by
  rw [show (10000 : Nat) = 9999 + 1 from rfl]
  unfold Instr.checkKey
  simp [run_underlying Yba.underlying9]

theorem run_update (t e : Nat) (ht : Yba.prog.underlying t = some (.map 9 e)) (W : World) (b : Nat) (l : List (ByteArray × Nat)) (k : ByteArray) (p : Nat) (hb : MapAt W b l) (hk : ∀ x ∈ l, x.1 ≠ k) :
    (Instr.mapUpdate t (.map (some b)) (.string k) (ptr p)).run Yba.prog W = .ok () (setBlock W b (.map (ent (l ++ [(k, p)])) (l ++ [(k, p)]).length)) := by
  have hf : Instr.findNow .string (.string k) (ent l).toList 0 = some none := find_fresh k _ 0 fun x hx => by
    obtain ⟨s, q, h1, _, h3⟩ := ent_mem hx
    exact ⟨s, by rw [h3], hk _ h1⟩
  have hb' : W.heap[b]? = some (.map (ent l) l.length) := hb
  rw [ent_push]
  simp [Instr.mapUpdate, run_underlying ht, MapKept.run_getObj_map hb', run_check, Instr.findKey, run_underlying Yba.underlying9, hf, MapKept.run_setObj_map _ hb', Result.andThen, setBlock]

theorem setBlock_same {W : World} {b : Nat} {o o' : Obj} (h : W.heap[b]? = some o') : (setBlock W b o).heap[b]? = some o := by
  have := lt_of_block h
  simp [setBlock, this]

theorem setBlock_other {W : World} {b i : Nat} {o : Obj} (h : i ≠ b) : (setBlock W b o).heap[i]? = W.heap[i]? := by
  simp only [setBlock]
  rw [Array.getElem?_setIfInBounds_ne (fun e => h e.symm)]

/-- What is still to come, as pairs' values. -/
def toCome (l : List (ByteArray × Nat)) (seen : Array Nat) : List MapEntry := (ent l).toList.filter fun e => !seen.contains e.born

theorem leftOf_list (l : List (ByteArray × Nat)) (seen : Array Nat) : (leftOf (ent l) seen).toList = toCome l seen := by
  simp [leftOf, toCome]

theorem toCome_nil (l : List (ByteArray × Nat)) : toCome l #[] = (ent l).toList := by
  simp [toCome]

/-- An entry that comes out leaves the others. -/
theorem filter_step {α : Type} (f : α → Nat) : ∀ (l : List α) (seen : Array Nat) (e : α), (l.map f).Nodup → e ∈ l.filter (fun x => !seen.contains (f x)) →
    (l.filter fun x => !seen.contains (f x)).Perm (e :: l.filter fun x => !(seen.push (f e)).contains (f x))
  | [], _, _, _, h => by simp at h
  | a :: l, seen, e, hn, h => by
    have hn' : (l.map f).Nodup := (List.nodup_cons.1 hn).2
    have hna : ∀ x ∈ l, f x ≠ f a := fun x hx ex => (List.nodup_cons.1 hn).1 (ex ▸ List.mem_map_of_mem hx)
    by_cases hea : f a = f e
    · have hae : a = e := by
        rcases List.mem_cons.1 (List.mem_filter.1 h).1 with h' | h'
        · exact h'.symm
        · exact absurd hea.symm (hna e h')
      subst hae
      have h1 : (!seen.contains (f a)) = true := (List.mem_filter.1 h).2
      have h2 : l.filter (fun x => !(seen.push (f a)).contains (f x)) = l.filter fun x => !seen.contains (f x) := List.filter_congr fun x hx => by
        have := hna x hx
        simp [this]
      have h3 : (!(seen.push (f a)).contains (f a)) = false := by simp
      rw [List.filter_cons, if_pos h1, List.filter_cons, if_neg (by simp), h2]
    · have hel : e ∈ l.filter (fun x => !seen.contains (f x)) := by
        rw [List.filter_cons] at h
        split at h
        · rcases List.mem_cons.1 h with h' | h'
          · exact absurd (by rw [h']) hea
          · exact h'
        · exact h
      have ih := filter_step f l seen e hn' hel
      have hpc : (!(seen.push (f e)).contains (f a)) = !seen.contains (f a) := by simp [hea]
      rw [List.filter_cons, List.filter_cons, hpc]
      split
      · exact (List.Perm.cons a ih).trans (List.Perm.swap e a _)
      · exact ih

theorem toCome_step (l : List (ByteArray × Nat)) (seen : Array Nat) (e : MapEntry) (h : e ∈ toCome l seen) : (toCome l seen).Perm (e :: toCome l (seen.push e.born)) :=
  filter_step (fun x : MapEntry => x.born) (ent l).toList seen e (ent_nodup l) h

end Go.Proofs.Ybulkbkfm
