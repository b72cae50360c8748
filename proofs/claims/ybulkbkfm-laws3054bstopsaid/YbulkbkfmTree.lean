/-
  Seat b3054a: the tree in memory; what a callback is asked; what a walk over the tree yields. No walk here.
-/
import Derived.Test.YbulkbkfmParts
import Derived.Maps.Range
namespace Go.Proofs.Ybulkbkfm
open Go.RowKit
open Go.ChangeMaps (setBlock)

/-- names.go's joinPath. -/
def jp (dir nm : ByteArray) : ByteArray := if dir.toList.isEmpty then nm else dir ++ ⟨#[47]⟩ ++ nm

def blkOf : Value → Nat
  | .pointer (some a) => a.block
  | _ => 0

/-- What a walk over folder i at the path dir yields, to the depth n: pairs (path, the file's block). -/
def Sy (nm : Nat → ByteArray) (kids : Nat → List Nat) (fl : Nat → List (ByteArray × Nat)) : Nat → Nat → ByteArray → List (ByteArray × Nat)
  | 0, _, _ => []
  | n + 1, i, dir => (fl i).map (fun x => (dir, x.2)) ++ (kids i).flatMap fun k => Sy nm kids fl n k (jp dir (nm k))

/-- Folders 0 to 6 in memory: folder i's maps lie in blocks X i (folders) and X i + 1 (files), its struct in X i + 2. -/
def TreeAt (X : Nat → Nat) (nm : Nat → ByteArray) (kids : Nat → List Nat) (fl : Nat → List (ByteArray × Nat)) (W : World) : Prop :=
  ∀ i, i < 7 → W.heap[X i + 2]? = some (.cells #[.string (nm i), .string ⟨#[]⟩, .int .u64 0, .int .i64 0, .pointer none, .int .u64 0, .map (some (X i)), .map (some (X i + 1))] 52 (0, 0)) ∧
    MapAt W (X i) ((kids i).map fun k => (nm k, X k + 2)) ∧ MapAt W (X i + 1) (fl i)

/-- Only blocks that 'own' names, and new ones, may have turned. -/
def Kp (own : Nat → Prop) (W W' : World) : Prop :=
  (∀ b, b < W.heap.size → ¬ own b → W'.heap[b]? = W.heap[b]?) ∧ W.heap.size ≤ W'.heap.size ∧ W'.os = W.os ∧ W'.tape = W.tape ∧ W'.output = W.output

theorem Kp.refl (own : Nat → Prop) (W : World) : Kp own W W := ⟨fun _ _ _ => rfl, Nat.le_refl _, rfl, rfl, rfl⟩

theorem Kp.trans {own : Nat → Prop} {a b c : World} (h : Kp own a b) (k : Kp own b c) : Kp own a c :=
  ⟨fun i hi ho => (k.1 i (Nat.lt_of_lt_of_le hi h.2.1) ho).trans (h.1 i hi ho), Nat.le_trans h.2.1 k.2.1, k.2.2.1.trans h.2.2.1, k.2.2.2.1.trans h.2.2.2.1, k.2.2.2.2.trans h.2.2.2.2⟩

theorem Kp.trans' {own : Nat → Prop} {a b c : World} (h : Kp own a b) (ho : c.os = b.os) (ht : c.tape = b.tape) (hp : c.output = b.output) (hs : b.heap.size ≤ c.heap.size) (hb : ∀ i, i < a.heap.size → c.heap[i]? = b.heap[i]?) : Kp own a c :=
  ⟨fun i hi hn => (hb i hi).trans (h.1 i hi hn), Nat.le_trans h.2.1 hs, ho.trans h.2.2.1, ht.trans h.2.2.2.1, hp.trans h.2.2.2.2⟩

theorem TreeAt.kept {X : Nat → Nat} {nm : Nat → ByteArray} {kids : Nat → List Nat} {fl : Nat → List (ByteArray × Nat)} {W W' : World} (h : TreeAt X nm kids fl W) (hk : ∀ i, i < 7 → ∀ j, j < 3 → W'.heap[X i + j]? = W.heap[X i + j]?) : TreeAt X nm kids fl W' := by
  intro i hi
  obtain ⟨h1, h2, h3⟩ := h i hi
  exact ⟨(hk i hi 2 (by omega)).trans h1, (hk i hi 0 (by omega)).trans h2, (hk i hi 1 (by omega)).trans h3⟩

/-- WHAT IS ASKED OF THE CALLBACK: function g with the captured values lb. 'Inv ys W': so the world stands behind the yields ys; 'cont': what it answers. -/
def CB (g : Nat) (lb : Array Value) (N0 : Nat) (own : Nat → Prop) (Inv : List (ByteArray × Nat) → World → Prop) (cont : List (ByteArray × Nat) → Bool) (All : List (ByteArray × Nat)) : Prop :=
  ∀ (ys : List (ByteArray × Nat)) (d : ByteArray) (p : Nat) (W : World), Inv ys W → N0 ≤ W.heap.size → cont ys = true → (d, p) ∈ All → (d, p) ∉ ys →
    Calls Yba.prog g (#[.string d, .pointer (some ⟨p, 0, none⟩)] ++ lb) W fun e W' => e = .returned (.bool (cont (ys ++ [(d, p)]))) ∧ Inv (ys ++ [(d, p)]) W' ∧ Kp own W W' ∧ W'.heap.size = W.heap.size

/-- WHAT A WALK OVER THE TREE LEAVES. -/
def Yielded (X : Nat → Nat) (nm : Nat → ByteArray) (kids : Nat → List Nat) (fl : Nat → List (ByteArray × Nat)) (own : Nat → Prop) (Inv : List (ByteArray × Nat) → World → Prop) (cont : List (ByteArray × Nat) → Bool)
    (S ys : List (ByteArray × Nat)) (W : World) (e : Ending) (W' : World) : Prop :=
  ∃ zs, Inv (ys ++ zs) W' ∧ TreeAt X nm kids fl W' ∧ Kp own W W' ∧
    ((e = .returned (.bool true) ∧ cont (ys ++ zs) = true ∧ zs.Perm S) ∨ (e = .returned (.bool false) ∧ cont (ys ++ zs) = false ∧ ∃ rest, (zs ++ rest).Perm S))

/-- The pairs that a range over the files' map has still to yield. -/
def later (l : List (ByteArray × Nat)) (dir : ByteArray) (seen : Array Nat) : List (ByteArray × Nat) := (toCome l seen).map fun e => (dir, blkOf e.val)

theorem ent_vals (l : List (ByteArray × Nat)) (dir : ByteArray) : ((ent l).toList.map fun e => (dir, blkOf e.val)) = l.map fun x => (dir, x.2) := by
  simp only [ent, List.map_map]
  refine List.ext_getElem (by simp) fun i h1 h2 => by simp [ptr, blkOf]

theorem later_nil (l : List (ByteArray × Nat)) (dir : ByteArray) : later l dir #[] = l.map fun x => (dir, x.2) := by
  rw [later, toCome_nil, ent_vals]

theorem later_step (l : List (ByteArray × Nat)) (dir : ByteArray) (seen : Array Nat) (e : MapEntry) (h : e ∈ toCome l seen) : (later l dir seen).Perm ((dir, blkOf e.val) :: later l dir (seen.push e.born)) :=
  (toCome_step l seen e h).map _

/-! ### the step of a range -/

/-- Behind a step of the iterator in block r: all else stands. -/
theorem step_frame {wr w1 : World} (hal : w1 = wr ∨ w1 = wr.drew) (r : Nat) (o : Obj) (hr : r < wr.heap.size) :
    (setBlock w1 r o).heap[r]? = some o ∧ (∀ b, b ≠ r → (setBlock w1 r o).heap[b]? = wr.heap[b]?) ∧ (setBlock w1 r o).heap.size = wr.heap.size ∧ (setBlock w1 r o).os = wr.os ∧ (setBlock w1 r o).tape = wr.tape ∧ (setBlock w1 r o).output = wr.output := by
  have hh : w1.heap = wr.heap ∧ w1.os = wr.os ∧ w1.tape = wr.tape ∧ w1.output = wr.output := by rcases hal with rfl | rfl <;> exact ⟨rfl, rfl, rfl, rfl⟩
  refine ⟨?_, fun b hb => ?_, by simp [setBlock, hh.1], hh.2.1, hh.2.2.1, hh.2.2.2⟩
  · simp [setBlock, hh.1, hr]
  · rw [setBlock_other hb, hh.1]

theorem ent_kid {nm : Nat → ByteArray} {X : Nat → Nat} {ks : List Nat} {e : MapEntry} (h : e ∈ (ent (ks.map fun k => (nm k, X k + 2))).toList) :
    ks[e.born]? = some (ks.getD e.born 0) ∧ e = { key := .string (nm (ks.getD e.born 0)), val := ptr (X (ks.getD e.born 0) + 2), born := e.born } := by
  obtain ⟨k, p, _, h2, h3⟩ := ent_mem h
  rw [List.getElem?_map] at h2
  obtain ⟨q, hq, hqe⟩ := Option.map_eq_some_iff.1 h2
  have e1 : ks.getD e.born 0 = q := by simp [List.getD, hq]
  rw [e1]
  simp only [Prod.mk.injEq] at hqe
  refine ⟨hq, ?_⟩
  rw [h3]
  simp [hqe.1, hqe.2]

/-- The pairs that a range over the folders' map has still to yield. -/
def later2 (nm : Nat → ByteArray) (X : Nat → Nat) (ks : List Nat) (f : Nat → List (ByteArray × Nat)) (seen : Array Nat) : List (ByteArray × Nat) :=
  (toCome (ks.map fun k => (nm k, X k + 2)) seen).flatMap fun e => f (ks.getD e.born 0)

theorem later2_nil (nm : Nat → ByteArray) (X : Nat → Nat) (ks : List Nat) (f : Nat → List (ByteArray × Nat)) : later2 nm X ks f #[] = ks.flatMap f := by
  rw [later2, toCome_nil]
  have h1 : (ent (ks.map fun k => (nm k, X k + 2))).toList.flatMap (fun e => f (ks.getD e.born 0)) = (((ent (ks.map fun k => (nm k, X k + 2))).toList.map (·.born)).map fun b => ks.getD b 0).flatMap f := by
    simp [List.flatMap_map]
  rw [h1, ent_born]
  congr 1
  refine List.ext_getElem (by simp) fun i h1 h2 => by
    simp at h1 h2
    simp [h2]

theorem later2_step (nm : Nat → ByteArray) (X : Nat → Nat) (ks : List Nat) (f : Nat → List (ByteArray × Nat)) (seen : Array Nat) (e : MapEntry) (h : e ∈ toCome (ks.map fun k => (nm k, X k + 2)) seen) :
    (later2 nm X ks f seen).Perm (f (ks.getD e.born 0) ++ later2 nm X ks f (seen.push e.born)) := by
  have := (toCome_step _ seen e h).flatMap_right (fun e => f (ks.getD e.born 0))
  simpa [later2] using this

/-! ### lists -/
section
variable {α : Type}

theorem fresh_of {ys zs rest F K : List α} {x : α} (hnd : (ys ++ (F ++ K)).Nodup) (hp : (zs ++ x :: rest).Perm F) : x ∉ ys ++ zs := by
  have h1 : (ys ++ ((zs ++ x :: rest) ++ K)).Nodup := ((List.Perm.append_left ys (hp.append_right K)).nodup_iff).2 hnd
  have h2 : (ys ++ ((zs ++ x :: rest) ++ K)).Perm (x :: (ys ++ zs ++ (rest ++ K))) := by
    have : ys ++ ((zs ++ x :: rest) ++ K) = (ys ++ zs) ++ x :: (rest ++ K) := by simp
    rw [this]
    exact List.perm_middle
  have h3 := (h2.nodup_iff).1 h1
  intro hx
  exact (List.nodup_cons.1 h3).1 (List.mem_append_left _ hx)

theorem nodup_sub {ys zs zs2 Sk rest F K : List α} (hnd : (ys ++ (F ++ K)).Nodup) (h1 : zs.Perm F) (h2 : (zs2 ++ (Sk ++ rest)).Perm K) : ((ys ++ (zs ++ zs2)) ++ Sk).Nodup := by
  have h3 : (ys ++ (zs ++ (zs2 ++ (Sk ++ rest)))).Nodup := ((List.Perm.append_left ys (h1.append h2)).nodup_iff).2 hnd
  have e : ys ++ (zs ++ (zs2 ++ (Sk ++ rest))) = ((ys ++ (zs ++ zs2)) ++ Sk) ++ rest := by simp
  rw [e] at h3
  exact (List.nodup_append.1 h3).1

end

end Go.Proofs.Ybulkbkfm
