/-
  Seat b3054a: the files while zzs3054bbuild lays them. No walk here.
-/
import Derived.Test.YbulkbkfmGrow
import Derived.Test.YbulkbkfmKey
namespace Go.Proofs.Ybulkbkfm
open Go.RowKit
open Go.ChangeMaps (setBlock)

def pathB : Nat → ByteArray
  | 0 => ⟨#[]⟩ | 1 => ⟨#[97]⟩ | 2 => ⟨#[98]⟩ | 3 => ⟨#[99]⟩ | 4 => ⟨#[97, 47, 100]⟩ | 5 => ⟨#[98, 47, 100]⟩ | _ => ⟨#[99, 47, 100]⟩

/-- A file that was laid: its folder's number, its key, its block. -/
abbrev Rec := Nat × ByteArray × Nat

def flOf (rs : List Rec) (i : Nat) : List (ByteArray × Nat) := (rs.filter fun r => r.1 == i).map (·.2)

theorem flOf_snoc (rs : List Rec) (q : Nat) (k : ByteArray) (p i : Nat) : flOf (rs ++ [(q, k, p)]) i = if q = i then flOf rs i ++ [(k, p)] else flOf rs i := by
  by_cases h : q = i
  · simp [flOf, h]
  · simp [flOf, h]

def fileCells (k c : ByteArray) : Array Value := #[.string k, .string ⟨#[]⟩, .int .u64 0, .int .i64 0, .pointer none, .int .u64 0, .string c, .bool false]

/-- What lies in memory behind j files: 'rs' lists them; 'wh', 'ct': what the items say. -/
structure Laid (B len : Nat) (wh : Nat → Int) (ct : Nat → ByteArray) (rs : List Rec) (W : World) : Prop where
  tree : TreeAt (XB B) nmB kidsB (flOf rs) W
  subs : ∃ cur, W.heap[B]? = some (.cells cur 46 (0, 0)) ∧ ∀ i, i < 7 → cur[i]? = some (ptr (XB B i + 2))
  paths : W.heap[B + 23]? = some (.cells #[.string ⟨#[]⟩, .string ⟨#[97]⟩, .string ⟨#[98]⟩, .string ⟨#[99]⟩, .string ⟨#[97, 47, 100]⟩, .string ⟨#[98, 47, 100]⟩, .string ⟨#[99, 47, 100]⟩] 53 (0, 0))
  files : W.ownsRow B 32 1 (.slice (some ⟨B + 24, 0, none⟩) rs.length len) rs.length (rs.map fun r => .pointer (some ⟨r.2.2, 0, none⟩))
  dirs : W.ownsRow B 9 1 (.slice (some ⟨B + 25, 0, none⟩) rs.length len) rs.length (rs.map fun r => .string (pathB r.1))
  recs : ∀ (i : Nat) (r : Rec), rs[i]? = some r → (r.1 : Int) = wh i % 7 ∧ keyVal r.2.1 = i ∧ W.heap[r.2.2]? = some (.cells (fileCells r.2.1 (ct i)) 41 (0, 0)) ∧ B ≤ r.2.2
  apart : (rs.map (·.2.2)).Nodup

theorem Laid.row1 {B len : Nat} {wh : Nat → Int} {ct : Nat → ByteArray} {rs : List Rec} {W : World} (h : Laid B len wh ct rs W) : ∃ cur, W.heap[B + 24]? = some (.cells cur 32 (0, 0)) := by
  rcases h.files.2 with ⟨h', _⟩ | ⟨g, cap, cur, h', _, hg, _⟩
  · simp at h'
  · simp at h'
    obtain ⟨rfl, rfl⟩ := h'
    exact ⟨cur, hg⟩

theorem Laid.row2 {B len : Nat} {wh : Nat → Int} {ct : Nat → ByteArray} {rs : List Rec} {W : World} (h : Laid B len wh ct rs W) : ∃ cur, W.heap[B + 25]? = some (.cells cur 9 (0, 0)) := by
  rcases h.dirs.2 with ⟨h', _⟩ | ⟨g, cap, cur, h', _, hg, _⟩
  · simp at h'
  · simp at h'
    obtain ⟨rfl, rfl⟩ := h'
    exact ⟨cur, hg⟩

/-- ONE FILE MORE: the file's block p, its entry in folder q's map, its places in the two rows; all else as it was. -/
theorem Laid.step {B len : Nat} {wh : Nat → Int} {ct : Nat → ByteArray} {rs : List Rec} {W W' : World} (h : Laid B len wh ct rs W) (q p : Nat) (k : ByteArray) (hq : q < 7) (hqw : (q : Int) = wh rs.length % 7) (hk : keyVal k = rs.length) (hp : W.heap.size ≤ p) (hBp : B ≤ p)
    (K : ∀ b, b < W.heap.size → b ≠ XB B q + 1 → b ≠ B + 24 → b ≠ B + 25 → W'.heap[b]? = W.heap[b]?)
    (hm : MapAt W' (XB B q + 1) (flOf rs q ++ [(k, p)])) (hfp : W'.heap[p]? = some (.cells (fileCells k (ct rs.length)) 41 (0, 0)))
    (hf : W'.ownsRow B 32 1 (.slice (some ⟨B + 24, 0, none⟩) (rs.length + 1) len) (rs.length + 1) ((rs.map fun r => .pointer (some ⟨r.2.2, 0, none⟩)) ++ [.pointer (some ⟨p, 0, none⟩)]))
    (hd : W'.ownsRow B 9 1 (.slice (some ⟨B + 25, 0, none⟩) (rs.length + 1) len) (rs.length + 1) ((rs.map fun r => .string (pathB r.1)) ++ [.string (pathB q)])) :
    Laid B len wh ct (rs ++ [(q, k, p)]) W' := by
  obtain ⟨cur1, hr1⟩ := h.row1
  obtain ⟨cur2, hr2⟩ := h.row2
  have oq := off_bd q hq
  have hmq : W.heap[XB B q + 1]? = some (.map (ent (flOf rs q)) (flOf rs q).length) := (h.tree q hq).2.2
  have K' : ∀ b o, W.heap[b]? = some o → b ≠ XB B q + 1 → b ≠ B + 24 → b ≠ B + 25 → W'.heap[b]? = some o := fun b o hb h1 h2 h3 => (K b (lt_of_block hb) h1 h2 h3).trans hb
  refine ⟨fun i hi => ?_, ?_, ?_, by simpa using hf, by simpa using hd, fun i r hr => ?_, ?_⟩
  · obtain ⟨t1, t2, t3⟩ := h.tree i hi
    have oi := off_bd i hi
    refine ⟨?_, ?_, ?_⟩
    · refine K' _ _ t1 (fun e => ?_) (by unfold XB; omega) (by unfold XB; omega)
      rw [e, hmq] at t1
      simp at t1
    · exact K' _ _ t2 (by have := off_one q hq i hi; unfold XB; omega) (by unfold XB; omega) (by unfold XB; omega)
    · rw [flOf_snoc]
      by_cases e : q = i
      · subst e
        rw [if_pos rfl]
        exact hm
      · rw [if_neg e]
        refine K' _ _ t3 (fun e' => e (off_inj q hq i hi (by unfold XB at e'; omega))) (by unfold XB; omega) (by unfold XB; omega)
  · obtain ⟨cur, s1, s2⟩ := h.subs
    exact ⟨cur, K' _ _ s1 (by unfold XB; omega) (by omega) (by omega), s2⟩
  · exact K' _ _ h.paths (by unfold XB; omega) (by omega) (by omega)
  · by_cases hi : i < rs.length
    · rw [List.getElem?_append_left hi] at hr
      obtain ⟨r1, r2, r3, r4⟩ := h.recs i r hr
      refine ⟨r1, r2, K' _ _ r3 (fun e => ?_) (fun e => ?_) (fun e => ?_), r4⟩
      · rw [e, hmq] at r3; simp at r3
      · rw [e, hr1] at r3; simp at r3
      · rw [e, hr2] at r3; simp at r3
    · have hlen : i < (rs ++ [(q, k, p)]).length := (List.getElem?_eq_some_iff.1 hr).1
      have hie : i = rs.length := by simp at hlen; omega
      subst hie
      simp at hr
      subst hr
      exact ⟨hqw, hk, hfp, hBp⟩
  · simp only [List.map_append, List.map_cons, List.map_nil]
    refine List.nodup_append.2 ⟨h.apart, by simp, fun a ha b hb e => ?_⟩
    simp only [List.mem_singleton] at hb
    subst hb
    subst e
    obtain ⟨r, hr, rfl⟩ := List.mem_map.1 ha
    obtain ⟨i, hi⟩ := List.getElem?_of_mem hr
    have := lt_of_block (h.recs i r hi).2.2.1
    omega

/-- No file of folder q has the new key. -/
theorem Laid.fresh {B len : Nat} {wh : Nat → Int} {ct : Nat → ByteArray} {rs : List Rec} {W : World} (h : Laid B len wh ct rs W) (q : Nat) (k : ByteArray) (hk : keyVal k = rs.length) : ∀ x ∈ flOf rs q, x.1 ≠ k := by
  intro x hx e
  obtain ⟨r, hr, rfl⟩ := List.mem_map.1 hx
  obtain ⟨i, hi⟩ := List.getElem?_of_mem (List.mem_filter.1 hr).1
  have h1 := (h.recs i r hi).2.1
  have h2 := (List.getElem?_eq_some_iff.1 hi).1
  rw [e, hk] at h1
  omega

/-- Carried while old memory stands. -/
theorem Laid.kept {B len : Nat} {wh : Nat → Int} {ct : Nat → ByteArray} {rs : List Rec} {W W' : World} (h : Laid B len wh ct rs W) (K : ∀ b, b < W.heap.size → W'.heap[b]? = W.heap[b]?) : Laid B len wh ct rs W' := by
  have K' : ∀ b o, W.heap[b]? = some o → W'.heap[b]? = some o := fun b o hb => (K b (lt_of_block hb)).trans hb
  obtain ⟨cur1, hr1⟩ := h.row1
  obtain ⟨cur2, hr2⟩ := h.row2
  refine ⟨fun i hi => ?_, ?_, K' _ _ h.paths, ⟨h.files.1, ?_⟩, ⟨h.dirs.1, ?_⟩, fun i r hr => ?_, h.apart⟩
  · obtain ⟨t1, t2, t3⟩ := h.tree i hi
    exact ⟨K' _ _ t1, K' _ _ t2, K' _ _ t3⟩
  · obtain ⟨cur, s1, s2⟩ := h.subs
    exact ⟨cur, K' _ _ s1, s2⟩
  · rcases h.files.2 with h' | ⟨g, cap, cur, h1, h2, h3, h4⟩
    · exact .inl h'
    · exact .inr ⟨g, cap, cur, h1, h2, K' _ _ h3, h4⟩
  · rcases h.dirs.2 with h' | ⟨g, cap, cur, h1, h2, h3, h4⟩
    · exact .inl h'
    · exact .inr ⟨g, cap, cur, h1, h2, K' _ _ h3, h4⟩
  · obtain ⟨r1, r2, r3, r4⟩ := h.recs i r hr
    exact ⟨r1, r2, K' _ _ r3, r4⟩

theorem Laid.sub {B len : Nat} {wh : Nat → Int} {ct : Nat → ByteArray} {rs : List Rec} {W : World} (h : Laid B len wh ct rs W) {i : Nat} (hi : i < 7) : W.cell? ⟨B, i, none⟩ = some (.pointer (some ⟨XB B i + 2, 0, none⟩)) := by
  obtain ⟨cur, s1, s2⟩ := h.subs
  have := s2 i hi
  simp [World.cell?, s1, this, ptr]

theorem Laid.map7 {B len : Nat} {wh : Nat → Int} {ct : Nat → ByteArray} {rs : List Rec} {W : World} (h : Laid B len wh ct rs W) {i : Nat} (hi : i < 7) : W.cell? ⟨XB B i + 2, 7, none⟩ = some (.map (some (XB B i + 1))) := by
  have hf := (h.tree i hi).1
  simp [World.cell?, hf]

theorem Laid.path {B len : Nat} {wh : Nat → Int} {ct : Nat → ByteArray} {rs : List Rec} {W : World} (h : Laid B len wh ct rs W) {i : Nat} (hi : i < 7) : W.cell? ⟨B + 23, i, none⟩ = some (.string (pathB i)) := by
  have hp := h.paths
  have : i = 0 ∨ i = 1 ∨ i = 2 ∨ i = 3 ∨ i = 4 ∨ i = 5 ∨ i = 6 := by omega
  rcases this with rfl | rfl | rfl | rfl | rfl | rfl | rfl <;> simp [World.cell?, hp, pathB]

theorem Laid.big {B len : Nat} {wh : Nat → Int} {ct : Nat → ByteArray} {rs : List Rec} {W : World} (h : Laid B len wh ct rs W) : B + 25 < W.heap.size := by
  obtain ⟨c, hc⟩ := h.row2
  exact lt_of_block hc

/-- The store into the files' map, as a run. -/
theorem Laid.store {B len : Nat} {wh : Nat → Int} {ct : Nat → ByteArray} {rs : List Rec} {w1 : World} (h : Laid B len wh ct rs w1) (q : Nat) (hq : q < 7) (k c : ByteArray) (hk : keyVal k = rs.length) :
    ∃ W2, (Instr.mapUpdate 50 (.map (some (XB B q + 1))) (.string k) (.pointer (some ⟨w1.heap.size, 0, none⟩))).run Yba.prog (w1.alloc (.cells #[.string k, .string ⟨#[]⟩, .int .u64 0, .int .i64 0, .pointer none, .int .u64 0, .string c, .bool false] 41)) = .ok () W2 ∧
      MapAt W2 (XB B q + 1) (flOf rs q ++ [(k, w1.heap.size)]) ∧ (∀ b, b < w1.heap.size → b ≠ XB B q + 1 → W2.heap[b]? = w1.heap[b]?) ∧ W2.heap[w1.heap.size]? = some (.cells (fileCells k c) 41 (0, 0)) ∧ W2.heap.size = w1.heap.size + 1 ∧ (∀ w, Below B w w1 → B ≤ w1.heap.size → Below B w W2) := by
  have L2 := h.kept (W' := w1.alloc (.cells (fileCells k c) 41)) (fun b hb => heap_alloc_old w1 _ hb)
  have hm := (L2.tree q hq).2.2
  have oq := off_bd q hq
  have hbig := h.big
  refine ⟨_, run_update 50 32 Yba.underlying50 (w1.alloc (.cells (fileCells k c) 41)) (XB B q + 1) (flOf rs q) k w1.heap.size hm (L2.fresh q k hk), setBlock_same hm, fun b hb hne => ?_, ?_, by simp [setBlock], fun w hb hBs => ?_⟩
  · rw [setBlock_other hne, heap_alloc_old w1 _ hb]
  · rw [setBlock_other (by unfold XB; omega), heap_alloc_new]
  · exact (hb.alloc hBs _).trans ⟨rfl, rfl, rfl, by simp [setBlock], fun b hbb => by rw [setBlock_other (by unfold XB; omega)]⟩

theorem ownsRow_of_block {w w' : World} {B e g n cap : Nat} {xs : List Value} (h : w.ownsRow B e 1 (.slice (some ⟨g, 0, none⟩) n cap) n xs) (hb : w'.heap[g]? = w.heap[g]?) : w'.ownsRow B e 1 (.slice (some ⟨g, 0, none⟩) n cap) n xs := by
  refine ⟨h.1, ?_⟩
  rcases h.2 with ⟨h', _⟩ | ⟨g', cap', cur, h1, h2, h3, h4⟩
  · simp at h'
  · simp at h1
    obtain ⟨rfl, rfl⟩ := h1
    exact .inr ⟨g, cap, cur, rfl, h2, hb.trans h3, h4⟩

/-! ### the two beginnings -/

def blj (j i : Nat) : Prop := i = 0 ∨ (1 ≤ i ∧ i ≤ j) ∨ (4 ≤ i ∧ i < 4 + j)
def ksj (j i : Nat) : List Nat := if i = 0 then (List.range j).map (· + 1) else if 1 ≤ i ∧ i ≤ j then [i + 3] else []

theorem heap5 (w : World) (o0 o1 o2 o3 o4 : Obj) : (((((w.alloc o0).alloc o1).alloc o2).alloc o3).alloc o4).heap[w.heap.size]? = some o0 ∧ (((((w.alloc o0).alloc o1).alloc o2).alloc o3).alloc o4).heap[w.heap.size + 1]? = some o1 ∧
    (((((w.alloc o0).alloc o1).alloc o2).alloc o3).alloc o4).heap[w.heap.size + 2]? = some o2 ∧ (((((w.alloc o0).alloc o1).alloc o2).alloc o3).alloc o4).heap[w.heap.size + 3]? = some o3 ∧ (((((w.alloc o0).alloc o1).alloc o2).alloc o3).alloc o4).heap[w.heap.size + 4]? = some o4 := by
  have h1 := heap_alloc_new (w.alloc o0) o1
  have h2 := heap_alloc_new ((w.alloc o0).alloc o1) o2
  have h3 := heap_alloc_new (((w.alloc o0).alloc o1).alloc o2) o3
  have h4 := heap_alloc_new ((((w.alloc o0).alloc o1).alloc o2).alloc o3) o4
  simp only [World.size_alloc] at h1 h2 h3 h4
  refine ⟨?_, ?_, ?_, ?_, h4⟩
  · rw [heap_alloc_old _ _ (by simp <;> omega), heap_alloc_old _ _ (by simp <;> omega), heap_alloc_old _ _ (by simp <;> omega), heap_alloc_old _ _ (by simp), heap_alloc_new]
  · rw [heap_alloc_old _ _ (by simp <;> omega), heap_alloc_old _ _ (by simp <;> omega), heap_alloc_old _ _ (by simp), h1]
  · rw [heap_alloc_old _ _ (by simp <;> omega), heap_alloc_old _ _ (by simp), h2]
  · rw [heap_alloc_old _ _ (by simp), h3]

theorem Part.init (w : World) : Part w.heap.size (blj 0) (ksj 0) (((((w.alloc (.cells #[.pointer (some ⟨w.heap.size + 1 + 2, 0, none⟩), .pointer none, .pointer none, .pointer none, .pointer none, .pointer none, .pointer none] 46)).alloc (.map #[] 0)).alloc (.map #[] 0)).alloc
    (.cells #[.string ⟨#[114]⟩, .string ⟨#[]⟩, .int .u64 0, .int .i64 0, .pointer none, .int .u64 0, .map (some (w.heap.size + 1)), .map (some (w.heap.size + 1 + 1))] 52)).alloc (.cells #[.string ⟨#[97]⟩, .string ⟨#[98]⟩, .string ⟨#[99]⟩] 48)) := by
  obtain ⟨h0, h1, h2, h3, h4⟩ := heap5 w (.cells #[.pointer (some ⟨w.heap.size + 1 + 2, 0, none⟩), .pointer none, .pointer none, .pointer none, .pointer none, .pointer none, .pointer none] 46) (.map #[] 0) (.map #[] 0)
    (.cells #[.string ⟨#[114]⟩, .string ⟨#[]⟩, .int .u64 0, .int .i64 0, .pointer none, .int .u64 0, .map (some (w.heap.size + 1)), .map (some (w.heap.size + 1 + 1))] 52) (.cells #[.string ⟨#[97]⟩, .string ⟨#[98]⟩, .string ⟨#[99]⟩] 48)
  refine ⟨⟨_, h0, rfl, fun i hi hb => ?_⟩, h4, fun i hi hb => ?_⟩
  · have : i = 0 := by unfold blj at hb; omega
    subst this
    rfl
  · have : i = 0 := by unfold blj at hb; omega
    subst this
    exact ⟨h3, h1, h2⟩

theorem ksj3 : ∀ i, i < 7 → ksj 3 i = kidsB i := by decide

theorem info32 : (Yba.prog.info? 32).map (fun i => (i.zero, i.size, i.bytes)) = some (some (.pointer none), 1, 8) := by kernel_rfl
theorem info9 : (Yba.prog.info? 9).map (fun i => (i.zero, i.size, i.bytes)) = some (some (.string ⟨#[]⟩), 1, 16) := by kernel_rfl

theorem make24 (len : Nat) (h : len ≤ 1024) (w : World) : (Instr.makeSlice 24 (.int .i64 0) (.int .i64 (len : Int))).run Yba.prog w = .ok (.slice (some ⟨w.heap.size, 0, none⟩) 0 len) (w.alloc (.cells (madeCells #[.pointer none] len) 32)) := by
  obtain ⟨i0, hi, hz0, hz1, hz2⟩ := info_parts info32
  have hr := run_make (P := Yba.prog) w 24 32 i0 _ Yba.underlying24 hi hz0 .i64 .i64 0 len (by omega) (by omega) (by rw [hz2]; omega) (by omega)
  rw [hr, hz1]
  simp [Value.cells]

theorem make25 (len : Nat) (h : len ≤ 1024) (w : World) : (Instr.makeSlice 25 (.int .i64 0) (.int .i64 (len : Int))).run Yba.prog w = .ok (.slice (some ⟨w.heap.size, 0, none⟩) 0 len) (w.alloc (.cells (madeCells #[.string ⟨#[]⟩] len) 9)) := by
  obtain ⟨i0, hi, hz0, hz1, hz2⟩ := info_parts info9
  have hr := run_make (P := Yba.prog) w 25 9 i0 _ Yba.underlying25 hi hz0 .i64 .i64 0 len (by omega) (by omega) (by rw [hz2]; omega) (by omega)
  rw [hr, hz1]
  simp [Value.cells]

theorem heap3 (w : World) (o0 o1 o2 : Obj) : (((w.alloc o0).alloc o1).alloc o2).heap[w.heap.size]? = some o0 ∧ (((w.alloc o0).alloc o1).alloc o2).heap[w.heap.size + 1]? = some o1 ∧ (((w.alloc o0).alloc o1).alloc o2).heap[w.heap.size + 2]? = some o2 ∧
    ∀ b, b < w.heap.size → (((w.alloc o0).alloc o1).alloc o2).heap[b]? = w.heap[b]? := by
  have h1 := heap_alloc_new (w.alloc o0) o1
  have h2 := heap_alloc_new ((w.alloc o0).alloc o1) o2
  simp only [World.size_alloc] at h1 h2
  refine ⟨?_, ?_, h2, fun b hb => ?_⟩
  · rw [heap_alloc_old _ _ (by simp; omega), heap_alloc_old _ _ (by simp), heap_alloc_new]
  · rw [heap_alloc_old _ _ (by simp), h1]
  · rw [heap_alloc_old _ _ (by simp; omega), heap_alloc_old _ _ (by simp; omega), heap_alloc_old _ _ hb]

theorem Laid.init {B len : Nat} {wh : Nat → Int} {ct : Nat → ByteArray} {wr : World} (hlen : len ≤ 1024) (P : Part B (blj 3) (ksj 3) wr) (hs : wr.heap.size = B + 23) :
    Laid B len wh ct [] (((wr.alloc (.cells #[.string ⟨#[]⟩, .string ⟨#[97]⟩, .string ⟨#[98]⟩, .string ⟨#[99]⟩, .string ⟨#[97, 47, 100]⟩, .string ⟨#[98, 47, 100]⟩, .string ⟨#[99, 47, 100]⟩] 53)).alloc (.cells (madeCells #[.pointer none] len) 32)).alloc (.cells (madeCells #[.string ⟨#[]⟩] len) 9)) := by
  obtain ⟨h0, h1, h2, hold⟩ := heap3 wr (.cells #[.string ⟨#[]⟩, .string ⟨#[97]⟩, .string ⟨#[98]⟩, .string ⟨#[99]⟩, .string ⟨#[97, 47, 100]⟩, .string ⟨#[98, 47, 100]⟩, .string ⟨#[99, 47, 100]⟩] 53) (.cells (madeCells #[.pointer none] len) 32) (.cells (madeCells #[.string ⟨#[]⟩] len) 9)
  rw [hs] at h0 h1 h2
  have bl : ∀ i, i < 7 → blj 3 i := fun i hi => by unfold blj; omega
  have hm : len ≤ maxLen := by unfold maxLen; omega
  refine ⟨fun i hi => ?_, ?_, h0, ⟨rfl, .inr ⟨B + 24, len, _, rfl, by omega, h1, Nat.zero_le _, hm, by simp [madeCells], by simp⟩⟩, ⟨rfl, .inr ⟨B + 25, len, _, rfl, by omega, h2, Nat.zero_le _, hm, by simp [madeCells], by simp⟩⟩, fun i r hr => by simp at hr, by simp⟩
  · obtain ⟨f1, f2, f3⟩ := P.fold i hi (bl i hi)
    rw [ksj3 i hi] at f2
    exact ⟨(hold _ (lt_of_block f1)).trans f1, (hold _ (lt_of_block f2)).trans f2, (hold _ (lt_of_block f3)).trans f3⟩
  · obtain ⟨cur, s1, s2, s3⟩ := P.subs
    exact ⟨cur, (hold _ (lt_of_block s1)).trans s1, fun i hi => s3 i hi (bl i hi)⟩

end Go.Proofs.Ybulkbkfm
