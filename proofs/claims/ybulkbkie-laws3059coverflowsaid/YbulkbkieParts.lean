/-
  Seat b3059a: what the walks say of memory: the stack's struct, its two rows, its segments. No walk here.
-/
import Derived.Test.YbulkbkieRows
import Derived.WalkKit
import Derived.WalkSpells
import Derived.WalkLawsBesides
namespace Go.Proofs.Ybulkbkie
open Go.RowKit

theorem hide {p : Prop} (h : p) : Hid p := h
theorem unhide {p : Prop} (h : Hid p) : p := h

theorem info35 : (Yba.prog.info? 35).map (fun i => (i.zero, i.size, i.bytes)) = some (some (.slice none 0 0), 1, 24) := by kernel_rfl
theorem info3 : (Yba.prog.info? 3).map (fun i => (i.zero, i.size, i.bytes)) = some (some (.int .i64 0), 1, 8) := by kernel_rfl
theorem info42 : (Yba.prog.info? 42).map (fun i => (i.zero, i.size, i.bytes)) = some (some (.agg #[.int .u8 0, .int .i64 0, .nilIface]), 3, 32) := by kernel_rfl

/-- The three cells of the k-th value of a row of values. -/
def Three (cur : Array Value) (k : Nat) (a b : Int) : Prop :=
  cur[k * 3]? = some (.int .u8 a) ∧ cur[k * 3 + 1]? = some (.int .i64 b) ∧ cur[k * 3 + 2]? = some .nilIface

/-- Block g is a segment of m values, the first k of which are filled as zzs3059cbuild fills segment j; the rest is zero. -/
def SegK (w : World) (g m j k : Nat) : Prop :=
  ∃ cur, w.heap[g]? = some (.cells cur 42 (0, 0)) ∧ cur.size = m * 3 ∧ (∀ i, i < k → i < m → Three cur i 1 (j * 1000 + i + 1)) ∧ ∀ i, k ≤ i → i < m → Three cur i 0 0

theorem SegK.kept {w w' : World} {g m j k : Nat} (h : SegK w g m j k) (hb : w'.heap[g]? = w.heap[g]?) : SegK w' g m j k := by
  obtain ⟨cur, h1, h2⟩ := h
  exact ⟨cur, hb.trans h1, h2⟩

theorem made_three (m i : Nat) (hi : i < m) : Three (madeCells #[.int .u8 0, .int .i64 0, .nilIface] (m * 3)) i 0 0 := by
  have e0 : i * 3 % 3 = 0 := by omega
  have e1 : (i * 3 + 1) % 3 = 1 := by omega
  have e2 : (i * 3 + 2) % 3 = 2 := by omega
  refine ⟨?_, ?_, ?_⟩
  · simp [madeCells, show i * 3 < m * 3 by omega]
  · simp [madeCells, show i * 3 + 1 < m * 3 by omega, e1]
  · simp [madeCells, show i * 3 + 2 < m * 3 by omega, e2]

theorem seg_made (w : World) (m j : Nat) : SegK (w.alloc (.cells (madeCells #[.int .u8 0, .int .i64 0, .nilIface] (m * 3)) 42)) w.heap.size m j 0 :=
  ⟨_, heap_alloc_new w _, by simp [madeCells], fun i hi => by omega, fun i _ hi => made_three m i hi⟩

theorem SegK.cells {w : World} {g m j k : Nat} (h : SegK w g m j k) {i : Nat} (hi : i < m) (hk : k ≤ i) :
    w.cell? ⟨g, i * 3, none⟩ = some (.int .u8 0) ∧ w.cell? ⟨g, i * 3 + 1, none⟩ = some (.int .i64 0) ∧ w.cell? ⟨g, i * 3 + 2, none⟩ = some .nilIface := by
  obtain ⟨cur, h1, h2, h3, h4⟩ := h
  obtain ⟨a, b, c⟩ := h4 i hk hi
  exact ⟨by simp [World.cell?, h1, a], by simp [World.cell?, h1, b], by simp [World.cell?, h1, c]⟩

theorem SegK.full {w : World} {g m j k : Nat} (h : SegK w g m j k) {i : Nat} (hi : i < m) (hk : i < k) :
    w.cell? ⟨g, i * 3, none⟩ = some (.int .u8 1) ∧ w.cell? ⟨g, i * 3 + 1, none⟩ = some (.int .i64 (j * 1000 + i + 1)) ∧ w.cell? ⟨g, i * 3 + 2, none⟩ = some .nilIface := by
  obtain ⟨cur, h1, h2, h3, h4⟩ := h
  obtain ⟨a, b, c⟩ := h3 i hk hi
  exact ⟨by simp [World.cell?, h1, a], by simp [World.cell?, h1, b], by simp [World.cell?, h1, c]⟩

theorem SegK.free {w : World} {g m j k : Nat} (h : SegK w g m j k) (o : Nat) : w.frozen? ⟨g, o, none⟩ = false := by
  obtain ⟨cur, h1, _⟩ := h
  simp [World.frozen?, h1]

/-- One round of the inner loop: two stores. -/
theorem SegK.step {w : World} {g m j k : Nat} (h : SegK w g m j k) (hk : k < m) :
    SegK ((w.setCell ⟨g, k * 3, none⟩ (.int .u8 1)).setCell ⟨g, k * 3 + 1, none⟩ (.int .i64 (j * 1000 + k + 1))) g m j (k + 1) := by
  obtain ⟨cur, h1, h2, h3, h4⟩ := h
  refine ⟨(cur.setIfInBounds (k * 3) (.int .u8 1)).setIfInBounds (k * 3 + 1) (.int .i64 (j * 1000 + k + 1)), ?_, by simp [h2], fun i hi him => ?_, fun i hi him => ?_⟩
  · exact heap_setCell_same _ _ _ _ _ _ (heap_setCell_same _ _ _ _ _ _ h1)
  · by_cases e : i = k
    · subst e
      obtain ⟨a, b, c⟩ := h4 i (Nat.le_refl _) hk
      refine ⟨?_, ?_, ?_⟩
      · simp [Array.getElem?_setIfInBounds, h2]; omega
      · simp [Array.getElem?_setIfInBounds, h2]; omega
      · rw [Array.getElem?_setIfInBounds_ne (by omega), Array.getElem?_setIfInBounds_ne (by omega)]; exact c
    · obtain ⟨a, b, c⟩ := h3 i (by omega) him
      refine ⟨?_, ?_, ?_⟩ <;> rw [Array.getElem?_setIfInBounds_ne (by omega), Array.getElem?_setIfInBounds_ne (by omega)] <;> assumption
  · obtain ⟨a, b, c⟩ := h4 i (by omega) him
    refine ⟨?_, ?_, ?_⟩ <;> rw [Array.getElem?_setIfInBounds_ne (by omega), Array.getElem?_setIfInBounds_ne (by omega)] <;> assumption

/-- The stack's struct lies in block sb; its two rows are the call's own. -/
def Stk (w : World) (B sb : Nat) (v1 v2 : Value) (n1 n2 : Nat) (xs ys : List Value) : Prop :=
  w.heap[sb]? = some (.cells #[v1, v2, .int .i64 0] 46 (0, 0)) ∧ w.ownsRow B 35 1 v1 n1 xs ∧ w.ownsRow B 3 1 v2 n2 ys

theorem own_ne {w : World} {B e n b : Nat} {v : Value} {xs : List Value} {c : Array Value} {t : Nat} {f : Nat × Nat} (h : w.ownsRow B e 1 v n xs) (hb : w.heap[b]? = some (.cells c t f)) (ht : t ≠ e) : some b ≠ v.ownBlock := by
  rcases h.2 with ⟨rfl, _⟩ | ⟨g, cap, cur, rfl, _, hg, _⟩
  · simp [Value.ownBlock]
  · simp only [Value.ownBlock, ne_eq, Option.some.injEq]
    intro e1
    subst e1
    rw [hg] at hb
    simp only [Option.some.injEq, Obj.cells.injEq] at hb
    exact ht hb.2.1.symm

theorem own_own {w : World} {B e e' n n' : Nat} {v v' : Value} {xs xs' : List Value} (h : w.ownsRow B e 1 v n xs) (h' : w.ownsRow B e' 1 v' n' xs') (ht : e ≠ e') : v.ownBlock = none ∨ v.ownBlock ≠ v'.ownBlock := by
  rcases h.2 with ⟨rfl, _⟩ | ⟨g, cap, cur, rfl, _, hg, _⟩
  · exact .inl rfl
  · exact .inr (own_ne h' hg ht)

theorem own_form {w : World} {B e n : Nat} {v : Value} {xs : List Value} (h : w.ownsRow B e 1 v n xs) : ∃ a c, v = .slice a n c := by
  rcases h.2 with ⟨rfl, rfl⟩ | ⟨g, cap, cur, rfl, _⟩
  · exact ⟨_, _, rfl⟩
  · exact ⟨_, _, rfl⟩

theorem own_pos {w : World} {B e n : Nat} {v : Value} {xs : List Value} (h : w.ownsRow B e 1 v (n + 1) xs) : ∃ g c, v = .slice (some ⟨g, 0, none⟩) (n + 1) c := by
  rcases h.2 with ⟨_, h0⟩ | ⟨g, cap, cur, rfl, _⟩
  · omega
  · exact ⟨_, _, rfl⟩

theorem Stk.alloc {w : World} {B sb n1 n2 : Nat} {v1 v2 : Value} {xs ys : List Value} (S : Stk w B sb v1 v2 n1 n2 xs ys) (o : Obj) : Stk (w.alloc o) B sb v1 v2 n1 n2 xs ys :=
  ⟨(heap_alloc_old w o (lt_of_block S.1)).trans S.1, S.2.1.alloc o, S.2.2.alloc o⟩

/-- A change of blocks that are none of the stack's own leaves it. -/
theorem Stk.kept {w w' : World} {B sb n1 n2 : Nat} {v1 v2 : Value} {xs ys : List Value} (S : Stk w B sb v1 v2 n1 n2 xs ys) (hg : w.grownBy w' none) : Stk w' B sb v1 v2 n1 n2 xs ys :=
  ⟨(hg.block sb (lt_of_block S.1) (by simp)).trans S.1, S.2.1.kept hg (by cases h : v1.ownBlock <;> simp), S.2.2.kept hg (by cases h : v2.ownBlock <;> simp)⟩

theorem Stk.fields {w : World} {B sb n1 n2 : Nat} {v1 v2 : Value} {xs ys : List Value} (S : Stk w B sb v1 v2 n1 n2 xs ys) :
    w.cell? ⟨sb, 0, none⟩ = some v1 ∧ w.cell? ⟨sb, 1, none⟩ = some v2 ∧ w.cell? ⟨sb, 2, none⟩ = some (.int .i64 0) ∧ (∀ o, w.frozen? ⟨sb, o, none⟩ = false) := by
  have h := S.1
  exact ⟨by simp [World.cell?, h], by simp [World.cell?, h], by simp [World.cell?, h], fun o => by simp [World.frozen?, h]⟩

/-- 's.segments = append(s.segments, seg)': behind the law on append and the store. -/
theorem Stk.push1 {wi w1 : World} {B sb n1 n2 : Nat} {v1 v2 v1' sv : Value} {xs ys : List Value} {o : Obj} (S : Stk wi B sb v1 v2 n1 n2 xs ys) (hB : B ≤ wi.heap.size) (hsb : B ≤ sb)
    (hown : w1.ownsRow B 35 1 v1' (n1 + 1) (xs ++ [sv])) (hg : (wi.alloc o).grownBy w1 v1.ownBlock) :
    Stk (w1.setCell ⟨sb, 0, none⟩ v1') B sb v1' v2 (n1 + 1) n2 (xs ++ [sv]) ys ∧ Below B wi (w1.setCell ⟨sb, 0, none⟩ v1') ∧
      (∀ (b : Nat) (c : Array Value) (t : Nat), wi.heap[b]? = some (.cells c t (0, 0)) → t ≠ 35 → t ≠ 46 → (w1.setCell ⟨sb, 0, none⟩ v1').heap[b]? = wi.heap[b]?) := by
  have SA := S.alloc o
  have hlt := lt_of_block SA.1
  have hs1 : w1.heap[sb]? = some (.cells #[v1, v2, .int .i64 0] 46 (0, 0)) := (hg.block sb hlt (own_ne SA.2.1 SA.1 (by decide))).trans SA.1
  have h2 : w1.ownsRow B 3 1 v2 n2 ys := SA.2.2.kept hg (own_own SA.2.2 SA.2.1 (by decide))
  have e1 : some sb ≠ v1'.ownBlock := own_ne hown hs1 (by decide)
  have e2 : some sb ≠ v2.ownBlock := own_ne h2 hs1 (by decide)
  refine ⟨⟨?_, ownsRow_setCell_other hown (fun e => e1 e.symm) _, ownsRow_setCell_other h2 (fun e => e2 e.symm) _⟩, ?_, fun b c t hb ht ht' => ?_⟩
  · exact heap_setCell_same _ _ _ _ _ _ hs1
  · exact (((Below.refl _ _).alloc hB _).grown hg (by simp; omega) (fun k hk => (SA.2.1.lt k hk).1)).setCell (by exact hsb) _
  · have hb' : (wi.alloc o).heap[b]? = some (.cells c t (0, 0)) := (heap_alloc_old wi o (lt_of_block hb)).trans hb
    have hne : b ≠ sb := fun e => by subst e; rw [S.1] at hb; simp only [Option.some.injEq, Obj.cells.injEq] at hb; exact ht' hb.2.1.symm
    rw [heap_setCell_other _ _ _ _ hne, hg.block b (lt_of_block hb') (own_ne SA.2.1 hb' ht), hb', hb]

/-- 's.entered = append(s.entered, x)': the same. -/
theorem Stk.push2 {wi w1 : World} {B sb n1 n2 : Nat} {v1 v2 v2' sv : Value} {xs ys : List Value} {o : Obj} (S : Stk wi B sb v1 v2 n1 n2 xs ys) (hB : B ≤ wi.heap.size) (hsb : B ≤ sb)
    (hown : w1.ownsRow B 3 1 v2' (n2 + 1) (ys ++ [sv])) (hg : (wi.alloc o).grownBy w1 v2.ownBlock) :
    Stk (w1.setCell ⟨sb, 1, none⟩ v2') B sb v1 v2' n1 (n2 + 1) xs (ys ++ [sv]) ∧ Below B wi (w1.setCell ⟨sb, 1, none⟩ v2') ∧
      (∀ (b : Nat) (c : Array Value) (t : Nat), wi.heap[b]? = some (.cells c t (0, 0)) → t ≠ 3 → t ≠ 46 → (w1.setCell ⟨sb, 1, none⟩ v2').heap[b]? = wi.heap[b]?) := by
  have SA := S.alloc o
  have hlt := lt_of_block SA.1
  have hs1 : w1.heap[sb]? = some (.cells #[v1, v2, .int .i64 0] 46 (0, 0)) := (hg.block sb hlt (own_ne SA.2.2 SA.1 (by decide))).trans SA.1
  have h1 : w1.ownsRow B 35 1 v1 n1 xs := SA.2.1.kept hg (own_own SA.2.1 SA.2.2 (by decide))
  have e1 : some sb ≠ v1.ownBlock := own_ne h1 hs1 (by decide)
  have e2 : some sb ≠ v2'.ownBlock := own_ne hown hs1 (by decide)
  refine ⟨⟨?_, ownsRow_setCell_other h1 (fun e => e1 e.symm) _, ownsRow_setCell_other hown (fun e => e2 e.symm) _⟩, ?_, fun b c t hb ht ht' => ?_⟩
  · exact heap_setCell_same _ _ _ _ _ _ hs1
  · exact (((Below.refl _ _).alloc hB _).grown hg (by simp; omega) (fun k hk => (SA.2.2.lt k hk).1)).setCell (by exact hsb) _
  · have hb' : (wi.alloc o).heap[b]? = some (.cells c t (0, 0)) := (heap_alloc_old wi o (lt_of_block hb)).trans hb
    have hne : b ≠ sb := fun e => by subst e; rw [S.1] at hb; simp only [Option.some.injEq, Obj.cells.injEq] at hb; exact ht' hb.2.1.symm
    rw [heap_setCell_other _ _ _ _ hne, hg.block b (lt_of_block hb') (own_ne SA.2.2 hb' ht), hb', hb]

/-- .. the struct ahead of the store. -/
theorem Stk.mid1 {wi w1 : World} {B sb n1 n2 : Nat} {v1 v2 : Value} {xs ys : List Value} {o : Obj} (S : Stk wi B sb v1 v2 n1 n2 xs ys) (hg : (wi.alloc o).grownBy w1 v1.ownBlock) :
    w1.cell? ⟨sb, 0, none⟩ = some v1 ∧ w1.cell? ⟨sb, 1, none⟩ = some v2 ∧ (∀ o, w1.frozen? ⟨sb, o, none⟩ = false) ∧ sb < w1.heap.size := by
  have SA := S.alloc o
  have hs1 : w1.heap[sb]? = some (.cells #[v1, v2, .int .i64 0] 46 (0, 0)) := (hg.block sb (lt_of_block SA.1) (own_ne SA.2.1 SA.1 (by decide))).trans SA.1
  exact ⟨by simp [World.cell?, hs1], by simp [World.cell?, hs1], fun o => by simp [World.frozen?, hs1], lt_of_block hs1⟩

theorem Stk.mid2 {wi w1 : World} {B sb n1 n2 : Nat} {v1 v2 : Value} {xs ys : List Value} {o : Obj} (S : Stk wi B sb v1 v2 n1 n2 xs ys) (hg : (wi.alloc o).grownBy w1 v2.ownBlock) :
    w1.cell? ⟨sb, 0, none⟩ = some v1 ∧ w1.cell? ⟨sb, 1, none⟩ = some v2 ∧ (∀ o, w1.frozen? ⟨sb, o, none⟩ = false) ∧ sb < w1.heap.size := by
  have SA := S.alloc o
  have hs1 : w1.heap[sb]? = some (.cells #[v1, v2, .int .i64 0] 46 (0, 0)) := (hg.block sb (lt_of_block SA.1) (own_ne SA.2.2 SA.1 (by decide))).trans SA.1
  exact ⟨by simp [World.cell?, hs1], by simp [World.cell?, hs1], fun o => by simp [World.frozen?, hs1], lt_of_block hs1⟩

/-- Of the segments listed by 'ok' each is filled as it was built. -/
def Segs (w : World) (B : Nat) (z : Nat → Int) (xs : List Value) (ok : Nat → Prop) : Prop :=
  ∀ i, ok i → ∃ g m : Nat, z i % 16 = m ∧ B ≤ g ∧ xs[i]? = some (.slice (some ⟨g, 0, none⟩) m m) ∧ SegK w g m i m

theorem Segs.kept {w w' : World} {B : Nat} {z : Nat → Int} {xs : List Value} {ok : Nat → Prop} (h : Segs w B z xs ok) (hk : ∀ (b : Nat) (c : Array Value), w.heap[b]? = some (.cells c 42 (0, 0)) → w'.heap[b]? = w.heap[b]?) : Segs w' B z xs ok := by
  intro i hi
  obtain ⟨g, m, h1, h2, h3, h4⟩ := h i hi
  refine ⟨g, m, h1, h2, h3, h4.kept ?_⟩
  obtain ⟨cur, hc, _⟩ := h4
  exact hk g cur hc

def Ents (ys : List Value) (ok : Nat → Prop) : Prop := ∀ i, ok i → ys[i]? = some (.int .i64 i)

/-- WHAT THE BUILD's LOOP KEEPS, behind j rounds. -/
def Built (w : World) (B sb : Nat) (z : Nat → Int) (j : Nat) : Prop :=
  ∃ v1 v2 xs ys, Stk w B sb v1 v2 j j xs ys ∧ Segs w B z xs (· < j) ∧ Ents ys (· < j)

/-- One round of the build: from the world wr ahead of it, over wi behind the inner loop, to wf behind the two appends. -/
theorem built_step {wo wi wa wf : World} {B sb j m : Nat} {z : Nat → Int} {v1' v2' : Value} {xs ys : List Value}
    (hS : Segs wo B z xs (· < j)) (hE : Ents ys (· < j)) (hm : z j % 16 = m) (hBo : B ≤ wo.heap.size) (hx : xs.length = j) (hy : ys.length = j)
    (hgr : wo.grownBy wi none) (hseg : SegK wi wo.heap.size m j m)
    (K1 : ∀ (b : Nat) (c : Array Value) (t : Nat), wi.heap[b]? = some (.cells c t (0, 0)) → t ≠ 35 → t ≠ 46 → wa.heap[b]? = wi.heap[b]?)
    (K2 : ∀ (b : Nat) (c : Array Value) (t : Nat), wa.heap[b]? = some (.cells c t (0, 0)) → t ≠ 3 → t ≠ 46 → wf.heap[b]? = wa.heap[b]?)
    (S : Stk wf B sb v1' v2' (j + 1) (j + 1) (xs ++ [.slice (some ⟨wo.heap.size, 0, none⟩) m m]) (ys ++ [.int .i64 j])) : Built wf B sb z (j + 1) := by
  have K : ∀ (b : Nat) (c : Array Value), wi.heap[b]? = some (.cells c 42 (0, 0)) → wf.heap[b]? = wi.heap[b]? := fun b c hb => by
    have h1 := K1 b c 42 hb (by decide) (by decide)
    rw [K2 b c 42 (h1.trans hb) (by decide) (by decide), h1]
  refine ⟨v1', v2', _, _, S, fun i hi => ?_, fun i hi => ?_⟩
  · by_cases e : i = j
    · subst e
      refine ⟨wo.heap.size, m, hm, hBo, by simp [← hx], hseg.kept ?_⟩
      obtain ⟨cur, hc, _⟩ := hseg
      exact K _ cur hc
    · obtain ⟨g, m', h1, h2, h3, h4⟩ := hS i (by omega)
      refine ⟨g, m', h1, h2, ?_, h4.kept ?_⟩
      · rw [List.getElem?_append_left (by omega)]; exact h3
      · obtain ⟨cur, hc, _⟩ := h4
        have hg := hgr.block g (lt_of_block hc) (by simp)
        rw [K g cur (hg.trans hc), hg]
  · by_cases e : i = j
    · subst e; simp [← hy]
    · rw [List.getElem?_append_left (by omega)]; exact hE i (by omega)

end Go.Proofs.Ybulkbkie
