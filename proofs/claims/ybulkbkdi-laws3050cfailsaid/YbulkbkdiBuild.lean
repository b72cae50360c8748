/-
  Seat b3050a: zzs3050cbuild.
-/
import Derived.Test.YbulkbkdiSortAny
import Derived.Test.YbulkbkdiPl
import Derived.Test.YbulkbkdiStAny
import Derived.Laws.MakeOwn
namespace Go.Proofs.Ybulkbkdi
open Go.RowKit Go.Sort

theorem info39 : (Yba.prog.info? 39).map (fun i => (i.zero, i.size, i.bytes)) = some (some (.pointer none), 1, 8) := by kernel_rfl
theorem info46' : (Yba.prog.info? 46).map (fun i => (i.zero, i.size, i.bytes)) = some (some .nilIface, 1, 16) := by kernel_rfl
theorem info_of {e : Nat} {z : Value} {s b : Nat} (h : (Yba.prog.info? e).map (fun i => (i.zero, i.size, i.bytes)) = some (some z, s, b)) : ∃ i, Yba.prog.info? e = some i ∧ i.zero = some z ∧ i.size = s ∧ i.bytes = b := by
  cases he : Yba.prog.info? e with
  | none => rw [he] at h; simp at h
  | some i => rw [he] at h; simp at h; exact ⟨i, rfl, h.1, h.2.1, h.2.2⟩

/-- The rows that came in: row j reads as the bytes X j. -/
structure Src (W : World) (q : Option Addr) (n : Nat) (A : Nat → Option Addr) (C : Nat → Nat) (X : Nat → List Int) : Prop where
  row : ∀ i, i < n → ∃ b o, q = some ⟨b, o, none⟩ ∧ b < W.heap.size ∧ W.cell? ⟨b, o + i, none⟩ = some (.slice (A i) (X i).length (C i))
  small : ∀ i, i < n → (X i).length ≤ 256
  nilrow : ∀ i, i < n → A i = none → X i = []
  cells : ∀ i, i < n → 0 < (X i).length → ∀ b o s, A i = some ⟨b, o, s⟩ → s = none ∧ ∀ t (h : t < (X i).length), b < W.heap.size ∧ W.cell? ⟨b, o + t, none⟩ = some (.int .u8 (X i)[t])

theorem make39 (W : World) (n : Nat) (hn : n ≤ 256) : (Instr.makeSlice 24 (.int .i64 (n : Int)) (.int .i64 (n : Int))).run Yba.prog W = .ok (.slice (some ⟨W.heap.size, 0, none⟩) n n) (W.alloc (.cells (madeCells #[.pointer none] n) 39)) := by
  obtain ⟨i0, hi, hz, h1, h2⟩ := info_of info39
  have h := run_make (P := Yba.prog) W 24 39 i0 _ Yba.underlying24 hi hz .i64 .i64 n n (by omega) (by omega) (by rw [h2]; omega) (by omega)
  rw [h1, show (Value.pointer none).cells = #[.pointer none] from rfl] at h
  simpa using h
theorem make46 (W : World) (n : Nat) (hn : n ≤ 256) : (Instr.makeSlice 25 (.int .i64 (n : Int)) (.int .i64 (n : Int))).run Yba.prog W = .ok (.slice (some ⟨W.heap.size, 0, none⟩) n n) (W.alloc (.cells (madeCells #[.nilIface] n) 46)) := by
  obtain ⟨i0, hi, hz, h1, h2⟩ := info_of info46'
  have h := run_make (P := Yba.prog) W 25 46 i0 _ Yba.underlying25 hi hz .i64 .i64 n n (by omega) (by omega) (by rw [h2]; omega) (by omega)
  rw [h1, show Value.nilIface.cells = #[.nilIface] from rfl] at h
  simpa using h

/-- What the build has laid behind i rounds. -/
def Built (W : World) (n : Nat) (X : Nat → List Int) (i : Nat) (ev : Value) (wr : World) : Prop :=
  ∃ P G KV K, BR W.heap.size n X i W.heap.size (W.heap.size + 1) P G KV K wr ∧ wr.ownsRow W.heap.size 34 3 ev (want K i).length (flat (want K i)) ∧ (∀ k, ev.ownBlock = some k → Off i W.heap.size (W.heap.size + 1) P G k) ∧ Below W.heap.size W wr

theorem built0 (W : World) (n : Nat) (X : Nat → List Int) : Built W n X 0 (.slice none 0 0) ((W.alloc (.cells (madeCells #[.pointer none] n) 39)).alloc (.cells (madeCells #[.nilIface] n) 46)) := by
  refine ⟨fun _ => 0, fun _ => 0, fun _ => .nilIface, fun _ => [], ⟨⟨madeCells #[.pointer none] n, ?_, size_madeCells _ _, fun j hj => by omega⟩, ⟨madeCells #[.nilIface] n, ?_, size_madeCells _ _, fun j hj => by omega⟩, fun j hj => by omega, fun j hj => by omega, fun j hj => by omega, fun j hj => by omega, ⟨Nat.le_refl _, by omega, by omega⟩, fun j hj => by omega, fun j k hj => by omega, fun j k hj => by omega⟩, World.ownsRow_nil _ _ _ _, fun k hk => by simp [Value.ownBlock] at hk, ((Below.refl _ _).alloc (Nat.le_refl _) _).alloc (by simp) _⟩
  · rw [Below.heap_alloc _ _ _ (by simp)]; exact alloc_new W _
  · have := alloc_new (W.alloc (.cells (madeCells #[.pointer none] n) 39)) (.cells (madeCells #[.nilIface] n) 46)
    simpa using this
theorem want_upd (K : Nat → List Int) (i : Nat) (ys : List Int) : want (upd K i ys) i = want K i := by
  unfold want
  simp only [List.flatMap]
  congr 1
  refine List.map_congr_left fun j hj => ?_
  have hj2 : j < i := List.mem_range.1 hj
  unfold recs
  rw [upd_lt K ys hj2]

/-- In the inner loop: source i is laid, j of its records are expected. -/
def Mid (W : World) (n : Nat) (X : Nat → List Int) (i : Nat) (P G : Nat → Nat) (KV : Nat → Value) (K : Nat → List Int) (ev : Value) (j : Nat) (wx : World) : Prop :=
  BR W.heap.size n X (i + 1) W.heap.size (W.heap.size + 1) P G KV K wx ∧ wx.ownsRow W.heap.size 34 3 ev (want K i ++ (recs K i).take j).length (flat (want K i ++ (recs K i).take j)) ∧ (∀ k, ev.ownBlock = some k → Off (i + 1) W.heap.size (W.heap.size + 1) P G k) ∧ Below W.heap.size W wx

theorem BR.off_new {B n : Nat} {X : Nat → List Int} {i rb sb : Nat} {P G : Nat → Nat} {KV : Nat → Value} {K : Nat → List Int} {W : World} (h : BR B n X i rb sb P G KV K W) {k : Nat} (hk : W.heap.size ≤ k) : Off i rb sb P G k := by
  obtain ⟨_, hr, _⟩ := h.runs
  obtain ⟨_, hs, _⟩ := h.srcs
  have h1 := lt_of hr
  have h2 := lt_of hs
  refine ⟨by omega, by omega, fun j hj => ?_⟩
  obtain ⟨⟨_, _, _, a4⟩, a5⟩ := h.new j hj
  exact ⟨by omega, by rcases a5 with ⟨_, e⟩ | ⟨_, _, _, e⟩ <;> omega⟩

theorem Mid.next {W wx w1 : World} {n : Nat} {X : Nat → List Int} {i : Nat} {P G : Nat → Nat} {KV : Nat → Value} {K : Nat → List Int} {ev : Value} {j : Nat} {o : Obj} {g cap : Nat} (h : Mid W n X i P G KV K ev j wx) (hj : j < (K i).length) (hg : (wx.alloc o).grownBy w1 ev.ownBlock)
    (hown : w1.ownsRow W.heap.size 34 3 (.slice (some ⟨g, 0, none⟩) ((want K i ++ (recs K i).take j).length + 1) cap) ((want K i ++ (recs K i).take j).length + 1) (flat (want K i ++ (recs K i).take j) ++ enc3 (head K (i, j)))) (hat : ev.ownBlock = some g ∨ wx.heap.size ≤ g) :
    Mid W n X i P G KV K (.slice (some ⟨g, 0, none⟩) ((want K i ++ (recs K i).take j).length + 1) cap) (j + 1) w1 := by
  obtain ⟨h1, h2, h3, h4⟩ := h
  have hx : (recs K i).take (j + 1) = (recs K i).take j ++ [head K (i, j)] := by
    rw [List.take_add_one, recs_get K i j hj]; rfl
  have st : Step (fun k => ev.ownBlock = some k) wx w1 := by
    refine (((Step.refl (fun k => ev.ownBlock = some k) wx).alloc o)).trans (G := fun k => ev.ownBlock = some k) ⟨hg.os, hg.tape, hg.output, hg.size, fun k hk hn => hg.block k hk (fun e => hn e.symm)⟩ (fun k _ h => h)
  refine ⟨h1.keep st fun k hk _ => h3 k hk, ?_, fun k hk => ?_, ?_⟩
  · have e : (want K i ++ (recs K i).take (j + 1)) = (want K i ++ (recs K i).take j) ++ [head K (i, j)] := by rw [hx, List.append_assoc]
    have e2 : ((want K i ++ (recs K i).take j) ++ [head K (i, j)]).length = (want K i ++ (recs K i).take j).length + 1 := by rw [List.length_append]; rfl
    rw [e, flat_append, e2]; exact hown
  · simp only [Value.ownBlock, Option.some.injEq] at hk
    subst hk
    rcases hat with e | e
    · exact h3 _ e
    · exact h1.off_new e
  · exact h4.trans (st.below (fun k hk => (h2.lt k hk).1) h4.size)

theorem Below.cellOld {W W' : World} (h : Below W.heap.size W W') {b o : Nat} {v : Value} (hb : b < W.heap.size) (hc : W.cell? ⟨b, o, none⟩ = some v) : W'.cell? ⟨b, o, none⟩ = some v := by rw [h.cell hb]; exact hc

set_option maxHeartbeats 800000 in
/-- slices.Clone of an empty slice that is not nil, wherever it points. -/
theorem clone_empty (W : World) (a : Addr) (c : Nat) : Calls Yba.prog 12 #[.slice (some a) 0 c] W fun e w' => ∃ v, e = .returned v ∧ w'.ownsRow W.heap.size 5 1 v 0 [] ∧ Below W.heap.size W w' := by
  obtain ⟨i5, hi, hz, hs, hb⟩ := info5_parts
  have q32 : ∀ (w : World) (a : Option Addr) (n c n' c' : Nat), (binOp .eql 32 (.slice a n c) (.slice none n' c')).run Yba.prog w = .ok (.bool a.isNone) w := fun w a n c n' c' => Lib.run_eql_slice_nil w _ _ a n c n' c' Yba.underlying32
  have OWN : Hid ((W.alloc (.cells #[] 5)).ownsRow W.heap.size 5 1 (.slice (some ⟨W.heap.size, 0, none⟩) 0 0) 0 []) := ⟨rfl, Or.inr ⟨W.heap.size, 0, #[], rfl, Nat.le_refl _, alloc_new W _, Nat.le_refl _, Nat.zero_le _, rfl, rfl⟩⟩
  go_enter Yba.func12, Yba.ntmps12
  go_wp2_with (at_builtin; refine wpList_append_fits_any _ rfl (.tmp 5) (.tmp 6) 32 rfl W.heap.size 5 i5 1 Yba.underlying32 hi hs W.heap.size 0 0 [] rfl OWN.out (some a) 0 c [] rfl rfl (fun h => by cases h) (fun ad _ j u hj => by simp at hj) (fun u hu => by simp at hu) (Nat.le_refl _) ?_; intro w4 hown4 hgrow4)
  go_ret
  exact ⟨_, rfl, hown4, ((Below.refl _ W).alloc (Nat.le_refl _) _).grown hgrow4 (by simp) (fun k hk => by cases hk; exact Nat.le_refl _)⟩

theorem Src.clone {W wr : World} {q : Option Addr} {n : Nat} {A : Nat → Option Addr} {C : Nat → Nat} {X : Nat → List Int} (h : Src W q n A C X) (hB : Below W.heap.size W wr) {i : Nat} (hi : i < n) :
    Calls Yba.prog 12 #[.slice (A i) (X i).length (C i)] wr fun e w' => ∃ v, e = .returned v ∧ w'.ownsRow wr.heap.size 5 1 v (X i).length ((X i).map (Value.int .u8)) ∧ Below wr.heap.size wr w' := by
  by_cases h0 : 0 < (X i).length
  · exact clone_walk wr (A i) (C i) (X i) (h.nilrow i hi) (by have := h.small i hi; omega) fun b o s e => ⟨(h.cells i hi h0 b o s e).1, fun t ht => Below.cellOld hB ((h.cells i hi h0 b o s e).2 t ht).1 ((h.cells i hi h0 b o s e).2 t ht).2⟩
  · have hx : X i = [] := List.eq_nil_of_length_eq_zero (by omega)
    cases hA : A i with
    | none => exact clone_walk wr none (C i) (X i) (fun _ => hx) (by have := h.small i hi; omega) fun b o s e => by cases e
    | some a => rw [hx]; exact clone_empty wr a (C i)

theorem alloc_set (w : World) (b o : Nat) (v : Value) (O : Obj) (h : b < w.heap.size) : (w.setCell ⟨b, o, none⟩ v).alloc O = (w.alloc O).setCell ⟨b, o, none⟩ v := by
  rw [alloc_eq_grow, alloc_eq_grow, setCell_eq, setCell_eq, mapBlock_grow _ _ _ _ h]

theorem want_len (K : Nat → List Int) : ∀ i, (∀ t, t < i → (K t).length ≤ 256) → (want K i).length ≤ 256 * i
  | 0, _ => by simp [want]
  | i + 1, h => by
    rw [want_succ, List.length_append, recs_length]
    have h1 := want_len K i fun t ht => h t (by omega)
    have h2 := h i (by omega)
    omega

theorem want_mem (K : Nat → List Int) : ∀ i, ∀ x ∈ want K i, x.2.1 < (i : Int)
  | 0, x, h => by simp [want] at h
  | i + 1, x, h => by
    rw [want_succ] at h
    rcases List.mem_append.1 h with h | h
    · have := want_mem K i x h; omega
    · obtain ⟨u, _, _, rfl⟩ := mem_drop K i 0 (by simpa using h)
      simp only [head]; omega
theorem want_tag (K : Nat → List Int) : ∀ i, (want K i).Pairwise fun x y => ltG x y = true
  | 0 => by simp [want]
  | i + 1 => by
    rw [want_succ]
    refine List.pairwise_append.2 ⟨want_tag K i, ?_, fun x hx y hy => ?_⟩
    · refine List.pairwise_iff_getElem.2 fun a b ha hb hab => ?_
      rw [recs_length] at ha hb
      have h1 := recs_get K i a ha
      have h2 := recs_get K i b hb
      rw [List.getElem?_eq_getElem (by rw [recs_length]; exact ha)] at h1
      rw [List.getElem?_eq_getElem (by rw [recs_length]; exact hb)] at h2
      injection h1 with h1
      injection h2 with h2
      rw [h1, h2]
      refine decide_eq_true (Or.inr ⟨rfl, ?_⟩)
      show (a : Int) < (b : Int)
      omega
    · have h1 := want_mem K i x hx
      obtain ⟨u, _, _, rfl⟩ := mem_drop K i 0 (by simpa using hy)
      exact decide_eq_true (Or.inl h1)

/-- What the build hands out. -/
structure Out (W : World) (n : Nat) (X : Nat → List Int) (P G : Nat → Nat) (KV : Nat → Value) (K : Nat → List Int) (ev : Value) (E : List Rec) (w : World) : Prop where
  br : BR W.heap.size n X n W.heap.size (W.heap.size + 1) P G KV K w
  exp : ExpAt w ev E
  off : ∀ k, ev.ownBlock = some k → W.heap.size ≤ k ∧ Off n W.heap.size (W.heap.size + 1) P G k
  asc : Asc E
  perm : E.Perm (want K n)
  below : Below W.heap.size W w

theorem Built.out {W wr w' : World} {n : Nat} {X : Nat → List Int} {ev : Value} {P G : Nat → Nat} {KV : Nat → Value} {K : Nat → List Int} {E : List Rec} (hBR : BR W.heap.size n X n W.heap.size (W.heap.size + 1) P G KV K wr) (hown : wr.ownsRow W.heap.size 34 3 ev (want K n).length (flat (want K n))) (hoff : ∀ k, ev.ownBlock = some k → Off n W.heap.size (W.heap.size + 1) P G k) (hbel : Below W.heap.size W wr)
    (hE : Asc E ∧ E.Perm (want K n)) (hx : ExpAt w' ev E) (st : Step (fun k => ev.ownBlock = some k) wr w') : Out W n X P G KV K ev E w' :=
  ⟨hBR.keep st fun k hk _ => hoff k hk, hx, fun k hk => ⟨(hown.lt k hk).1, hoff k hk⟩, hE.1, hE.2, hbel.trans (st.below (fun k hk => (hown.lt k hk).1) hbel.size)⟩

set_option maxHeartbeats 3200000 in
set_option maxRecDepth 1000000 in
theorem build_walk (W : World) (q : Option Addr) (n cap : Nat) (A : Nat → Option Addr) (C : Nat → Nat) (X : Nat → List Int) (hS : Src W q n A C X) (hn : n ≤ 256) :
    Calls Yba.prog 6 #[.slice q n cap] W fun e w' => ∃ P G KV K ev E, e = .returned (.tuple #[.slice (some ⟨W.heap.size, 0, none⟩) n n, .slice (some ⟨W.heap.size + 1, 0, none⟩) n n, ev]) ∧ Out W n X P G KV K ev E w' := by
  have HS := hide hS
  clear hS
  have hm1 := fun W => make39 W n hn
  have hm2 := fun W => make46 W n hn
  have H0 := hide (built0 W n X)
  go_enter Yba.func6, Yba.ntmps6
  go_wp2
  go_loopg [20, 7] n (fun g v20 v7 wr => ∃ (i : Nat) (ev : Value), v20 = .int .i64 i ∧ v7 = ev ∧ i ≤ n ∧ n - i ≤ g ∧ Hid (Built W n X i ev wr))
  case atStart => exact ⟨0, _, rfl, rfl, Nat.zero_le _, Nat.le_refl _, H0⟩
  case round =>
    clear H0
    obtain ⟨i, ev, rfl, rfl, hin, hg, hbt⟩ := hrel
    by_cases hlt : i < n
    · obtain ⟨P, G, KV, K, hBR, hown, hoff, hbel⟩ := hbt.out
      obtain ⟨b0, o0, hq0, hb0, hc0⟩ := HS.out.row i hlt
      subst hq0
      have hrow : wr.cell? ⟨b0, o0 + i, none⟩ = some (.slice (A i) (X i).length (C i)) := Below.cellOld hbel hb0 hc0
      have hcl := HS.out.clone hbel hlt
      go_upto_region 8 with (go_at_call 12; refine hcl.mono ?_; rintro e w1 ⟨v, rfl, hown1, hbel1⟩)
      obtain ⟨qk, ck, hv, hsrt⟩ := sort_any w1 wr.heap.size W.heap.size v (X i) (by have := HS.out.small i hlt; omega) hown1
      subst hv
      have Hb1 := hide hbel1
      have HBR := hide hBR
      have Hown := hide hown
      have Hoff := hide hoff
      have Hbel := hide hbel
      clear hown1 hbel1 hcl hrow hBR hown hoff hbel hbt
      go_upto_region 9 with (go_at_call 13; refine hsrt.mono ?_; rintro e w2 ⟨rfl, ys, gk, hys, hkeys, hgk⟩)
      have hst2 : Hid (Step (fun k => wr.heap.size ≤ k) wr w2) := by
        have s1 : Step (fun k => wr.heap.size ≤ k) wr w1 := ⟨Hb1.out.os, Hb1.out.tape, Hb1.out.output, Hb1.out.size, fun k hk _ => Hb1.out.block k hk⟩
        rcases hgk with ⟨_, _, rfl⟩ | ⟨h1, _, _, h4⟩
        · exact s1
        · exact s1.trans h4 fun k hk e => by subst e; exact h1
      have hBR2 : BR W.heap.size n X i W.heap.size (W.heap.size + 1) P G KV K w2 := HBR.out.keep hst2.out fun k h1 h2 => by omega
      obtain ⟨cr, hcr, hcrn, _⟩ := hBR2.runs
      obtain ⟨cs, hcs, hcsn, _⟩ := hBR2.srcs
      have c1 : ∃ u, w2.cell? ⟨W.heap.size, i, none⟩ = some u := ⟨_, (cell_of hcr i).trans (Array.getElem?_eq_getElem (by omega))⟩
      have c2 : ∃ u, w2.cell? ⟨W.heap.size + 1, i, none⟩ = some u := ⟨_, (cell_of hcs i).trans (Array.getElem?_eq_getElem (by omega))⟩
      obtain ⟨u1, c1⟩ := c1
      obtain ⟨u2, c2⟩ := c2
      have f1 := frozen_of hcr i
      have f2 := frozen_of hcs i
      have l1 := lt_of hcr
      have l2 := lt_of hcs
      have l1' : W.heap.size < w2.heap.size + 1 := by omega
      have l2' : W.heap.size + 1 < w2.heap.size + 1 := by omega
      have hi8 : i < 256 := by omega
      have HBR2 := hide hBR2
      have Hk := hide hkeys
      have Hgk := hide hgk
      clear hBR2 hkeys hgk hcr hcs hcrn hcsn Hb1
      go_upto_region 12 with fail
      rw [alloc_set _ _ _ _ _ (by simp; omega), alloc_set _ _ _ _ _ (by omega)]
      have hys1 := hys.out
      have hBR3 := HBR2.out.next hlt (by omega) Hk.out hys1.1 hys1.2.2 (Hgk.out.elim (fun ⟨a, b, _⟩ => Or.inl ⟨a, b⟩) fun ⟨a, b, _, d⟩ => Or.inr ⟨by have := Hbel.out.size; omega, Nat.lt_of_lt_of_le b d.size, HBR.out.off_new a⟩)
      have st3 : Step (fun k => wr.heap.size ≤ k ∨ k = W.heap.size ∨ k = W.heap.size + 1) wr (((w2.alloc (.cells #[.slice qk (X i).length ck, .int .u8 i, .int .i64 (-1), .int .i64 0, .int .i64 (-1), .nilIface, .slice none 0 0, .slice none 0 0] 38)).setCell ⟨W.heap.size, i, none⟩ (.pointer (some ⟨w2.heap.size, 0, none⟩))).setCell ⟨W.heap.size + 1, i, none⟩ (.iface 39 (.pointer (some ⟨w2.heap.size, 0, none⟩)))) :=
        (((hst2.out.mono (G := fun k => wr.heap.size ≤ k ∨ k = W.heap.size ∨ k = W.heap.size + 1) fun k _ h => Or.inl h).alloc _).setCell (p := ⟨W.heap.size, i, none⟩) (Or.inl (Or.inr (Or.inl rfl))) _).setCell (p := ⟨W.heap.size + 1, i, none⟩) (Or.inl (Or.inr (Or.inr rfl))) _
      generalize (((w2.alloc (.cells #[.slice qk (X i).length ck, .int .u8 i, .int .i64 (-1), .int .i64 0, .int .i64 (-1), .nilIface, .slice none 0 0, .slice none 0 0] 38)).setCell ⟨W.heap.size, i, none⟩ (.pointer (some ⟨w2.heap.size, 0, none⟩))).setCell ⟨W.heap.size + 1, i, none⟩ (.iface 39 (.pointer (some ⟨w2.heap.size, 0, none⟩)))) = w3 at hBR3 st3 ⊢
      have hw2 : wr.heap.size ≤ w2.heap.size := hst2.out.size
      have hM : Mid W n X i (upd P i w2.heap.size) (upd G i gk) (upd KV i (.slice qk (X i).length ck)) (upd K i ys) u7 0 w3 := by
        refine ⟨hBR3, ?_, fun k hk => ?_, Hbel.out.trans (st3.below (fun k h => by have := Hbel.out.size; omega) Hbel.out.size)⟩
        · rw [List.take_zero, List.append_nil, want_upd]
          refine ownsRow_step Hown.out st3 fun k hk => ?_
          have h1 := (Hown.out.lt k hk).2
          have h2 := Hoff.out k hk
          have := h2.1
          have := h2.2.1
          omega
        · have h1 := (Hown.out.lt k hk).2
          obtain ⟨o1, o2, o3⟩ := Hoff.out k hk
          refine ⟨o1, o2, fun j hj => ?_⟩
          by_cases e : j = i
          · subst e
            rw [upd_same, upd_same]
            exact ⟨by omega, by rcases Hgk.out with ⟨_, e, _⟩ | ⟨e, _⟩ <;> omega⟩
          · rw [upd_lt _ _ (by omega), upd_lt _ _ (by omega)]; exact o3 j (by omega)
      have HM := hide hM
      have hyl : ys.length = (X i).length := hys1.2.1
      have Hyl := hide hyl
      clear hM hBR3 st3 hyl hys1 hys hst2 HBR2 HBR Hown Hoff Hbel Hk Hgk c1 c2 f1 f2 l1 l2 l1' l2' hw2
      go_wp2_with fail
      go_loopg [46, 7] (X i).length (fun g v46 v7 wx => ∃ (j : Nat) (ev' : Value), v46 = .int .i64 j ∧ v7 = ev' ∧ j ≤ (X i).length ∧ (X i).length - j ≤ g ∧ Hid (Mid W n X i (upd P i w2.heap.size) (upd G i gk) (upd KV i (.slice qk (X i).length ck)) (upd K i ys) ev' j wx))
      case atStart => exact ⟨0, _, rfl, rfl, Nat.zero_le _, Nat.le_refl _, HM⟩
      case round =>
        clear HM
        obtain ⟨j, ev', rfl, rfl, hjn, hg2, hM⟩ := hrel
        by_cases hj : j < (X i).length
        · have hk := hM.out.1.keys i (Nat.lt_succ_self i)
          rw [upd_same, upd_same, upd_same] at hk
          rcases hk with ⟨_, h0⟩ | ⟨cap2, hv, hgl, hcc⟩
          · exact absurd Hyl.out (by rw [h0]; simp; omega)
          · injection hv with hv1 hv2 hv3
            subst hv1
            subst hv3
            have hjy : j < ys.length := by rw [Hyl.out]; exact hj
            have cj := hcc j hjy
            obtain ⟨yj, Hyj⟩ : ∃ y, Hid (y = ys[j]) := ⟨_, hide rfl⟩
            rw [← Hyj.out] at cj
            have hj8 : j < 256 := by have := HS.out.small i hlt; omega
            clear hcc hv2
            obtain ⟨i34, hi34, hz34, hs34, hb34⟩ := info34_parts
            have hown := hM.out.2.1
            obtain ⟨L, HL⟩ : ∃ L, Hid (L = want (upd K i ys) i ++ (recs (upd K i ys) i).take j) := ⟨_, hide rfl⟩
            rw [← HL.out] at hown
            have hLl : L.length < 100000 := by
              have h1 := want_len (upd K i ys) i fun t ht => by
                have h2 := (hM.out.1.perm t (by omega)).length_eq
                have h3 := HS.out.small t (by omega)
                omega
              have h4 : ((recs (upd K i ys) i).take j).length ≤ j := List.length_take_le _ _
              rw [HL.out, List.length_append]
              omega
            have OWN : Hid ((wr.alloc (.cells #[.int .u8 yj, .int .u8 i, .int .u8 j] 34)).ownsRow W.heap.size 34 3 u7 L.length (flat L)) := hown.alloc _
            have NEWS : Hid (∀ k u, [Value.int .u8 yj, .int .u8 i, .int .u8 j][k]? = some u → (wr.alloc (.cells #[.int .u8 yj, .int .u8 i, .int .u8 j] 34)).cell? ((⟨wr.heap.size, 0, none⟩ : Addr).add k) = some u) :=
              World.news_of_block (cs := #[.int .u8 yj, .int .u8 i, .int .u8 j]) (alloc_new wr _)
            have hWw := hM.out.2.2.2.size
            have BASE : Hid (W.heap.size ≤ (wr.alloc (.cells #[.int .u8 yj, .int .u8 i, .int .u8 j] 34)).heap.size) := by show _ ≤ _; simp; omega
            have SZ : Hid ((wr.alloc (.cells #[.int .u8 yj, .int .u8 i, .int .u8 j] 34)).heap.size = wr.heap.size + 1) := by show _ = _; simp
            have ONE : Hid (∀ u ∈ [Value.int .u8 yj, .int .u8 i, .int .u8 j], u.oneCell' = true) := by
              intro u hu; simp at hu; rcases hu with rfl | rfl | rfl <;> rfl
            clear hown
            go_wp2_with (at_builtin; refine wpList_append_lies _ rfl (.tmp 49) (.tmp 59) 26 rfl W.heap.size 34 i34 (.agg #[.int .u8 0, .int .u8 0, .int .u8 0]) 3 3 Yba.underlying26 hi34 hz34 hs34 hb34 rfl (by decide) _ _ _ rfl OWN.out ⟨wr.heap.size, 0, none⟩ 1 1 [.int .u8 yj, .int .u8 i, .int .u8 j] rfl rfl NEWS.out ONE.out (by decide) (by unfold maxLen; omega) (by omega) BASE.out (wr.heap.size + 1) SZ.out ?_; intro g2 cap3 w4 hown4 hgrow4 hat4 hlt4)
            have hhead : enc3 (head (upd K i ys) (i, j)) = [Value.int .u8 yj, .int .u8 i, .int .u8 j] := by
              unfold enc3 head key
              simp only [upd_same]
              rw [Hyj.out, show ys.getD j 0 = ys[j] by simp [hjy]]
            have hMn := hM.out.next (o := .cells #[.int .u8 yj, .int .u8 i, .int .u8 j] 34) (g := g2) (cap := cap3) (w1 := w4) (by rw [upd_same]; exact hjy) hgrow4 (by rw [hhead, ← HL.out]; exact hown4) (hat4.elim Or.inl fun e => Or.inr (by omega))
            rw [← HL.out] at hMn
            have HMn := hide hMn
            clear hMn hown4 hgrow4 hat4 hhead
            go_wp2_with fail
            go_roundg ((X i).length - (j + 1))
            case measure => omega
            case rel => exact ⟨j + 1, _, by go_num, rfl, by omega, Nat.le_refl _, HMn⟩
        · have hjz : ¬ ((j : Int) < ((X i).length : Int)) := by omega
          have hB : Built W n X (i + 1) u7 wr := by
            obtain ⟨m1, m2, m3, m4⟩ := hM.out
            have e : (recs (upd K i ys) i).take j = recs (upd K i ys) i := List.take_of_length_le (by rw [recs_length, upd_same, Hyl.out]; omega)
            rw [e, ← want_succ] at m2
            exact ⟨_, _, _, _, m1, m2, m3, m4⟩
          have HB := hide hB
          clear hB
          go_wp2_with fail
          go_roundg (n - (i + 1))
          case measure => omega
          case rel => exact ⟨i + 1, _, by go_num, rfl, by omega, Nat.le_refl _, HB⟩
    · have hie : i = n := by omega
      subst hie
      obtain ⟨P, G, KV, K, hBR, hown, hoff, hbel⟩ := hbt.out
      have hwl : (want K i).length < 100000 := by
        have h1 := want_len K i fun t ht => by
          have h2 := (hBR.perm t ht).length_eq
          have h3 := HS.out.small t ht
          omega
        omega
      obtain ⟨q2, cap2, hev, hst⟩ := stable_any wr W.heap.size _ (want K i) hwl (want_tag K i) hown
      have HBR := hide hBR
      have Hown := hide hown
      have Hoff := hide hoff
      have Hbel := hide hbel
      clear hBR hown hoff hbel hbt hwl
      obtain ⟨L, HL⟩ : ∃ L, Hid (L = (want K i).length) := ⟨_, hide rfl⟩
      rw [← HL.out] at hst hev
      subst hev
      go_wp2_with (go_at_call 14; refine hst.mono ?_; rintro e w1 ⟨rfl, E, hE, hx, hst1⟩)
      go_ret3
      exact ⟨P, G, KV, K, _, E, rfl, Built.out HBR.out Hown.out Hoff.out Hbel.out hE.out hx hst1⟩
end Go.Proofs.Ybulkbkdi
