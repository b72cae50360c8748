/-
  Seat b3054a: LawS3054BEach's callback (7), LawS3054BEach (3).
-/
import Derived.Test.YbulkbkfmStop
import Derived.LaidEqlPtr
import Derived.BigQuiet
import Derived.Deep.QuietTactic
import Derived.Outline
namespace Go.Proofs.Ybulkbkfm
open Go.RowKit
set_option linter.unusedVariables false

theorem info4 : (Yba.prog.info? 4).map (fun i => (i.zero, i.size, i.bytes)) = some (some (.bool false), 1, 1) := by kernel_rfl
theorem make28 (len : Nat) (h : len ≤ 1024) (w : World) : (Instr.makeSlice 28 (.int .i64 (len : Int)) (.int .i64 (len : Int))).run Yba.prog w = .ok (.slice (some ⟨w.heap.size, 0, none⟩) len len) (w.alloc (.cells (madeCells #[.bool false] len) 4)) := by
  obtain ⟨i0, hi, hz0, hz1, hz2⟩ := info_parts info4
  have hr := run_make (P := Yba.prog) w 28 4 i0 _ Yba.underlying28 hi hz0 .i64 .i64 len len (by omega) (by omega) (by rw [hz2]; omega) (by omega)
  rw [hr, hz1]
  simp [Value.cells]

theorem len_le {α : Type} : ∀ (ys l : List α), ys.Nodup → (∀ x ∈ ys, x ∈ l) → ys.length ≤ l.length
  | [], _, _, _ => by simp
  | x :: ys, l, hn, hs => by
    obtain ⟨h1, h2⟩ := List.nodup_cons.1 hn
    obtain ⟨a, b, rfl⟩ := List.append_of_mem (hs x (by simp))
    have := len_le ys (a ++ b) h2 (fun y hy => by
      have hy' := hs y (by simp [hy])
      simp only [List.mem_append, List.mem_cons] at hy' ⊢
      rcases hy' with h | h | h
      · exact .inl h
      · exact absurd (h ▸ hy) h1
      · exact .inr h)
    simp at this ⊢
    omega

/-- What holds behind the yields ys. C: 'count'; R: the row of 'seen'. -/
structure InvE (W0 : World) (C R : Nat) (rs : List Rec) (ys : List (ByteArray × Nat)) (W : World) : Prop where
  rest : ∀ b, b < W0.heap.size → b ≠ C → b ≠ R → W.heap[b]? = W0.heap[b]?
  cnt : W.heap[C]? = some (.cells #[.int .i64 ys.length] 3 (0, 0))
  seen : ∃ arr, W.heap[R]? = some (.cells arr 4 (0, 0)) ∧ arr.size = rs.length ∧ ∀ (i : Nat) (r : Rec), rs[i]? = some r → ∃ bv, arr[i]? = some (.bool bv) ∧ (bv = true ↔ (pathB r.1, r.2.2) ∈ ys)
  nod : ys.Nodup
  sub : ∀ x ∈ ys, x ∈ AllB rs

/-- The world in which the callback is made: its variables' boxes. -/
structure Boxes (B len M : Nat) (wh : Nat → Int) (ct : Nat → ByteArray) (rs : List Rec) (W0 : World) : Prop where
  laid : Laid B len wh ct rs W0
  rlen : rs.length = len
  big : B + 25 < M
  old : ∀ r ∈ rs, r.2.2 < M
  f : W0.heap[M]? = some (.cells #[.slice (some ⟨B + 24, 0, none⟩) len len] 24 (0, 0))
  d : W0.heap[M + 1]? = some (.cells #[.slice (some ⟨B + 25, 0, none⟩) len len] 25 (0, 0))
  n : W0.heap[M + 2]? = some (.cells #[.int .i64 len] 3 (0, 0))
  s : W0.heap[M + 4]? = some (.cells #[.slice (some ⟨M + 3, 0, none⟩) len len] 28 (0, 0))
  o : W0.heap[M + 5]? = some (.cells #[.bool true] 4 (0, 0))
  size : M + 7 < W0.heap.size

theorem mem_all {B len : Nat} {wh : Nat → Int} {ct : Nat → ByteArray} {rs : List Rec} {W : World} (h : Laid B len wh ct rs W) {d : ByteArray} {p : Nat} (hm : (d, p) ∈ AllB rs) : ∃ (i : Nat) (r : Rec), rs[i]? = some r ∧ pathB r.1 = d ∧ r.2.2 = p := by
  obtain ⟨r, hr, e⟩ := List.mem_map.1 ((all_perm rs (laid_lt h)).mem_iff.1 hm)
  obtain ⟨i, hi⟩ := List.getElem?_of_mem hr
  simp only [Prod.mk.injEq] at e
  exact ⟨i, r, hi, e.1, e.2⟩

theorem apart_of {rs : List Rec} (h : (rs.map (·.2.2)).Nodup) {i j : Nat} {r s : Rec} (hi : rs[i]? = some r) (hj : rs[j]? = some s) (e : r.2.2 = s.2.2) : i = j := by
  have h1 : (rs.map (·.2.2))[i]? = some r.2.2 := by simp [hi]
  have h2 : (rs.map (·.2.2))[j]? = some s.2.2 := by simp [hj]
  have hil : i < (rs.map (·.2.2)).length := (List.getElem?_eq_some_iff.1 h1).1
  exact (List.getElem?_inj hil h).1 (by rw [h1, h2, e])

set_option maxHeartbeats 1600000 in
theorem each_cb (B len M : Nat) (wh : Nat → Int) (ct : Nat → ByteArray) (rs : List Rec) (W0 : World) (hb : Boxes B len M wh ct rs W0) (hlen : len ≤ 1024) :
    CB 7 #[.pointer (some ⟨M + 6, 0, none⟩), .pointer (some ⟨M + 2, 0, none⟩), .pointer (some ⟨M, 0, none⟩), .pointer (some ⟨M + 4, 0, none⟩), .pointer (some ⟨M + 1, 0, none⟩), .pointer (some ⟨M + 5, 0, none⟩)] W0.heap.size (fun b => b = M + 6 ∨ b = M + 3)
      (InvE W0 (M + 6) (M + 3) rs) (fun _ => true) (AllB rs) := by
  intro ys d p W hI hs _ hm hnew
  obtain ⟨jj, r, hr, rfl, rfl⟩ := mem_all hb.laid hm
  have hsz := hb.size
  have hjl : jj < len := by rw [← hb.rlen]; exact (List.getElem?_eq_some_iff.1 hr).1
  obtain ⟨arr, ha1, ha2, ha3⟩ := hI.seen
  have K : ∀ b o, W0.heap[b]? = some o → b ≠ M + 6 → b ≠ M + 3 → W.heap[b]? = some o := fun b o h h1 h2 => (hI.rest b (lt_of_block h) h1 h2).trans h
  have cC := cell_of_one hI.cnt
  have fC := free_of_one hI.cnt
  -- the world behind 'count++'
  have hcnt := one_setCell (u := .int .i64 (ys.length + 1)) hI.cnt
  have K1 : ∀ b o, W.heap[b]? = some o → b ≠ M + 6 → (W.setCell ⟨M + 6, 0, none⟩ (.int .i64 (ys.length + 1))).heap[b]? = some o := fun b o h h1 => by rw [heap_setCell_other _ _ _ _ h1]; exact h
  have b1 := len_le ys (AllB rs) hI.nod hI.sub
  rw [laid_length hb.laid] at b1
  have hsm : (ys.length : Int) ≤ 1024 := by have := hb.rlen; omega
  generalize hW1 : W.setCell ⟨M + 6, 0, none⟩ (.int .i64 (ys.length + 1)) = W1 at hcnt K1
  have KK : ∀ b o, W0.heap[b]? = some o → b ≠ M + 6 → b ≠ M + 3 → W1.heap[b]? = some o := fun b o h h1 h2 => K1 b o (K b o h h1 h2) h1
  have cN := cell_of_one (KK _ _ hb.n (by omega) (by omega))
  have cF := cell_of_one (KK _ _ hb.f (by omega) (by omega))
  have cS := cell_of_one (KK _ _ hb.s (by omega) (by omega))
  have cD := cell_of_one (KK _ _ hb.d (by omega) (by omega))
  have hrl := hb.rlen
  have cf : ∀ (i : Nat) (q : Rec), rs[i]? = some q → W1.cell? ⟨B + 24, i, none⟩ = some (.pointer (some ⟨q.2.2, 0, none⟩)) := fun i q hq => by
    obtain ⟨cur, hc⟩ := hb.laid.row1
    have e1 : W1.heap[B + 24]? = W0.heap[B + 24]? := (KK _ _ hc (by have := hb.big; omega) (by have := hb.big; omega)).trans hc.symm
    rw [World.cell?_of_block e1, hb.laid.files.cellAt i (by have := (List.getElem?_eq_some_iff.1 hq).1; omega)]
    simp [hq]
  have cd : W1.cell? ⟨B + 25, jj, none⟩ = some (.string (pathB r.1)) := by
    obtain ⟨cur, hc⟩ := hb.laid.row2
    have e1 : W1.heap[B + 25]? = W0.heap[B + 25]? := (KK _ _ hc (by have := hb.big; omega) (by have := hb.big; omega)).trans hc.symm
    rw [World.cell?_of_block e1, hb.laid.dirs.cellAt jj (by omega)]
    simp [hr]
  have hseen1 : W1.heap[M + 3]? = some (.cells arr 4 (0, 0)) := K1 _ _ ha1 (by omega)
  have cs : W1.cell? ⟨M + 3, jj, none⟩ = some (.bool false) := by
    obtain ⟨bv, h1, h2⟩ := ha3 jj r hr
    have h3 : bv = false := by
      cases bv
      · rfl
      · exact absurd (h2.1 rfl) hnew
    subst h3
    simp [World.cell?, hseen1, h1]
  have fs : W1.frozen? ⟨M + 3, jj, none⟩ = false := by simp [World.frozen?, hseen1]
  have blk : ∀ (i : Nat) (q : Rec), rs[i]? = some q → ∃ cc, W1.heap[q.2.2]? = some (.cells cc 41 (0, 0)) := fun i q hq => by
    have h1 := (hb.laid.recs i q hq).2.2.1
    have h2 := hb.old q (List.mem_of_getElem? hq)
    exact ⟨_, KK _ _ h1 (by omega) (by omega)⟩
  obtain ⟨i41, hi41, hs41⟩ : ∃ i, Yba.prog.info? 41 = some i ∧ i.size ≠ 0 := by
    have h : (Yba.prog.info? 41).map (fun i => i.size) = some 8 := by kernel_rfl
    obtain ⟨i, h1, h2⟩ := Option.map_eq_some_iff.1 h
    exact ⟨i, h1, by rw [h2]; decide⟩
  have eqs := run_eql_ptr_same (P := Yba.prog) W1 ⟨r.2.2, 0, none⟩ Yba.underlying32 hi41
  have eqo : ∀ (i : Nat) (q : Rec), rs[i]? = some q → i ≠ jj → (binOp .eql 32 (.pointer (some ⟨q.2.2, 0, none⟩)) (.pointer (some ⟨r.2.2, 0, none⟩))).run Yba.prog W1 = .ok (.bool false) W1 := fun i q hq hne => by
    obtain ⟨ca, h1⟩ := blk i q hq
    obtain ⟨cb, h2⟩ := blk jj r hr
    exact run_eql_ptr_other (P := Yba.prog) W1 (a := ⟨q.2.2, 0, none⟩) (b := ⟨r.2.2, 0, none⟩) Yba.underlying32 hi41 hs41 (fun e => hne (apart_of hb.laid.apart hq hr (by simpa using e))) h1 h2
  have HI := hide hI
  have Hb := hide hb
  have Ha := hide ha3
  have Ha1 := hide ha1
  have Ha2 := hide ha2
  have HK := hide K
  have HK1 := hide K1
  have HKK := hide KK
  have Hcf := hide cf
  have Heqo := hide eqo
  have Hcnt := hide hcnt
  have Hseen1 := hide hseen1
  have HW1 := hide hW1
  have Hr := hide hr
  have Hrl := hide hrl
  have Hm := hide hm
  have Hnew := hide hnew
  clear hI hb ha3 ha1 ha2 K K1 KK cf eqo hcnt hseen1 hW1 hr hrl blk hm hi41 hs41 hnew
  have e : (#[.string (pathB r.1), .pointer (some ⟨r.2.2, 0, none⟩)] ++ #[.pointer (some ⟨M + 6, 0, none⟩), .pointer (some ⟨M + 2, 0, none⟩), .pointer (some ⟨M, 0, none⟩), .pointer (some ⟨M + 4, 0, none⟩), .pointer (some ⟨M + 1, 0, none⟩), .pointer (some ⟨M + 5, 0, none⟩)] : Array Value) =
    #[.string (pathB r.1), .pointer (some ⟨r.2.2, 0, none⟩), .pointer (some ⟨M + 6, 0, none⟩), .pointer (some ⟨M + 2, 0, none⟩), .pointer (some ⟨M, 0, none⟩), .pointer (some ⟨M + 4, 0, none⟩), .pointer (some ⟨M + 1, 0, none⟩), .pointer (some ⟨M + 5, 0, none⟩)] := by simp
  rw [e]
  clear e
  go_enter Yba.func7, Yba.ntmps7
  go_wp2
  rw [unhide HW1]
  go_loop [11, 12] (fun s t => ∃ i : Nat, i ≤ jj ∧ t = .int .i64 i ∧ s = .int .i64 (-1)) (fun _ t => len - (intOf t).toNat)
  case atStart => exact ⟨0, Nat.zero_le _, rfl, rfl⟩
  case round =>
    obtain ⟨i, hi, rfl, rfl⟩ := hrel
    by_cases hij : i = jj
    · subst hij
      have cfi := unhide Hcf i r (unhide Hr)
      go_wp2
      go_ret
      have hne : M + 6 ≠ M + 3 := by omega
      have H1 : ∀ b, b ≠ M + 6 → W1.heap[b]? = W.heap[b]? := fun b hb' => by rw [← unhide HW1, heap_setCell_other _ _ _ _ hb']
      have hz1 : W1.heap.size = W.heap.size := by rw [← unhide HW1]; simp [World.setCell]
      have hsame : W1.os = W.os ∧ W1.tape = W.tape ∧ W1.output = W.output := by rw [← unhide HW1]; exact ⟨rfl, rfl, rfl⟩
      refine ⟨rfl, ⟨fun b hb' h1 h2 => ?_, ?_, ⟨arr.setIfInBounds i (.bool true), heap_setCell_same _ _ _ _ _ _ (unhide Hseen1), by simpa using unhide Ha2, fun k q hq => ?_⟩, ?_, ?_⟩, ⟨fun b hb' ho => ?_, ?_, hsame.1, hsame.2.1, hsame.2.2⟩, ?_⟩
      · rw [heap_setCell_other _ _ _ _ h2, H1 b h1]
        exact (unhide HI).rest b hb' h1 h2
      · rw [heap_setCell_other _ _ _ _ hne]
        have h := unhide Hcnt
        simpa using h
      · by_cases hki : k = i
        · subst hki
          have hqr : q = r := by have := hq.symm.trans (unhide Hr); simpa using this
          subst hqr
          refine ⟨true, ?_, by simp⟩
          have hk2 : k < arr.size := by rw [unhide Ha2]; exact (List.getElem?_eq_some_iff.1 hq).1
          simp [hk2]
        · obtain ⟨bv, e1, e2⟩ := unhide Ha k q hq
          refine ⟨bv, by rw [Array.getElem?_setIfInBounds_ne (fun e => hki e.symm)]; exact e1, ?_⟩
          rw [e2, List.mem_append, List.mem_singleton]
          constructor
          · exact fun h => .inl h
          · rintro (h | h)
            · exact h
            · simp only [Prod.mk.injEq] at h
              exact absurd (apart_of (unhide Hb).laid.apart hq (unhide Hr) h.2) hki
      · refine List.nodup_append.2 ⟨(unhide HI).nod, by simp, fun a ha b hb' e => ?_⟩
        simp only [List.mem_singleton] at hb'
        exact unhide Hnew (hb' ▸ e ▸ ha)
      · intro x hx
        rcases List.mem_append.1 hx with h | h
        · exact (unhide HI).sub x h
        · simp only [List.mem_singleton] at h
          rw [h]
          exact unhide Hm
      · rw [heap_setCell_other _ _ _ _ (fun e => ho (.inr e)), H1 b (fun e => ho (.inl e))]
      · simp [World.setCell, hz1]
      · simp [World.setCell, hz1]
    · obtain ⟨q, hq⟩ : ∃ q, rs[i]? = some q := ⟨rs[i]'(by have := unhide Hrl; omega), List.getElem?_eq_getElem _⟩
      have cfi := unhide Hcf i q hq
      have eqi := unhide Heqo i q hq hij
      have Hq := hide hq
      clear hq
      go_wp2
      go_round
      case rel => exact ⟨i + 1, by omega, by go_num, rfl⟩
      case measure => simp [intOf]; omega

theorem heap8 (w : World) (o0 o1 o2 o3 o4 o5 o6 o7 : Obj) {W : World} (hW : ((((((((w.alloc o0).alloc o1).alloc o2).alloc o3).alloc o4).alloc o5).alloc o6).alloc o7) = W) :
    W.heap[w.heap.size]? = some o0 ∧ W.heap[w.heap.size + 1]? = some o1 ∧ W.heap[w.heap.size + 2]? = some o2 ∧ W.heap[w.heap.size + 3]? = some o3 ∧ W.heap[w.heap.size + 4]? = some o4 ∧ W.heap[w.heap.size + 5]? = some o5 ∧ W.heap[w.heap.size + 6]? = some o6 ∧ W.heap[w.heap.size + 7]? = some o7 ∧
    (∀ b, b < w.heap.size → W.heap[b]? = w.heap[b]?) ∧ W.heap.size = w.heap.size + 8 := by
  subst hW
  refine ⟨?_, ?_, ?_, ?_, ?_, ?_, ?_, ?_, fun b hb => ?_, by simp⟩
  all_goals
    show ((((((((w.heap.push o0).push o1).push o2).push o3).push o4).push o5).push o6).push o7)[_]? = _
    simp only [Array.getElem?_push, Array.size_push]
    repeat (first | rw [if_pos trivial] | rw [if_neg (by omega)] | rw [if_pos (by omega)])

set_option maxHeartbeats 1600000 in
theorem each_law (a0 : Option Addr) (len cap : Nat) (wh : Nat → Int) (ct : Nat → ByteArray) (w : World) (It : Items w a0 len wh ct) (hl63 : len ≤ 9223372036854775807) :
    Calls Yba.prog 3 #[.slice a0 len cap] w fun e w' => e = .returned (.bool true) ∧ Below w.heap.size w w' := by
  by_cases hlen : 1024 < len
  · go_enter Yba.func3, Yba.ntmps3
    go_wp2
    go_ret
    exact ⟨rfl, Below.refl _ _⟩
  · have HIt := hide It
    clear It
    have hmk := make28 len (by omega)
    go_enter Yba.func3, Yba.ntmps3
    go_wp2_with fail
    refine (build_any a0 len cap wh ct w (by omega) (unhide HIt)).mono ?_
    rintro e w1 ⟨rs, hrl, rfl, L, hB⟩
    have Hrl := hide hrl
    have HL := hide L
    have HB := hide hB
    clear hrl L hB
    go_wp2_with fail
    refine (allFiles_any _ _).mono ?_
    rintro e w2 ⟨rfl, rfl⟩
    have hBs := (unhide HB).size
    have hbel := ((((((((unhide HB).alloc hBs (.cells #[.slice (some ⟨w.heap.size + 24, 0, none⟩) len len] 24)).alloc (by simp; omega) (.cells #[.slice (some ⟨w.heap.size + 25, 0, none⟩) len len] 25)).alloc (by simp; omega) (.cells #[.int .i64 len] 3)).alloc (by simp; omega) (.cells (madeCells #[.bool false] len) 4)).alloc (by simp; omega)
      (.cells #[.slice (some ⟨w1.heap.size + 1 + 1 + 1, 0, none⟩) len len] 28)).alloc (by simp; omega) (.cells #[.bool true] 4)).alloc (by simp; omega) (.cells #[.int .i64 0] 3)).alloc (by simp; omega) (.cells #[.pointer (some ⟨XB w.heap.size 0 + 2, 0, none⟩)] 23)
    generalize hW0 : ((((((((w1.alloc (.cells #[.slice (some ⟨w.heap.size + 24, 0, none⟩) len len] 24)).alloc (.cells #[.slice (some ⟨w.heap.size + 25, 0, none⟩) len len] 25)).alloc (.cells #[.int .i64 len] 3)).alloc (.cells (madeCells #[.bool false] len) 4)).alloc
      (.cells #[.slice (some ⟨w1.heap.size + 1 + 1 + 1, 0, none⟩) len len] 28)).alloc (.cells #[.bool true] 4)).alloc (.cells #[.int .i64 0] 3)).alloc (.cells #[.pointer (some ⟨XB w.heap.size 0 + 2, 0, none⟩)] 23)) = W0 at hbel ⊢
    obtain ⟨q0, q1, q2, q3, q4, q5, q6, q7, hold, hz⟩ := heap8 w1 _ _ _ _ _ _ _ _ hW0
    clear hW0
    have hbig := (unhide HL).big
    have L0 := (unhide HL).kept (W' := W0) (fun b hb => hold b hb)
    have hrl := unhide Hrl
    have bx : Boxes w.heap.size len w1.heap.size wh ct rs W0 := ⟨L0, hrl, hbig, fun r hr => by
      obtain ⟨i, hi⟩ := List.getElem?_of_mem hr
      exact lt_of_block ((unhide HL).recs i r hi).2.2.1, q0, q1, q2, q4, q5, by omega⟩
    have hI0 : InvE W0 (w1.heap.size + 6) (w1.heap.size + 3) rs [] W0 := ⟨fun _ _ _ _ => rfl, q6, ⟨_, q3, by simp [madeCells, hrl], fun i r hr => ⟨false, by
      have := (List.getElem?_eq_some_iff.1 hr).1
      have hil : i < len := by omega
      rw [← Array.getElem?_toList, toList_madeCells_one]
      simp [hil], by simp⟩⟩, by simp, by simp⟩
    have hcall := walk_all (g := 7) (B := w.heap.size) (N0 := W0.heap.size) (own := fun b => b = w1.heap.size + 6 ∨ b = w1.heap.size + 3) (Inv := InvE W0 (w1.heap.size + 6) (w1.heap.size + 3) rs) (cont := fun _ => true) (rs := rs) (w1.heap.size + 7) W0 eg7
      (fun b hb => by have hb' : b = w1.heap.size + 6 ∨ b = w1.heap.size + 3 := hb; omega)
      (fun ys W W' hI hb => ⟨fun b h1 h2 h3 => (hb.block b h1).trans (hI.rest b h1 h2 h3), (hb.block _ (by omega)).trans hI.cnt, by obtain ⟨arr, e1, e2⟩ := hI.seen; exact ⟨arr, (hb.block _ (by omega)).trans e1, e2⟩, hI.nod, hI.sub⟩) (by omega) (each_cb w.heap.size len w1.heap.size wh ct rs W0 bx (by omega)) L0.tree hI0 (Nat.le_refl _) rfl (laid_nodup L0) (cell_of_one q7)
    have Hcall := hide hcall
    have Hbel := hide hbel
    have Hbx := hide bx
    have Hz := hide hz
    clear hcall hbel L0 hold q0 q1 q2 q3 q4 q5 q6 q7 hz bx hI0 hrl
    go_wp2_with fail
    refine (unhide Hcall).mono ?_
    rintro e w3 ⟨rfl, zs, hI, hK, hres⟩
    have hbx := unhide Hbx
    have hzz := unhide Hz
    have hperm : zs.Perm (AllB rs) := by
      rcases hres with ⟨_, h⟩ | ⟨h, _⟩
      · exact h
      · simp at h
    have KK : ∀ b o, W0.heap[b]? = some o → b ≠ w1.heap.size + 6 → b ≠ w1.heap.size + 3 → w3.heap[b]? = some o := fun b o h h1 h2 => (hI.rest b (lt_of_block h) h1 h2).trans h
    have cO := cell_of_one (KK _ _ hbx.o (by omega) (by omega))
    have cN := cell_of_one (KK _ _ hbx.n (by omega) (by omega))
    have cF := cell_of_one (KK _ _ hbx.f (by omega) (by omega))
    have cS := cell_of_one (KK _ _ hbx.s (by omega) (by omega))
    have cC := cell_of_one hI.cnt
    have hcount : (zs.length : Int) = len := by
      have h1 := hperm.length_eq
      rw [laid_length hbx.laid, hbx.rlen] at h1
      omega
    have hq : ((zs.length : Int) != (len : Int)) = false := by simp [hcount]
    have hB3 : Below w.heap.size w w3 := (unhide Hbel).trans ⟨hK.2.2.1, hK.2.2.2.1, hK.2.2.2.2, hK.2.1, fun b hb => hK.1 b (by omega) (by omega)⟩
    have hrow : ∀ i, i < len → ∃ p, w3.cell? ⟨w1.heap.size + 3, i, none⟩ = some (.bool true) ∧ w3.cell? ⟨w.heap.size + 24, i, none⟩ = some (.pointer (some ⟨p, 0, none⟩)) ∧ w3.cell? ⟨p, 6, none⟩ = some (.string (ct i)) := fun i hi => by
      obtain ⟨r, hr⟩ : ∃ r, rs[i]? = some r := ⟨rs[i]'(by have := hbx.rlen; omega), List.getElem?_eq_getElem _⟩
      refine ⟨r.2.2, ?_, ?_, ?_⟩
      · obtain ⟨arr, e1, e2, e3⟩ := hI.seen
        obtain ⟨bv, e4, e5⟩ := e3 i r hr
        have hmem : (pathB r.1, r.2.2) ∈ zs := hperm.mem_iff.2 ((all_perm rs (laid_lt hbx.laid)).mem_iff.2 (List.mem_map.2 ⟨r, List.mem_of_getElem? hr, rfl⟩))
        rw [e5.2 hmem] at e4
        simp [World.cell?, e1, e4]
      · obtain ⟨cur, hc⟩ := hbx.laid.row1
        have e1 : w3.heap[w.heap.size + 24]? = W0.heap[w.heap.size + 24]? := (KK _ _ hc (by omega) (by omega)).trans hc.symm
        rw [World.cell?_of_block e1, hbx.laid.files.cellAt i (by have := hbx.rlen; omega)]
        simp [hr]
      · have h1 := (hbx.laid.recs i r hr).2.2.1
        have h2 := hbx.old r (List.mem_of_getElem? hr)
        have h3 := KK _ _ h1 (by omega) (by omega)
        simp [World.cell?, h3, fileCells]
    have Hrow := hide hrow
    have HB3 := hide hB3
    have Hcount := hide hcount
    clear hI hK hres hperm KK hrow hB3 hcount hbx hzz
    go_wp2
    go_loopw [10] (fun t wr => ∃ i q : Nat, i ≤ len ∧ t = .int .i64 i ∧ wr = w3.drewN q) (fun t _ => len - (intOf t).toNat)
    case atStart => exact ⟨0, 0, Nat.zero_le _, rfl, rfl⟩
    case round =>
      obtain ⟨i, q, hi, rfl, rfl⟩ := hrel
      by_cases hlt : i < len
      · obtain ⟨p, s1, s2, s3⟩ := unhide Hrow i hlt
        obtain ⟨b, off, rfl, hbl, _, _, hc0⟩ : ∃ b off, a0 = some ⟨b, off, none⟩ ∧ b < w.heap.size ∧ ((0 ≤ wh i ∧ wh i ≤ 255) ∧ w.cell? ⟨b, off + i * 2, none⟩ = some (.int .u8 (wh i)) ∧ w.cell? ⟨b, off + i * 2 + 1, none⟩ = some (.string (ct i))) := by
          rcases unhide HIt with h | ⟨b, off, h1, h2, h3⟩
          · omega
          · exact ⟨b, off, h1, h2, h3 _ hlt⟩
        have s4 := ((unhide HB3).cell (p := ⟨b, off + i * 2 + 1, none⟩) hbl).trans hc0
        have hii : (i : Int) < (len : Int) := by omega
        go_wp2
        go_quiet (fail)
        go_wp2
        go_roundw
        case rel => exact ⟨i + 1, q + nq, by omega, by go_num, by simp [World.drewN]⟩
        case measure => simp [intOf]; omega
      · go_wp2
        go_ret
        exact ⟨rfl, below_drewN (unhide HB3) _⟩

end Go.Proofs.Ybulkbkfm
