/-
  newSegment (function 6) of seat b3059a where it succeeds: at the end, and inside.
-/
import Derived.Test.YbulkbkieSeg
import Derived.Outline
namespace Go.Proofs.Ybulkbkie
open Go.RowKit
set_option linter.unusedVariables false

/-- What lies in neither row and is not the stack's struct is kept through both appends. -/
theorem through {wi wa wf : World}
    (K1 : ∀ (b : Nat) (c : Array Value) (t : Nat), wi.heap[b]? = some (.cells c t (0, 0)) → t ≠ 35 → t ≠ 46 → wa.heap[b]? = wi.heap[b]?)
    (K2 : ∀ (b : Nat) (c : Array Value) (t : Nat), wa.heap[b]? = some (.cells c t (0, 0)) → t ≠ 3 → t ≠ 46 → wf.heap[b]? = wa.heap[b]?)
    (b : Nat) (c : Array Value) (t : Nat) (hb : wi.heap[b]? = some (.cells c t (0, 0))) (h1 : t ≠ 35) (h2 : t ≠ 3) (h3 : t ≠ 46) : wf.heap[b]? = wi.heap[b]? := by
  have e1 := K1 b c t hb h1 h3
  rw [K2 b c t (e1.trans hb) h2 h3, e1]

theorem Segs.more {w : World} {B n : Nat} {z : Nat → Int} {xs : List Value} (h : Segs w B z xs (· < n)) (hx : xs.length = n) (v : Value) : Segs w B z (xs ++ [v]) (· < n) := by
  intro i hi
  obtain ⟨g, m, h1, h2, h3, h4⟩ := h i hi
  exact ⟨g, m, h1, h2, by rw [List.getElem?_append_left (by omega)]; exact h3, h4⟩

theorem SegK.kept' {w w' : World} {g m j k : Nat} (h : SegK w g m j k) (hk : ∀ (b : Nat) (c : Array Value), w.heap[b]? = some (.cells c 42 (0, 0)) → w'.heap[b]? = w.heap[b]?) : SegK w' g m j k := by
  refine h.kept ?_
  obtain ⟨cur, hc, _⟩ := h
  exact hk g cur hc

set_option maxHeartbeats 3200000 in
/-- newSegment at the count: the segment and its 'entered' are appended. -/
theorem newseg_end (sb mb n m : Nat) (B : Nat) (N u : Int) (z : Nat → Int) (v1 v2 : Value) (xs ys : List Value) (w : World) (S : Stk w B sb v1 v2 n n xs ys) (hseg : Segs w B z xs (· < n)) (M : Mach w mb u) (hn : n ≤ 256)
    (hB : B ≤ sb) (hBm : B ≤ mb) (hN : N = m) (hm : m ≤ 4096) (hu0 : 0 ≤ u) (hu : u < 1048576) :
    Calls Yba.prog 6 #[.pointer (some ⟨sb, 0, none⟩), .pointer (some ⟨mb, 0, none⟩), .int .i64 n, .int .i64 N] w fun e w' => e = .returned .nilIface ∧ ∃ v1' v2' g,
      Stk w' B sb v1' v2' (n + 1) (n + 1) (xs ++ [.slice (some ⟨g, 0, none⟩) m m]) (ys ++ [.int .i64 0]) ∧ Segs w' B z (xs ++ [.slice (some ⟨g, 0, none⟩) m m]) (· < n) ∧ SegK w' g m 0 0 ∧ Mach w' mb (u + N * 32) ∧ Below B w w' := by
  obtain ⟨i35, hi35, hz35, hs35, hb35⟩ := info_parts info35
  obtain ⟨i3, hi3, hz3, hs3, hb3⟩ := info_parts info3
  obtain ⟨a1, p1, rfl⟩ := own_form S.2.1
  obtain ⟨a2, p2, rfl⟩ := own_form S.2.2
  obtain ⟨c0, c1, c2, hfz⟩ := S.fields
  have hN0 : 0 ≤ N := by omega
  have hN1 : N ≤ 4096 := by omega
  have hmk := make35 N m hN (by omega)
  have HN := hide hN
  have HS := hide S
  have Hseg := hide hseg
  have HM := hide M
  clear S hseg M hN
  go_enter Yba.func6, Yba.ntmps6
  go_wp2
  go_loop [9, 20] (fun s t => ∃ j : Nat, j ≤ n ∧ t = .int .i64 j ∧ s = .int .i64 (N + sumBut z n j)) (fun _ t => n - (intOf t).toNat)
  case atStart => exact ⟨0, Nat.zero_le _, rfl, by simp [sumBut]⟩
  case round =>
    obtain ⟨j, hj, rfl, rfl⟩ := hrel
    have hsb := sumBut_bd z n j
    by_cases hlt : j < n
    · obtain ⟨g, m', hm', hBg, hxj, hsg⟩ := unhide Hseg j hlt
      obtain ⟨g1, rfl⟩ : ∃ g1, a1 = some ⟨g1, 0, none⟩ := by
        rcases (unhide HS).2.1.2 with ⟨_, h0⟩ | ⟨g1, _, _, h, _⟩
        · omega
        · simp at h; exact ⟨g1, h.1⟩
      have hcj : w.cell? ⟨g1, j, none⟩ = some (.slice (some ⟨g, 0, none⟩) m' m') := ((unhide HS).2.1.cellAt j (by omega)).trans hxj
      have hm16 : m' ≤ 15 := by omega
      have Hm := hide hm'
      clear hm' hxj hsg
      have hne : (j : Int) ≠ (n : Int) := by omega
      have hb : ((j : Int) != (n : Int)) = true := by simp; omega
      go_wp2
      go_round
      case rel => exact ⟨j + 1, by omega, by go_num, by simp only [sumBut, if_neg hne, unhide Hm]; go_num⟩
      case measure => simp [intOf]; omega
    · have hjn : j = n := by omega
      subst hjn
      have hq : ((j : Int) == (j : Int)) = true := by simp
      go_wp2_with fail
      refine (reserve_any mb u (N * 32) w (unhide HM) hu0 (by omega) (by omega)).mono ?_
      rintro e w1 ⟨rfl, hg1, hz1, hM1⟩
      have S1 := (unhide HS).mach (unhide HM) hg1
      obtain ⟨d0, d1, d2, dz⟩ := S1.fields
      have hslt := lt_of_block S1.1
      have HS1 := hide (S1.alloc (.cells (madeCells #[.int .u8 0, .int .i64 0, .nilIface] (m * 3)) 42))
      have Hg1 := hide hg1
      have Hz1 := hide hz1
      have HM1 := hide hM1
      clear S1 hg1 hz1 hM1 c0 c1 c2 hfz
      go_wp2_with (at_builtin; refine wpList_append_own _ rfl (.tmp 56) (.tmp 58) 43 rfl B 35 i35 (.slice none 0 0) 1 24 Yba.underlying43 hi35 hz35 hs35 hb35 rfl (by decide) _ _ _ rfl ((unhide HS1).2.1.alloc _) ⟨w1.heap.size + 1, 0, none⟩ 1 1 [.slice (some ⟨w1.heap.size, 0, none⟩) m m] rfl rfl ?b1 ?b2 ?b3 ?b4 ?b5 ?_)
      case b1 =>
        have hh := cell_one_new (w1.alloc (.cells (madeCells #[.int .u8 0, .int .i64 0, .nilIface] (m * 3)) 42)) (.slice (some ⟨w1.heap.size, 0, none⟩) m m) 35
        rw [World.size_alloc] at hh
        exact hh
      case b2 => intro u hu; simp at hu; subst hu; rfl
      case b3 => unfold maxLen; omega
      case b4 => omega
      case b5 => simp; omega
      · intro v1' w2 hown2 hg2 _
        obtain ⟨g1, p1', rfl⟩ := own_pos hown2
        have hBw : B ≤ (w1.alloc (.cells (madeCells #[.int .u8 0, .int .i64 0, .nilIface] (m * 3)) 42)).heap.size := by rw [World.size_alloc]; omega
        obtain ⟨S2, B2, K2⟩ := (unhide HS1).push1 hBw hB hown2 hg2
        obtain ⟨e0, e1, ez, elt⟩ := (unhide HS1).mid1 hg2
        have HS2 := hide S2
        have HB2 := hide B2
        have HK2 := hide K2
        have hbw : B ≤ (w2.setCell ⟨sb, 0, none⟩ (.slice (some ⟨g1, 0, none⟩) (j + 1) p1')).heap.size := by have := B2.size; omega
        have Hbw := hide hbw
        clear S2 B2 K2 hown2 hg2 d0 d1 d2 dz hbw hBw
        go_wp2_with (at_builtin; refine wpList_append_own _ rfl (.tmp 66) (.tmp 67) 44 rfl B 3 i3 (.int .i64 0) 1 8 Yba.underlying44 hi3 hz3 hs3 hb3 rfl (by decide) _ _ _ rfl ((unhide HS2).2.2.alloc _) ⟨w2.heap.size, 0, none⟩ 1 1 [.int .i64 0] rfl rfl ?f1 ?f2 ?f3 ?f4 ?f5 ?_)
        case f1 =>
          have hh := cell_one_new (w2.setCell ⟨sb, 0, none⟩ (.slice (some ⟨g1, 0, none⟩) (j + 1) p1')) (.int .i64 0) 3
          have e1 : (w2.setCell ⟨sb, 0, none⟩ (.slice (some ⟨g1, 0, none⟩) (j + 1) p1')).heap.size = w2.heap.size := by simp [World.setCell]
          rw [e1] at hh
          exact hh
        case f2 => intro u hu; simp at hu; subst hu; rfl
        case f3 => unfold maxLen; omega
        case f4 => omega
        case f5 => simp; omega
        · intro v2' w3 hown3 hg3 _
          obtain ⟨g2, p2', rfl⟩ := own_pos hown3
          obtain ⟨S3, B3, K3⟩ := (unhide HS2).push2 (unhide Hbw) hB hown3 hg3
          obtain ⟨r0, r1, rz, rlt⟩ := (unhide HS2).mid2 hg3
          have HS3 := hide S3
          have HB3 := hide B3
          have HK3 := hide K3
          clear S3 B3 K3 hown3 hg3 e0 e1 ez
          go_wp2
          go_ret
          refine ⟨rfl, _, _, w1.heap.size, unhide HS3, ?_, ?_, ?_, ?_⟩
          · have h1 : Segs w1 B z xs (· < j) := (unhide Hseg).kept fun b c hb => mach_ne (unhide HM) (unhide Hg1) hb (by decide)
            have h2 := h1.kept (w' := w1.alloc (.cells (madeCells #[.int .u8 0, .int .i64 0, .nilIface] (m * 3)) 42)) fun b c hb => heap_alloc_old w1 _ (lt_of_block hb)
            have h3 := h2.kept fun b c hb => through (unhide HK2) (unhide HK3) b c 42 hb (by decide) (by decide) (by decide)
            exact h3.more (by have := (unhide HS).2.1.1; omega) _
          · exact (seg_made w1 m 0).kept' fun b c hb => through (unhide HK2) (unhide HK3) b c 42 hb (by decide) (by decide) (by decide)
          · have h2 := (unhide HM1).kept (w' := w1.alloc (.cells (madeCells #[.int .u8 0, .int .i64 0, .nilIface] (m * 3)) 42)) fun b c hb => heap_alloc_old w1 _ (lt_of_block hb)
            exact h2.kept fun b c hb => through (unhide HK2) (unhide HK3) b c 48 hb (by decide) (by decide) (by decide)
          · have hw := lt_of_block (unhide HS).1
            have b1 : Below B w w1 := (Below.refl _ _).grown (unhide Hg1) (by omega) (fun k hk => by cases hk; exact hBm)
            exact ((b1.alloc (by omega) _).trans (unhide HB2)).trans (unhide HB3)

theorem Stk.put {w : World} {B sb n n2 g1 p1 : Nat} {v2 : Value} {xs ys : List Value} (S : Stk w B sb (.slice (some ⟨g1, 0, none⟩) n p1) v2 n n2 xs ys) (i : Nat) (u : Value) :
    Stk (w.setCell ⟨g1, i, none⟩ u) B sb (.slice (some ⟨g1, 0, none⟩) n p1) v2 n n2 (xs.set i u) ys ∧ B ≤ g1 ∧
      (∀ (b : Nat) (c : Array Value) (t : Nat), w.heap[b]? = some (.cells c t (0, 0)) → t ≠ 35 → (w.setCell ⟨g1, i, none⟩ u).heap[b]? = w.heap[b]?) := by
  obtain ⟨r1, r2⟩ := S.2.1.stored i u
  have K : ∀ (b : Nat) (c : Array Value) (t : Nat), w.heap[b]? = some (.cells c t (0, 0)) → t ≠ 35 → (w.setCell ⟨g1, i, none⟩ u).heap[b]? = w.heap[b]? := fun b c t hb ht => by
    have hne := own_ne S.2.1 hb ht
    simp only [Value.ownBlock] at hne
    exact r2.block b (lt_of_block hb) hne
  refine ⟨⟨(K sb _ 46 S.1 (by decide)).trans S.1, r1, S.2.2.kept r2 ?_⟩, (S.2.1.lt g1 rfl).1, K⟩
  have := own_own S.2.2 S.2.1 (by decide)
  simpa [Value.ownBlock] using this

theorem Segs.put {w : World} {B n : Nat} {z : Nat → Int} {xs : List Value} (h : Segs w B z xs (· < n)) (i : Nat) (v : Value) : Segs w B z (xs.set i v) (fun k => k < n ∧ k ≠ i) := by
  intro k hk
  obtain ⟨g, m, h1, h2, h3, h4⟩ := h k hk.1
  exact ⟨g, m, h1, h2, by rw [List.getElem?_set_ne (fun e => hk.2 e.symm)]; exact h3, h4⟩

set_option maxHeartbeats 3200000 in
/-- newSegment inside: the segment at i is replaced. -/
theorem newseg_in (sb mb n i m : Nat) (B : Nat) (N u : Int) (z : Nat → Int) (v1 v2 : Value) (xs ys : List Value) (w : World) (S : Stk w B sb v1 v2 n n xs ys) (hseg : Segs w B z xs (· < n)) (M : Mach w mb u) (hn : n ≤ 256) (hin : i < n)
    (hB : B ≤ sb) (hBm : B ≤ mb) (hN : N = m) (hm : m ≤ 4096) (hu0 : 0 ≤ u) (hu : u < 1048576) :
    Calls Yba.prog 6 #[.pointer (some ⟨sb, 0, none⟩), .pointer (some ⟨mb, 0, none⟩), .int .i64 i, .int .i64 N] w fun e w' => e = .returned .nilIface ∧ ∃ g,
      Stk w' B sb v1 v2 n n (xs.set i (.slice (some ⟨g, 0, none⟩) m m)) ys ∧ Segs w' B z (xs.set i (.slice (some ⟨g, 0, none⟩) m m)) (fun k => k < n ∧ k ≠ i) ∧ SegK w' g m 0 0 ∧ Mach w' mb (u + N * 32) ∧ Below B w w' := by
  obtain ⟨a1, p1, rfl⟩ := own_form S.2.1
  obtain ⟨g1, rfl⟩ : ∃ g1, a1 = some ⟨g1, 0, none⟩ := by
    rcases S.2.1.2 with ⟨_, h0⟩ | ⟨g1, _, _, h, _⟩
    · omega
    · simp at h; exact ⟨g1, h.1⟩
  obtain ⟨a2, p2, rfl⟩ := own_form S.2.2
  obtain ⟨c0, c1, c2, hfz⟩ := S.fields
  have hN0 : 0 ≤ N := by omega
  have hN1 : N ≤ 4096 := by omega
  have hmk := make35 N m hN (by omega)
  have HN := hide hN
  have HS := hide S
  have Hseg := hide hseg
  have HM := hide M
  clear S hseg M hN
  go_enter Yba.func6, Yba.ntmps6
  go_wp2
  go_loop [9, 20] (fun s t => ∃ j : Nat, j ≤ n ∧ t = .int .i64 j ∧ s = .int .i64 (N + sumBut z i j)) (fun _ t => n - (intOf t).toNat)
  case atStart => exact ⟨0, Nat.zero_le _, rfl, by simp [sumBut]⟩
  case round =>
    obtain ⟨j, hj, rfl, rfl⟩ := hrel
    have hsb := sumBut_bd z i j
    by_cases hlt : j < n
    · obtain ⟨g, m', hm', hBg, hxj, hsg⟩ := unhide Hseg j hlt
      have hcj : w.cell? ⟨g1, j, none⟩ = some (.slice (some ⟨g, 0, none⟩) m' m') := ((unhide HS).2.1.cellAt j (by omega)).trans hxj
      have hm16 : m' ≤ 15 := by omega
      have Hm := hide hm'
      clear hm' hxj hsg
      by_cases hne : (j : Int) = (i : Int)
      · have hb : ((j : Int) != (i : Int)) = false := by simp [hne]
        have Hne := hide hne
        clear hne
        go_wp2
        go_round
        case rel => exact ⟨j + 1, by omega, by go_num, by simp [sumBut, unhide Hne]⟩
        case measure => simp [intOf]; omega
      · have hb : ((j : Int) != (i : Int)) = true := by simp; omega
        go_wp2
        go_round
        case rel => exact ⟨j + 1, by omega, by go_num, by simp only [sumBut, if_neg hne, unhide Hm]; go_num⟩
        case measure => simp [intOf]; omega
    · have hjn : j = n := by omega
      subst hjn
      have hq : ((i : Int) == (j : Int)) = false := beq_eq_false_iff_ne.2 (by omega)
      go_wp2_with fail
      refine (reserve_any mb u (N * 32) w (unhide HM) hu0 (by omega) (by omega)).mono ?_
      rintro e w1 ⟨rfl, hg1, hz1, hM1⟩
      have S1 := (unhide HS).mach (unhide HM) hg1
      obtain ⟨d0, d1, d2, dz⟩ := S1.fields
      have hslt := lt_of_block S1.1
      have hcx := S1.2.1.cellAt i (by omega)
      have hfx := S1.2.1.frozenAt i
      have hg1lt : g1 < w1.heap.size := (S1.2.1.lt g1 rfl).2
      obtain ⟨gx, mx, _, _, hxi, _⟩ := unhide Hseg i hin
      rw [hxi] at hcx
      have SA := S1.alloc (.cells (madeCells #[.int .u8 0, .int .i64 0, .nilIface] (m * 3)) 42)
      have HS1 := hide S1
      have HSA := hide SA
      have Hg1 := hide hg1
      have Hz1 := hide hz1
      have HM1 := hide hM1
      clear S1 SA hg1 hz1 hM1 c0 c1 c2 hfz hxi
      go_wp2
      go_ret
      obtain ⟨SP, hBg, KP⟩ := (unhide HS1).put i (.slice (some ⟨w1.heap.size, 0, none⟩) m m)
      have hsz : (w1.setCell ⟨g1, i, none⟩ (.slice (some ⟨w1.heap.size, 0, none⟩) m m)).heap.size = w1.heap.size := by simp [World.setCell]
      refine ⟨rfl, w1.heap.size, SP.alloc _, ?_, ?_, ?_, ?_⟩
      · have h1 : Segs w1 B z xs (· < j) := (unhide Hseg).kept fun b c hb => mach_ne (unhide HM) (unhide Hg1) hb (by decide)
        have h2 := h1.kept fun b c hb => KP b c 42 hb (by decide)
        have h3 := h2.kept fun b c hb => heap_alloc_old _ (.cells (madeCells #[.int .u8 0, .int .i64 0, .nilIface] (m * 3)) 42) (lt_of_block hb)
        exact h3.put i _
      · have h := seg_made (w1.setCell ⟨g1, i, none⟩ (.slice (some ⟨w1.heap.size, 0, none⟩) m m)) m 0
        rw [hsz] at h
        exact h
      · have h2 := (unhide HM1).kept fun b c hb => KP b c 48 hb (by decide)
        exact h2.kept fun b c hb => heap_alloc_old _ _ (lt_of_block hb)
      · have hw := lt_of_block (unhide HS).1
        have b1 : Below B w w1 := (Below.refl _ _).grown (unhide Hg1) (by omega) (fun k hk => by cases hk; exact hBm)
        exact (b1.setCell (by exact hBg) _).alloc (by rw [hsz]; omega) _

end Go.Proofs.Ybulkbkie
