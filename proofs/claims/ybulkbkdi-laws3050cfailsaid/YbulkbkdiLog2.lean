/-
  Seat b3050a: the closure of LawS3050CMerge.
-/
import Derived.Test.YbulkbkdiLog
namespace Go.Proofs.Ybulkbkdi
open Go.RowKit
set_option linter.unusedSimpArgs false

set_option maxHeartbeats 6400000 in
set_option maxRecDepth 1000000 in
theorem merge1_walk (W : World) (B bb lb mb kb vb : Nat) (lim : Nat) (lv : Value) (l : List Rec) (r : Rec) (hL : LogAt W B lb lv l) (hB : B ≤ W.heap.size) (hlen : l.length < 100000) (hlb : lv.ownBlock ≠ some lb) (hml : lv.ownBlock ≠ some mb) (hmn : mb ≠ lb) (hm : W.heap[mb]? = some (.cells #[.int .i64 lim] 3 (0, 0)))
    (hkl : lv.ownBlock ≠ some kb) (hvl : lv.ownBlock ≠ some vb) (hk : W.heap[kb]? = some (.cells #[.int .u8 r.1] 5 (0, 0))) (hv : W.heap[vb]? = some (.cells #[.int .u8 r.2.1, .int .u8 r.2.2] 5 (0, 0))) :
    Calls Yba.prog 8 #[.slice (some ⟨kb, 0, none⟩) 1 1, .slice (some ⟨vb, 0, none⟩) 2 2, .pointer (some ⟨bb, 0, none⟩), .pointer (some ⟨lb, 0, none⟩), .pointer (some ⟨mb, 0, none⟩)] W fun e w' => e = .returned (.bool (!(decide (0 < lim) && decide (lim ≤ l.length + 1)))) ∧
      Step (fun k => k = lb ∨ lv.ownBlock = some k) W w' ∧ ∃ lv', LogAt w' B lb lv' (l ++ [r]) ∧ ∀ k, lv'.ownBlock = some k → lv.ownBlock = some k ∨ W.heap.size ≤ k := by
  obtain ⟨i34, hi, hz, hs, hb⟩ := info34_parts
  have cl : W.cell? ⟨lb, 0, none⟩ = some lv := cell_of hL.1 0
  have fl := frozen_of hL.1 0
  have ck : W.cell? ⟨kb, 0, none⟩ = some (.int .u8 r.1) := cell_of hk 0
  have cv0 : W.cell? ⟨vb, 0, none⟩ = some (.int .u8 r.2.1) := cell_of hv 0
  have cv1 : W.cell? ⟨vb, 1, none⟩ = some (.int .u8 r.2.2) := cell_of hv 1
  have cm : W.cell? ⟨mb, 0, none⟩ = some (.int .i64 lim) := cell_of hm 0
  have hms : mb < W.heap.size := lt_of hm
  have hls : lb < W.heap.size := lt_of hL.1
  have hks : kb < W.heap.size := lt_of hk
  have hvs : vb < W.heap.size := lt_of hv
  have HL := hide hL
  have Hlb := hide hlb
  have Hkl := hide hkl
  have Hvl := hide hvl
  have Hml := hide hml
  clear hL hk hv hlb hkl hvl hml hm
  obtain ⟨W1, hW1⟩ : ∃ W1, W1 = W.alloc (.cells #[.int .u8 r.1, .int .u8 r.2.1, .int .u8 r.2.2] 34) := ⟨_, rfl⟩
  have hS1 : W1.heap.size = W.heap.size + 1 := by rw [hW1]; simp
  have hB1 : ∀ k, k < W.heap.size → W1.heap[k]? = W.heap[k]? := fun k hk => by rw [hW1]; exact Below.heap_alloc _ _ _ hk
  have OWN : Hid ((W.alloc (.cells #[.int .u8 r.1, .int .u8 r.2.1, .int .u8 r.2.2] 34)).ownsRow B 34 3 lv l.length (flat l)) := HL.out.2.alloc _
  have NEWS : Hid (∀ j u, (enc3 r)[j]? = some u → (W.alloc (.cells #[.int .u8 r.1, .int .u8 r.2.1, .int .u8 r.2.2] 34)).cell? ((⟨W.heap.size, 0, none⟩ : Addr).add j) = some u) :=
    World.news_of_block (cs := #[.int .u8 r.1, .int .u8 r.2.1, .int .u8 r.2.2]) (alloc_new W _)
  have BASE : Hid (B ≤ (W.alloc (.cells #[.int .u8 r.1, .int .u8 r.2.1, .int .u8 r.2.2] 34)).heap.size) := by show _ ≤ _; simp; omega
  have SZ : Hid ((W.alloc (.cells #[.int .u8 r.1, .int .u8 r.2.1, .int .u8 r.2.2] 34)).heap.size = W.heap.size + 1) := by show _ = _; simp
  have FAR : Hid (∀ w1, (W.alloc (.cells #[.int .u8 r.1, .int .u8 r.2.1, .int .u8 r.2.2] 34)).grownBy w1 lv.ownBlock → w1.cell? ⟨lb, 0, none⟩ = some lv ∧ w1.frozen? ⟨lb, 0, none⟩ = false ∧ w1.cell? ⟨kb, 0, none⟩ = some (.int .u8 r.1) ∧ w1.cell? ⟨vb, 0, none⟩ = some (.int .u8 r.2.1) ∧ w1.cell? ⟨vb, 1, none⟩ = some (.int .u8 r.2.2) ∧ w1.cell? ⟨mb, 0, none⟩ = some (.int .i64 lim)) := hide fun w1 hg => by
    rw [← hW1] at hg
    have blk : ∀ k, k < W.heap.size → lv.ownBlock ≠ some k → w1.heap[k]? = W.heap[k]? := fun k hk hne => (hg.block k (by omega) (fun e => hne e.symm)).trans (hB1 k hk)
    refine ⟨?_, ?_, ?_, ?_, ?_, ?_⟩
    · rw [World.cell?_of_block (w := W) (blk lb hls Hlb.out)]; exact cl
    · rw [World.frozen?_of_block (w := W) (blk lb hls Hlb.out)]; exact fl
    · rw [World.cell?_of_block (w := W) (blk kb hks Hkl.out)]; exact ck
    · rw [World.cell?_of_block (w := W) (blk vb hvs Hvl.out)]; exact cv0
    · rw [World.cell?_of_block (w := W) (blk vb hvs Hvl.out)]; exact cv1
    · rw [World.cell?_of_block (w := W) (blk mb hms Hml.out)]; exact cm
  clear hW1 hS1 hB1 W1
  go_enter Yba.func8, Yba.ntmps8
  go_wp2
  have FIN : Hid (∀ g cap w1, w1.ownsRow B 34 3 (.slice (some ⟨g, 0, none⟩) (l.length + 1) cap) (l.length + 1) (flat l ++ enc3 r) → (W.alloc (.cells #[.int .u8 r.1, .int .u8 r.2.1, .int .u8 r.2.2] 34)).drew.grownBy w1 lv.ownBlock → (lv.ownBlock = some g ∨ g = W.heap.size + 1) → Step (fun k => k = lb ∨ lv.ownBlock = some k) W (w1.setCell ⟨lb, 0, none⟩ (.slice (some ⟨g, 0, none⟩) (l.length + 1) cap)) ∧ ∃ lv', LogAt (w1.setCell ⟨lb, 0, none⟩ (.slice (some ⟨g, 0, none⟩) (l.length + 1) cap)) B lb lv' (l ++ [r]) ∧ ∀ k, lv'.ownBlock = some k → lv.ownBlock = some k ∨ W.heap.size ≤ k) := hide fun g cap w1 h1 h2 h3 =>
    log_end (((Step.refl (fun _ => False) W).alloc _).drewN 1) HL.out h2 Hlb.out h1 (h3.elim Or.inl (fun e => Or.inr (by omega)))
  go_region_law (refine step_append_lies _ rfl (.tmp 16) (.tmp 27) 26 rfl B 34 i34 (.agg #[.int .u8 0, .int .u8 0, .int .u8 0]) 3 3 Yba.underlying26 hi hz hs hb rfl (by decide) lv l.length (flat l) (by simp [Act.eval]) OWN.out ⟨W.heap.size, 0, none⟩ 1 1 (enc3 r) (by simp [Act.eval]) rfl NEWS.out (enc3_one r) (by decide) (by unfold maxLen; omega) (by omega) BASE.out (W.heap.size + 1) SZ.out ?_; intro g cap w1 hown hgrow hat hlt; obtain ⟨cl1, fl1, ck1, cv01, cv11, cm1⟩ := FAR.out w1 ⟨hgrow.os, hgrow.tape, hgrow.output, hgrow.size, hgrow.block⟩; have Hown := hide hown; have Hgrow := hide hgrow; have Hat := hide hat; clear hown hgrow hat)
  all_goals
    by_cases hl0 : 0 < lim
    · by_cases hl1 : lim ≤ l.length + 1
      · have hz1 : (lim : Int) ≤ (l.length : Int) + 1 := by omega
        go_wp2
        go_ret
        exact ⟨by simp [hl0, hl1], FIN.out _ _ _ Hown.out Hgrow.out Hat.out⟩
      · have hz1 : ¬ ((lim : Int) ≤ (l.length : Int) + 1) := by omega
        go_wp2
        go_ret
        exact ⟨by simp [hl0, hl1], FIN.out _ _ _ Hown.out Hgrow.out Hat.out⟩
    · go_wp2
      go_ret
      exact ⟨by simp [hl0], FIN.out _ _ _ Hown.out Hgrow.out Hat.out⟩
end Go.Proofs.Ybulkbkdi
