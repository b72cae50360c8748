/-
  The walk of zzs3059cbuild (function 5) of seat b3059a.
-/
import Derived.Test.YbulkbkieParts
import Derived.Outline
namespace Go.Proofs.Ybulkbkie
open Go.RowKit
set_option linter.unusedVariables false

theorem make35 (x : Int) (m : Nat) (hm : x = (m : Int)) (h : m ≤ 100000) (w : World) :
    (Instr.makeSlice 35 (.int .i64 x) (.int .i64 x)).run Yba.prog w = .ok (.slice (some ⟨w.heap.size, 0, none⟩) m m) (w.alloc (.cells (madeCells #[.int .u8 0, .int .i64 0, .nilIface] (m * 3)) 42)) := by
  obtain ⟨i0, hi, hz0, hz1, hz2⟩ := info_parts info42
  have hr := run_make (P := Yba.prog) w 35 42 i0 _ Yba.underlying35 hi hz0 .i64 .i64 m m (by omega) (Int.le_refl _) (by rw [hz2]; omega) (by omega)
  rw [hm, hr, hz1]
  simp [Value.cells]

set_option maxHeartbeats 3200000 in
theorem build_some (b off len cap : Nat) (z : Nat → Int) (w : World) (hlen : len ≤ 256) (hb : b < w.heap.size)
    (hz : ∀ i, i < len → 0 ≤ z i ∧ z i ≤ 255)
    (hl : ∀ i, i < len → w.cell? ⟨b, off + i, none⟩ = some (.int .u8 (z i))) :
    Calls Yba.prog 5 #[.slice (some ⟨b, off, none⟩) len cap] w fun e w' => e = .returned (.pointer (some ⟨w.heap.size, 0, none⟩)) ∧ Built w' w.heap.size w.heap.size z len ∧ Below w.heap.size w w' := by
  have Hz := hide hz
  have Hl := hide hl
  clear hz hl
  obtain ⟨i35, hi35, hz35, hs35, hb35⟩ := info_parts info35
  obtain ⟨i3, hi3, hz3, hs3, hb3⟩ := info_parts info3
  go_enter Yba.func5, Yba.ntmps5
  go_wp2
  go_loopw [4] (fun t wr => ∃ j : Nat, j ≤ len ∧ t = .int .i64 j ∧ Built wr w.heap.size w.heap.size z j ∧ Below w.heap.size w wr ∧ w.heap.size < wr.heap.size) (fun t _ => len - (intOf t).toNat)
  case atStart => exact ⟨0, Nat.zero_le _, rfl, ⟨_, _, [], [], ⟨heap_alloc_new w _, World.ownsRow_nil _ _ _ _, World.ownsRow_nil _ _ _ _⟩, fun i hi => by omega, fun i hi => by omega⟩, (Below.refl _ w).alloc (Nat.le_refl _) _, by simp⟩
  case round =>
    obtain ⟨j, hj, rfl, ⟨v1, v2, xs, ys, S, hS, hE⟩, hB, hsz⟩ := hrel
    by_cases hlt : j < len
    · have hzj := unhide Hz j hlt
      have hlj := (hB.cell (p := ⟨b, off + j, none⟩) hb).trans (unhide Hl j hlt)
      obtain ⟨m, hm⟩ : ∃ m : Nat, z j % 16 = m := ⟨(z j % 16).toNat, by omega⟩
      have hm16 : m ≤ 15 := by omega
      obtain ⟨a1, p1, rfl⟩ := own_form S.2.1
      obtain ⟨a2, p2, rfl⟩ := own_form S.2.2
      have hmk := make35 (z j % 16) m hm (by omega)
      have Hm := hide hm
      have HS := hide S
      have HSg := hide hS
      have HE := hide hE
      clear hm S hS hE
      obtain ⟨wo, rfl⟩ : ∃ wo : World, wo = wr := ⟨_, rfl⟩
      go_wp2
      go_loopw [6] (fun t wi => ∃ k : Nat, k ≤ m ∧ t = .int .i64 k ∧ wo.grownBy wi none ∧ wi.heap.size = wo.heap.size + 1 ∧ SegK wi wo.heap.size m j k) (fun t _ => m - (intOf t).toNat)
      case atStart => exact ⟨0, Nat.zero_le _, rfl, World.grownBy_alloc wo _ none, by simp, seg_made wo m j⟩
      case round =>
        obtain ⟨k, hk, rfl, hgr, hws, hseg⟩ := hrel
        have Hws := hide hws
        by_cases hkt : k < m
        · obtain ⟨q0, q1, q2⟩ := hseg.cells hkt (Nat.le_refl _)
          have f0 := hseg.free (k * 3)
          have f1 := hseg.free (k * 3 + 1)
          have Hseg := hide hseg
          clear hseg hws
          go_wp2
          go_roundw
          case rel => exact ⟨k + 1, by omega, by go_num, ⟨hgr.os, hgr.tape, hgr.output, by have := hgr.size; simpa using this, fun i hi hne => by rw [heap_setCell_other _ _ _ _ (by simp; omega), heap_setCell_other _ _ _ _ (by simp; omega)]; exact hgr.block i hi hne⟩, by simpa using unhide Hws, (unhide Hseg).step hkt⟩
          case measure => simp [intOf]; omega
        · have hkm : k = m := by omega
          subst hkm
          have SI := (unhide HS).kept hgr
          obtain ⟨c0, c1, c2, hfz⟩ := SI.fields
          have hsbl : w.heap.size < wr.heap.size := lt_of_block SI.1
          have HSI := hide SI
          have Hseg := hide hseg
          clear hws hseg SI
          go_wp2_with (at_builtin; refine wpList_append_own _ rfl (.tmp 45) (.tmp 47) 43 rfl w.heap.size 35 i35 (.slice none 0 0) 1 24 Yba.underlying43 hi35 hz35 hs35 hb35 rfl (by decide) _ _ _ rfl ((unhide HSI).2.1.alloc _) ⟨wr.heap.size, 0, none⟩ 1 1 [.slice (some ⟨wo.heap.size, 0, none⟩) k k] rfl rfl (cell_one_new _ _ _) ?c2 ?c3 ?c4 ?c5 ?_)
          case c2 => intro u hu; simp at hu; subst hu; rfl
          case c3 => unfold maxLen; omega
          case c4 => omega
          case c5 => simp; omega
          · intro v1' w1 hown1 hg1 _
            obtain ⟨g1, p1', rfl⟩ := own_pos hown1
            obtain ⟨S1, B1, K1⟩ := (unhide HSI).push1 (by omega) (Nat.le_refl _) hown1 hg1
            obtain ⟨d0, d1, dz, dlt⟩ := (unhide HSI).mid1 hg1
            have HS1 := hide S1
            have HB1 := hide B1
            have HK1 := hide K1
            have hbw : w.heap.size ≤ (w1.setCell ⟨w.heap.size, 0, none⟩ (.slice (some ⟨g1, 0, none⟩) (j + 1) p1')).heap.size := by have := B1.size; omega
            have Hbw := hide hbw
            clear S1 B1 K1 hown1 hg1 c0 c1 c2 hfz hbw
            go_wp2_with (at_builtin; refine wpList_append_own _ rfl (.tmp 55) (.tmp 57) 44 rfl w.heap.size 3 i3 (.int .i64 0) 1 8 Yba.underlying44 hi3 hz3 hs3 hb3 rfl (by decide) _ _ _ rfl ((unhide HS1).2.2.alloc _) ⟨w1.heap.size, 0, none⟩ 1 1 [.int .i64 j] rfl rfl ?b1 ?b2 ?b3 ?b4 ?b5 ?_)
            case b1 =>
              have hh := cell_one_new (w1.setCell ⟨w.heap.size, 0, none⟩ (.slice (some ⟨g1, 0, none⟩) (j + 1) p1')) (.int .i64 j) 3
              have e1 : (w1.setCell ⟨w.heap.size, 0, none⟩ (.slice (some ⟨g1, 0, none⟩) (j + 1) p1')).heap.size = w1.heap.size := by simp [World.setCell]
              rw [e1] at hh
              exact hh
            case b2 => intro u hu; simp at hu; subst hu; rfl
            case b3 => unfold maxLen; omega
            case b4 => omega
            case b5 => simp; omega
            · intro v2' w2 hown2 hg2 _
              obtain ⟨g2, p2', rfl⟩ := own_pos hown2
              obtain ⟨S2, B2, K2⟩ := (unhide HS1).push2 (unhide Hbw) (Nat.le_refl _) hown2 hg2
              obtain ⟨d0', d1', dz', dlt'⟩ := (unhide HS1).mid2 hg2
              have HS2 := hide S2
              have HB2 := hide B2
              have HK2 := hide K2
              clear S2 B2 K2 hown2 hg2 d0 d1 dz
              go_wp2
              go_roundw
              case rel =>
                have hx := (unhide HSI).2.1.1
                have hy := (unhide HSI).2.2.1
                have B3 : Below w.heap.size w wr := hB.grown hgr (by omega) (fun q hq => by cases hq)
                have B4 := (B3.trans (unhide HB1)).trans (unhide HB2)
                have hfin := lt_of_block (unhide HS2).1
                exact ⟨j + 1, by omega, by go_num, built_step (unhide HSg) (unhide HE) (unhide Hm) (by omega) (by omega) (by omega) hgr (unhide Hseg) (unhide HK1) (unhide HK2) (unhide HS2), B4, hfin⟩
              case measure => simp [intOf]; omega
    · go_wp2
      go_ret
      have hjl : j = len := by omega
      subst hjl
      exact ⟨rfl, ⟨v1, v2, xs, ys, S, hS, hE⟩, hB⟩
end Go.Proofs.Ybulkbkie
