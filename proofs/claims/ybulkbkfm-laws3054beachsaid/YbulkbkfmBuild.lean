/-
  Seat b3054a: the walk of zzs3054bbuild (5).
-/
import Derived.Test.YbulkbkfmGrow
import Derived.Test.YbulkbkfmLaid
import Derived.RegionTactic
import Derived.BigRegion
import Derived.Outline
namespace Go.Proofs.Ybulkbkfm
open Go.RowKit
open Go.ChangeMaps (setBlock)
set_option linter.unusedVariables false

/-- What the slice of items is: empty, or a row of pairs in old memory. -/
def Items (w : World) (a0 : Option Addr) (len : Nat) (wh : Nat → Int) (ct : Nat → ByteArray) : Prop :=
  len = 0 ∨ ∃ b off, a0 = some ⟨b, off, none⟩ ∧ b < w.heap.size ∧ ∀ i, i < len → (0 ≤ wh i ∧ wh i ≤ 255) ∧ w.cell? ⟨b, off + i * 2, none⟩ = some (.int .u8 (wh i)) ∧ w.cell? ⟨b, off + i * 2 + 1, none⟩ = some (.string (ct i))

set_option maxHeartbeats 3200000 in
theorem build_any (a0 : Option Addr) (len cap : Nat) (wh : Nat → Int) (ct : Nat → ByteArray) (w : World) (hlen : len ≤ 1024) (It : Items w a0 len wh ct) :
    Calls Yba.prog 5 #[.slice a0 len cap] w fun e w' => ∃ rs, rs.length = len ∧ e = .returned (.tuple #[.pointer (some ⟨XB w.heap.size 0 + 2, 0, none⟩), .slice (some ⟨w.heap.size + 24, 0, none⟩) len len, .slice (some ⟨w.heap.size + 25, 0, none⟩) len len]) ∧ Laid w.heap.size len wh ct rs w' ∧ Below w.heap.size w w' := by
  have hmk24 := make24 len hlen
  have hmk25 := make25 len hlen
  obtain ⟨i32, hi32, hz32, hs32, hb32⟩ := info_parts info32
  obtain ⟨i9, hi9, hz9, hs9, hb9⟩ := info_parts info9
  have HIt := hide It
  clear It
  go_enter Yba.func5, Yba.ntmps5
  go_wp2_with (go_at_call 9; refine (new_any _ _).mono ?_; rintro e w' ⟨rfl, rfl⟩)
  go_loopw [7] (fun t wr => ∃ j : Nat, j ≤ 3 ∧ t = .int .i64 j ∧ Part w.heap.size (blj j) (ksj j) wr ∧ wr.heap.size = w.heap.size + 5 + 6 * j ∧ Below w.heap.size w wr) (fun t _ => 3 - (intOf t).toNat)
  case atStart => exact ⟨0, by omega, rfl, Part.init w, by simp, (((((Below.refl _ w).alloc (Nat.le_refl _) _).alloc (by simp) _).alloc (by simp <;> omega) _).alloc (by simp <;> omega) _).alloc (by simp <;> omega) _⟩
  case round =>
    obtain ⟨j, hj, rfl, P, hsz, hB⟩ := hrel
    have Hsz := hide hsz
    have HP := hide P
    have HB := hide hB
    clear hsz P hB
    by_cases hlt : j < 3
    · have hX : XB w.heap.size (j + 1) = wr.heap.size := by rw [unhide Hsz]; obtain rfl | rfl | rfl : j = 0 ∨ j = 1 ∨ j = 2 := by omega
                                                            all_goals simp [XB, off]
      have HX := hide hX
      clear hX
      have hcn := (unhide HP).name hlt
      obtain ⟨⟨vb, hcb⟩, hfz, _⟩ := (unhide HP).sub (i := j + 1) (by omega)
      obtain ⟨hlt1, hlt2⟩ := (unhide HP).lts
      have hlt1a : w.heap.size < wr.heap.size + 1 := by omega
      have hlt1b : w.heap.size < wr.heap.size + 1 + 1 := by omega
      go_wp2_with fail
      refine (new_any _ _).mono ?_
      rintro e w' ⟨rfl, rfl⟩
      go_wp2
      have PA := (unhide HP).add (j + 1) (by omega) (unhide HX) (by simp [ksj]) (fun i => blj j i ∨ i = j + 1) (fun i h => h)
      have BA : Below w.heap.size w ((((wr.setCell ⟨w.heap.size, j + 1, none⟩ (.pointer (some ⟨wr.heap.size + 2, 0, none⟩))).alloc (.map #[] 0)).alloc (.map #[] 0)).alloc
        (.cells #[.string (nmB (j + 1)), .string ⟨#[]⟩, .int .u64 0, .int .i64 0, .pointer none, .int .u64 0, .map (some wr.heap.size), .map (some (wr.heap.size + 1))] 52)) :=
        ((((unhide HB).setCell (Nat.le_refl _) _).alloc (by simp; omega) _).alloc (by simp; omega) _).alloc (by simp; omega) _
      have SA : ((((wr.setCell ⟨w.heap.size, j + 1, none⟩ (.pointer (some ⟨wr.heap.size + 2, 0, none⟩))).alloc (.map #[] 0)).alloc (.map #[] 0)).alloc
        (.cells #[.string (nmB (j + 1)), .string ⟨#[]⟩, .int .u64 0, .int .i64 0, .pointer none, .int .u64 0, .map (some wr.heap.size), .map (some (wr.heap.size + 1))] 52)).heap.size = wr.heap.size + 3 := by simp
      generalize hW1 : ((((wr.setCell ⟨w.heap.size, j + 1, none⟩ (.pointer (some ⟨wr.heap.size + 2, 0, none⟩))).alloc (.map #[] 0)).alloc (.map #[] 0)).alloc
        (.cells #[.string (nmB (j + 1)), .string ⟨#[]⟩, .int .u64 0, .int .i64 0, .pointer none, .int .u64 0, .map (some wr.heap.size), .map (some (wr.heap.size + 1))] 52)) = W1 at PA BA SA ⊢
      clear hW1 hcn vb hcb hfz hlt1a hlt1b hlt1 hlt2
      have d0 := ((PA.sub (i := 0) (by omega)).2.2 (.inl (.inl rfl)))
      have d1 := ((PA.sub (i := j + 1) (by omega)).2.2 (.inr rfl))
      have d2 := PA.name hlt
      have d3 := (PA.maps (i := 0) (by omega) (.inl (.inl rfl))).1
      obtain ⟨W2, hup, P2, S2, B2⟩ := PA.link_run 0 (j + 1) (by omega) (.inl (.inl rfl)) (fun i => if i = 0 then ksj j 0 ++ [j + 1] else ksj j i) (fun i _ _ => by by_cases e : i = 0 <;> simp [e]) (fun q hq => by
        simp [ksj] at hq
        obtain ⟨x, hx, rfl⟩ := hq
        exact nm_ne (x + 1) (by omega) (j + 1) (by omega) (by omega))
      have HP2 := hide P2
      have HB2 := hide (B2 w BA)
      have hsz2 : XB w.heap.size (j + 4) = W2.heap.size := by
        rw [S2, SA, unhide Hsz]
        obtain rfl | rfl | rfl : j = 0 ∨ j = 1 ∨ j = 2 := by omega
        all_goals simp [XB, off]
      have Hsz2 := hide hsz2
      have HSA : Hid (W2.heap.size = wr.heap.size + 3) := S2.trans SA
      clear PA BA SA P2 S2 B2 hsz2
      go_region
      obtain ⟨⟨vb, hcb⟩, hfz, _⟩ := (unhide HP2).sub (i := j + 4) (by omega)
      obtain ⟨hlt1, hlt2⟩ := (unhide HP2).lts
      have hlt1a : w.heap.size < W2.heap.size + 1 := by omega
      have hlt1b : w.heap.size < W2.heap.size + 1 + 1 := by omega
      clear d0 d1 d2 d3 hup
      go_wp2_with fail
      refine (new_any _ _).mono ?_
      rintro e w' ⟨rfl, rfl⟩
      go_wp2
      have PC := (unhide HP2).add (j + 4) (by omega) (unhide Hsz2) (by simp [ksj]) (blj (j + 1)) (fun i h => by unfold blj at h ⊢; omega)
      have hnm4 : nmB (j + 4) = ⟨#[100]⟩ := by
        obtain rfl | rfl | rfl : j = 0 ∨ j = 1 ∨ j = 2 := by omega
        all_goals rfl
      rw [hnm4] at PC
      have BC : Below w.heap.size w ((((W2.setCell ⟨w.heap.size, j + 4, none⟩ (.pointer (some ⟨W2.heap.size + 2, 0, none⟩))).alloc (.map #[] 0)).alloc (.map #[] 0)).alloc
        (.cells #[.string ⟨#[100]⟩, .string ⟨#[]⟩, .int .u64 0, .int .i64 0, .pointer none, .int .u64 0, .map (some W2.heap.size), .map (some (W2.heap.size + 1))] 52)) :=
        ((((unhide HB2).setCell (Nat.le_refl _) _).alloc (by simp; omega) _).alloc (by simp; omega) _).alloc (by simp; omega) _
      have SC : ((((W2.setCell ⟨w.heap.size, j + 4, none⟩ (.pointer (some ⟨W2.heap.size + 2, 0, none⟩))).alloc (.map #[] 0)).alloc (.map #[] 0)).alloc
        (.cells #[.string ⟨#[100]⟩, .string ⟨#[]⟩, .int .u64 0, .int .i64 0, .pointer none, .int .u64 0, .map (some W2.heap.size), .map (some (W2.heap.size + 1))] 52)).heap.size = W2.heap.size + 3 := by simp
      generalize hW3 : ((((W2.setCell ⟨w.heap.size, j + 4, none⟩ (.pointer (some ⟨W2.heap.size + 2, 0, none⟩))).alloc (.map #[] 0)).alloc (.map #[] 0)).alloc
        (.cells #[.string ⟨#[100]⟩, .string ⟨#[]⟩, .int .u64 0, .int .i64 0, .pointer none, .int .u64 0, .map (some W2.heap.size), .map (some (W2.heap.size + 1))] 52)) = W3 at PC BC SC ⊢
      clear hW3 vb hcb hfz hlt1a hlt1b hlt1 hlt2
      have d1 := ((PC.sub (i := j + 1) (by omega)).2.2 (by unfold blj; omega))
      have d4 := ((PC.sub (i := j + 4) (by omega)).2.2 (by unfold blj; omega))
      have d5 := (PC.maps (i := j + 1) (by omega) (by unfold blj; omega)).1
      obtain ⟨W4, hup, P4, S4, B4⟩ := PC.link_run (j + 1) (j + 4) (by omega) (by unfold blj; omega) (ksj (j + 1)) (fun i hi hb => by
        unfold blj at hb
        by_cases e0 : i = 0
        · subst e0; simp [ksj, List.range_succ]
        · by_cases e1 : i = j + 1
          · subst e1; simp [ksj]
          · simp only [ksj, e0, e1, if_false]
            by_cases e2 : 1 ≤ i ∧ i ≤ j
            · rw [if_pos (by omega), if_pos e2]
            · rw [if_neg (by omega), if_neg e2]) (fun q hq => by simp [ksj] at hq; omega)
      rw [hnm4] at hup
      have HP4 := hide P4
      have HB4 := hide (B4 w BC)
      have HS4 : Hid (W4.heap.size = w.heap.size + 5 + 6 * (j + 1)) := by
        show W4.heap.size = _
        rw [S4, SC, unhide HSA, unhide Hsz]
        omega
      clear PC BC SC P4 S4 B4 hnm4
      go_region
      go_wp2
      go_roundw
      case rel => exact ⟨j + 1, by omega, by go_num, unhide HP4, unhide HS4, unhide HB4⟩
      case measure => simp [intOf]; omega
    · have hj3 : j = 3 := by omega
      subst hj3
      obtain ⟨wo, rfl⟩ : ∃ wo : World, wo = wr := ⟨_, rfl⟩
      have LI := Laid.init (len := len) (wh := wh) (ct := ct) hlen (unhide HP) (by have := unhide Hsz; omega)
      have BI := (((unhide HB).alloc (unhide HB).size (.cells #[.string ⟨#[]⟩, .string ⟨#[97]⟩, .string ⟨#[98]⟩, .string ⟨#[99]⟩, .string ⟨#[97, 47, 100]⟩, .string ⟨#[98, 47, 100]⟩, .string ⟨#[99, 47, 100]⟩] 53)).alloc (by have := (unhide HB).size; simp; omega) (.cells (madeCells #[.pointer none] len) 32)).alloc (by have := (unhide HB).size; simp; omega) (.cells (madeCells #[.string ⟨#[]⟩] len) 9)
      have HLI := hide LI
      have HBI := hide BI
      clear LI BI
      go_wp2
      have hs3 : wo.heap.size = w.heap.size + 23 := by have := unhide Hsz; omega
      rw [hs3]
      go_loopw [9, 10, 11] (fun v1 v2 t wr => ∃ rs : List Rec, rs.length ≤ len ∧ t = .int .i64 rs.length ∧ v1 = .slice (some ⟨w.heap.size + 24, 0, none⟩) rs.length len ∧ v2 = .slice (some ⟨w.heap.size + 25, 0, none⟩) rs.length len ∧ Laid w.heap.size len wh ct rs wr ∧ Below w.heap.size w wr) (fun _ _ t _ => len - (intOf t).toNat)
      case atStart => exact ⟨[], Nat.zero_le _, rfl, rfl, rfl, unhide HLI, unhide HBI⟩
      case round =>
        obtain ⟨rs, hrl, rfl, rfl, rfl, L, hB⟩ := hrel
        have HL := hide L
        have HBr := hide hB
        clear L hB hs3
        by_cases hlt : rs.length < len
        · obtain ⟨b, off, rfl, hbl, hit⟩ : ∃ b off, a0 = some ⟨b, off, none⟩ ∧ b < w.heap.size ∧ ((0 ≤ wh rs.length ∧ wh rs.length ≤ 255) ∧ w.cell? ⟨b, off + rs.length * 2, none⟩ = some (.int .u8 (wh rs.length)) ∧ w.cell? ⟨b, off + rs.length * 2 + 1, none⟩ = some (.string (ct rs.length))) := by
            rcases unhide HIt with h | ⟨b, off, h1, h2, h3⟩
            · omega
            · exact ⟨b, off, h1, h2, h3 _ hlt⟩
          obtain ⟨hwb, hw0, hc0⟩ := hit
          have hw1 := ((unhide HBr).cell (p := ⟨b, off + rs.length * 2, none⟩) hbl).trans hw0
          obtain ⟨q, hq⟩ : ∃ q : Nat, wh rs.length % 7 = q := ⟨(wh rs.length % 7).toNat, by omega⟩
          have hq7 : q < 7 := by omega
          have Hq := hide hq
          clear hq
          go_wp2_with fail
          rw [unhide Hq]
          refine (key_any rs.length (by omega) wr).mono ?_
          rintro e w1 ⟨k, rfl, hkv, hB1⟩
          have hc1 := ((hB1.cell (p := ⟨b, off + rs.length * 2 + 1, none⟩) (by show b < wr.heap.size; have := (unhide HBr).size; omega)).trans ((unhide HBr).cell (p := ⟨b, off + rs.length * 2 + 1, none⟩) hbl)).trans hc0
          have L1 := (unhide HL).kept hB1.block
          have Hkv := hide hkv
          have HB1 := hide hB1
          have HL1 := hide L1
          clear hkv hB1 L1 hw1
          -- the file's block, its entry
          obtain ⟨W2, hup, hm2, hk2, hf2, hs2, hB2⟩ := (unhide HL1).store q hq7 k (ct rs.length) (unhide Hkv)
          have g1 := (unhide HL1).sub hq7
          have g2 := (unhide HL1).map7 hq7
          have hbig := (unhide HL1).big
          have oq := off_bd q hq7
          have hlt1 : w.heap.size < w1.heap.size := by omega
          have hlt2 : XB w.heap.size q + 2 < w1.heap.size := by unfold XB; omega
          have own1 : W2.ownsRow w.heap.size 32 1 (.slice (some ⟨w.heap.size + 24, 0, none⟩) rs.length len) rs.length (rs.map fun r => .pointer (some ⟨r.2.2, 0, none⟩)) := ownsRow_of_block (unhide HL1).files (hk2 _ (by omega) (by unfold XB; omega))
          have own2 : W2.ownsRow w.heap.size 9 1 (.slice (some ⟨w.heap.size + 25, 0, none⟩) rs.length len) rs.length (rs.map fun r => .string (pathB r.1)) := ownsRow_of_block (unhide HL1).dirs (hk2 _ (by omega) (by unfold XB; omega))
          have HB2 := hide (hB2 w ((unhide HBr).trans ((unhide HB1).mono (unhide HBr).size)) (by omega))
          have hb2s : w.heap.size ≤ W2.heap.size := by omega
          have Hm2 := hide hm2
          have Hk2 := hide hk2
          have Hf2 := hide hf2
          have Hs2 := hide hs2
          have Ho1 := hide own1
          have Ho2 := hide own2
          clear hm2 hk2 hf2 hs2 hB2 own1 own2
          go_wp2_with (at_builtin; refine wpList_append_fits _ rfl (.tmp 94) (.tmp 96) 24 rfl w.heap.size 32 i32 1 Yba.underlying24 hi32 hs32 (w.heap.size + 24) rs.length len _ rfl ((unhide Ho1).alloc _) ⟨W2.heap.size, 0, none⟩ 1 1 [.pointer (some ⟨w1.heap.size, 0, none⟩)] rfl rfl (cell_one_new _ _ _) ?c2 (by omega) ?_)
          case c2 => intro u hu; simp at hu; subst hu; rfl
          · intro w3 hown3 hg3
            have hbW : w.heap.size + 25 < W2.heap.size := by have := unhide Hs2; omega
            have hpth : w3.cell? ⟨w.heap.size + 23, q, none⟩ = some (.string (pathB q)) := by
              rw [← (unhide HL1).path hq7]
              refine World.cell?_of_block ?_
              show w3.heap[w.heap.size + 23]? = _
              rw [hg3.block _ (by simp; omega) (by simp), heap_alloc_old _ _ (by omega), unhide Hk2 _ (by omega) (by unfold XB; omega)]
            have own2' : w3.ownsRow w.heap.size 9 1 (.slice (some ⟨w.heap.size + 25, 0, none⟩) rs.length len) rs.length (rs.map fun r => .string (pathB r.1)) :=
              ownsRow_of_block (unhide Ho2) (by rw [hg3.block _ (by simp; omega) (by simp), heap_alloc_old _ _ (by omega)])
            have hs3 := hg3.size
            rw [World.size_alloc] at hs3
            have Hown3 := hide hown3
            have Hg3 := hide hg3
            have Ho2' := hide own2'
            clear hown3 hg3 own2' g1 g2 hup
            go_wp2_with (at_builtin; refine wpList_append_fits _ rfl (.tmp 98) (.tmp 102) 25 rfl w.heap.size 9 i9 1 Yba.underlying25 hi9 hs9 (w.heap.size + 25) rs.length len _ rfl ((unhide Ho2').alloc _) ⟨w3.heap.size, 0, none⟩ 1 1 [.string (pathB q)] rfl rfl (cell_one_new _ _ _) ?d2 (by omega) ?_)
            case d2 => intro u hu; simp at hu; subst hu; rfl
            · intro w4 hown4 hg4
              have hs4 := hg4.size
              rw [World.size_alloc] at hs4
              have K : ∀ b, b < w1.heap.size → b ≠ XB w.heap.size q + 1 → b ≠ w.heap.size + 24 → b ≠ w.heap.size + 25 → w4.heap[b]? = w1.heap[b]? := fun b hb n1 n2 n3 => by
                have := unhide Hs2
                rw [hg4.block b (by simp; omega) (by simpa using n3), heap_alloc_old _ _ (by omega), (unhide Hg3).block b (by simp; omega) (by simpa using n2), heap_alloc_old _ _ (by omega), unhide Hk2 b hb n1]
              have T : ∀ b, b < W2.heap.size → b ≠ w.heap.size + 24 → b ≠ w.heap.size + 25 → w4.heap[b]? = W2.heap[b]? := fun b hb n2 n3 => by
                rw [hg4.block b (by simp; omega) (by simpa using n3), heap_alloc_old _ _ (by omega), (unhide Hg3).block b (by simp; omega) (by simpa using n2), heap_alloc_old _ _ (by omega)]
              have hf4 : w4.ownsRow w.heap.size 32 1 (.slice (some ⟨w.heap.size + 24, 0, none⟩) (rs.length + 1) len) (rs.length + 1) ((rs.map fun r => .pointer (some ⟨r.2.2, 0, none⟩)) ++ [.pointer (some ⟨w1.heap.size, 0, none⟩)]) :=
                ownsRow_of_block (unhide Hown3) (by rw [hg4.block _ (by simp; omega) (by simp), heap_alloc_old _ _ (by omega)])
              have L4 := (unhide HL1).step q w1.heap.size k hq7 (unhide Hq).symm (unhide Hkv) (Nat.le_refl _) (by omega) K ((T _ (lt_of_block (unhide Hm2)) (by unfold XB; omega) (by unfold XB; omega)).trans (unhide Hm2)) ((T _ (lt_of_block (unhide Hf2)) (by omega) (by omega)).trans (unhide Hf2)) hf4 hown4
              have B3 : Below w.heap.size w w3 := ((unhide HB2).alloc hb2s _).grown (unhide Hg3) (by simp; omega) (fun k hk => by cases hk; omega)
              have B4 : Below w.heap.size w w4 := (B3.alloc (by omega) _).grown hg4 (by simp; omega) (fun k hk => by cases hk; omega)
              have HL4 := hide L4
              have HB4 := hide B4
              clear hown4 hg4 K T hf4 L4 B3 B4
              go_wp2
              go_roundw
              case rel =>
                (repeat apply Exists.intro)
                exact ⟨⟨rs ++ [(q, k, w1.heap.size)], by simp; omega, by simp, by simp, by simp, unhide HL4, unhide HB4⟩, rfl⟩
              case measure => simp [intOf]; omega
        · have g1 := (unhide HL).sub (i := 0) (by omega)
          have hrn : rs.length = len := by omega
          subst hrn
          go_wp2
          go_ret3
          exact ⟨rs, rfl, rfl, unhide HL, unhide HBr⟩

end Go.Proofs.Ybulkbkfm
