/-
  Seat b3054a: allFiles (6), its closure (11), LawS3054BStop's callback (8), LawS3054BStop (4).
-/
import Derived.Test.YbulkbkfmAll
import Derived.Test.YbulkbkfmYield
import Derived.Test.YbulkbkfmBuild
import Derived.Shelf.Abstract
import Derived.Outline
namespace Go.Proofs.Ybulkbkfm
open Go.RowKit
set_option linter.unusedVariables false

theorem allFiles_any (p : Nat) (w : World) : Calls Yba.prog 6 #[.pointer (some ⟨p, 0, none⟩)] w fun e w' => e = .returned (.func (.func 11) #[] #[.pointer (some ⟨w.heap.size, 0, none⟩)]) ∧ w' = w.alloc (.cells #[.pointer (some ⟨p, 0, none⟩)] 23) := by
  go_enter Yba.func6, Yba.ntmps6
  go_wp2
  go_ret
  exact ⟨rfl, rfl⟩

def htB : Nat → Nat
  | 0 => 2 | 1 => 1 | 2 => 1 | 3 => 1 | _ => 0

theorem htB_ok : ∀ i, i < 7 → ∀ k, k ∈ kidsB i → k < 7 ∧ htB k < htB i := by decide

theorem nm_size : ∀ k, (nmB k).size ≤ 8
  | 0 => by decide | 1 => by decide | 2 => by decide | 3 => by decide | _ + 4 => by simp [nmB]; decide

theorem ht_lt : ∀ i, i < 7 → htB i < 3 := by decide

set_option maxHeartbeats 400000 in
/-- allFiles' closure, run: the whole walk over the tree. -/
theorem walk_all {g : Nat} {lb : Array Value} {B N0 : Nat} {own : Nat → Prop} {Inv : List (ByteArray × Nat) → World → Prop} {cont : List (ByteArray × Nat) → Bool} {rs : List Rec} (bx : Nat) (W : World)
    (eg : ∀ args w, (callFunc g args).run Yba.prog w = .ok (.enter g args) w) (hown : ∀ b, own b → b < N0 ∧ B + 25 < b) (hst : ∀ ys W W', Inv ys W → Below N0 W W' → Inv ys W') (hBN : B + 25 < N0)
    (hcb : CB g lb N0 own Inv cont (AllB rs)) (hT : TreeAt (XB B) nmB kidsB (flOf rs) W) (hI : Inv [] W) (hs : N0 ≤ W.heap.size) (hc : cont [] = true) (hnd : (AllB rs).Nodup) (hbx : W.cell? ⟨bx, 0, none⟩ = some (.pointer (some ⟨XB B 0 + 2, 0, none⟩))) :
    Calls Yba.prog 11 #[.func (.func g) #[] lb, .pointer (some ⟨bx, 0, none⟩)] W fun e W' => e = .returned (.tuple #[]) ∧ ∃ zs, Inv zs W' ∧ Kp own W W' ∧ ((cont zs = true ∧ zs.Perm (AllB rs)) ∨ (cont zs = false ∧ ∃ rest, (zs ++ rest).Perm (AllB rs))) := by
  have hY : YC (XB B) nmB kidsB (flOf rs) g lb N0 own Inv cont (AllB rs) 3 0 := yield_all htB htB_ok eg (fun i hi => by have := off_bd i hi; unfold XB; omega) nm_size
    (fun b hb => ⟨(hown b hb).1, fun i hi j hj => by have := (hown b hb).2; have := off_bd i hi; unfold XB; omega⟩) hst hcb 3 0 (by omega) (ht_lt 0 (by omega))
  have hcall := hY ⟨#[]⟩ [] W (by decide) hT hI hs hc (by rw [List.nil_append]; exact hnd) (fun x hx => hx)
  have Hcall := hide hcall
  clear hcall hY hst hcb hT hI hnd hown
  go_enter Yba.func11, Yba.ntmps11
  go_wp2_with fail
  refine (unhide Hcall).mono ?_
  rintro e w2 ⟨zs, hI2, _, hK2, ⟨rfl, hc2, hp2⟩ | ⟨rfl, hc2, hp2⟩⟩
  · have H1 : Hid (Inv zs w2) := hide (by simpa using hI2)
    have H2 : Hid (cont zs = true) := hide (by simpa using hc2)
    have H3 := hide hp2
    have H4 := hide hK2
    clear hI2 hc2 hp2 hK2
    go_wp2
    go_end0
    exact ⟨rfl, zs, unhide H1, unhide H4, .inl ⟨unhide H2, unhide H3⟩⟩
  · have H1 : Hid (Inv zs w2) := hide (by simpa using hI2)
    have H2 : Hid (cont zs = false) := hide (by simpa using hc2)
    have H3 := hide hp2
    have H4 := hide hK2
    clear hI2 hc2 hp2 hK2
    go_wp2
    go_end0
    exact ⟨rfl, zs, unhide H1, unhide H4, .inr ⟨unhide H2, unhide H3⟩⟩

/-! ### LawS3054BStop -/

/-- What holds behind the yields ys: 'calls' in block C counts them; 'k' lies in block Kb. -/
def InvS (C Kb : Nat) (k : Int) (ys : List (ByteArray × Nat)) (W : World) : Prop :=
  W.heap[C]? = some (.cells #[.int .i64 ys.length] 3 (0, 0)) ∧ W.heap[Kb]? = some (.cells #[.int .i64 k] 3 (0, 0)) ∧ (ys.length : Int) ≤ k

def contS (k : Int) (ys : List (ByteArray × Nat)) : Bool := decide ((ys.length : Int) < k)

set_option maxHeartbeats 400000 in
theorem stop_cb (C Kb N0 : Nat) (k : Int) (hk : k ≤ 3000) (hne : Kb ≠ C) (hC : C < N0) (All : List (ByteArray × Nat)) :
    CB 8 #[.pointer (some ⟨C, 0, none⟩), .pointer (some ⟨Kb, 0, none⟩)] N0 (fun b => b = C) (InvS C Kb k) (contS k) All := by
  intro ys d p W hI hs hc _ _
  obtain ⟨h1, h2, h3⟩ := hI
  have hc' : (ys.length : Int) < k := by simpa [contS] using hc
  have c1 := cell_of_one h1
  have c2 := cell_of_one h2
  have f1 := free_of_one h1
  have hset := one_setCell (u := .int .i64 (ys.length + 1)) h1
  have H1 := hide h1
  have H2 := hide h2
  have Hset := hide hset
  clear h1 h2 hset hc
  have e : (#[.string d, .pointer (some ⟨p, 0, none⟩)] ++ #[.pointer (some ⟨C, 0, none⟩), .pointer (some ⟨Kb, 0, none⟩)] : Array Value) = #[.string d, .pointer (some ⟨p, 0, none⟩), .pointer (some ⟨C, 0, none⟩), .pointer (some ⟨Kb, 0, none⟩)] := by simp
  rw [e]
  clear e
  go_enter Yba.func8, Yba.ntmps8
  go_wp2
  go_ret
  refine ⟨?_, ⟨?_, ?_, ?_⟩, ⟨fun b hb hn => heap_setCell_other _ _ _ _ hn, by simp, rfl, rfl, rfl⟩, by simp⟩
  · simp [contS]
  · simpa using unhide Hset
  · rw [heap_setCell_other _ _ _ _ hne]; exact unhide H2
  · simp; omega

theorem eg8 : ∀ args w, (callFunc 8 args).run Yba.prog w = .ok (.enter 8 args) w := enters_of Yba.func8 (by kernel_rfl) rfl
theorem eg7 : ∀ args w, (callFunc 7 args).run Yba.prog w = .ok (.enter 7 args) w := enters_of Yba.func7 (by kernel_rfl) rfl

theorem laid_lt {B len : Nat} {wh : Nat → Int} {ct : Nat → ByteArray} {rs : List Rec} {W : World} (h : Laid B len wh ct rs W) : ∀ r ∈ rs, r.1 < 7 := by
  intro r hr
  obtain ⟨i, hi⟩ := List.getElem?_of_mem hr
  have := (h.recs i r hi).1
  omega

theorem laid_nodup {B len : Nat} {wh : Nat → Int} {ct : Nat → ByteArray} {rs : List Rec} {W : World} (h : Laid B len wh ct rs W) : (AllB rs).Nodup := by
  refine (all_perm rs (laid_lt h)).nodup_iff.2 ?_
  have h1 := h.apart
  have h2 : ((rs.map fun r => (pathB r.1, r.2.2)).map (·.2)).Nodup := by rw [List.map_map]; exact h1
  exact List.Pairwise.of_map (·.2) (fun a b h e => h (by rw [e])) h2

theorem laid_length {B len : Nat} {wh : Nat → Int} {ct : Nat → ByteArray} {rs : List Rec} {W : World} (h : Laid B len wh ct rs W) : (AllB rs).length = rs.length := by
  rw [(all_perm rs (laid_lt h)).length_eq, List.length_map]

set_option maxHeartbeats 1600000 in
theorem stop_law (a0 : Option Addr) (len cap : Nat) (wh : Nat → Int) (ct : Nat → ByteArray) (st : Int) (w : World) (It : Items w a0 len wh ct) (hl63 : len ≤ 9223372036854775807) (h1 : 0 ≤ st) (h2 : st ≤ 255) :
    Calls Yba.prog 4 #[.slice a0 len cap, .int .u8 st] w fun e w' => e = .returned (.bool true) ∧ Below w.heap.size w w' := by
  by_cases hlen : 1024 < len
  · go_enter Yba.func4, Yba.ntmps4
    go_wp2
    go_ret
    exact ⟨rfl, Below.refl _ _⟩
  · have HIt := hide It
    clear It
    have hk0 : 0 ≤ st % ((len : Int) + 2) := Int.emod_nonneg _ (by omega)
    have hk1 := Int.emod_lt_of_pos st (show (0 : Int) < (len : Int) + 2 by omega)
    go_enter Yba.func4, Yba.ntmps4
    go_wp2_with fail
    refine (build_any a0 len cap wh ct w (by omega) (unhide HIt)).mono ?_
    rintro e w1 ⟨rs, hrl, rfl, L, hB⟩
    have Hrl := hide hrl
    have HL := hide L
    have HB := hide hB
    clear hrl L hB
    go_wp2_with fail
    refine (allFiles_any _ _).mono ?_
    rintro e w2 ⟨rfl, rfl⟩
    generalize hkk : st % ((len : Int) + 2) + 1 = kk at *
    have hkk1 : 1 ≤ kk := by omega
    have hkk2 : kk ≤ 1026 := by omega
    clear hkk hk0 hk1
    obtain ⟨q0, q1, q2, hold⟩ := heap3 w1 (.cells #[.int .i64 kk] 3) (.cells #[.int .i64 0] 3) (.cells #[.pointer (some ⟨XB w.heap.size 0 + 2, 0, none⟩)] 23)
    have hz : (((w1.alloc (.cells #[.int .i64 kk] 3)).alloc (.cells #[.int .i64 0] 3)).alloc (.cells #[.pointer (some ⟨XB w.heap.size 0 + 2, 0, none⟩)] 23)).heap.size = w1.heap.size + 3 := by simp
    have hbel : Below w.heap.size w (((w1.alloc (.cells #[.int .i64 kk] 3)).alloc (.cells #[.int .i64 0] 3)).alloc (.cells #[.pointer (some ⟨XB w.heap.size 0 + 2, 0, none⟩)] 23)) := (((unhide HB).alloc (unhide HB).size _).alloc (by have := (unhide HB).size; simp; omega) _).alloc (by have := (unhide HB).size; simp; omega) _
    generalize (((w1.alloc (.cells #[.int .i64 kk] 3)).alloc (.cells #[.int .i64 0] 3)).alloc (.cells #[.pointer (some ⟨XB w.heap.size 0 + 2, 0, none⟩)] 23)) = W0 at q0 q1 q2 hold hz hbel ⊢
    have hbig := (unhide HL).big
    have L0 := (unhide HL).kept (W' := W0) (fun b hb => hold b hb)
    have hcall := walk_all (g := 8) (lb := #[.pointer (some ⟨w1.heap.size + 1, 0, none⟩), .pointer (some ⟨w1.heap.size, 0, none⟩)]) (B := w.heap.size) (N0 := w1.heap.size + 3) (own := fun b => b = w1.heap.size + 1) (Inv := InvS (w1.heap.size + 1) w1.heap.size kk) (cont := contS kk) (rs := rs) (w1.heap.size + 2) W0 eg8
      (fun b hb => by have hb' : b = w1.heap.size + 1 := hb; omega) (fun ys W W' hI hb => ⟨(hb.block _ (by omega)).trans hI.1, (hb.block _ (by omega)).trans hI.2.1, hI.2.2⟩) (by omega) (stop_cb _ _ _ kk (by omega) (by omega) (by omega) _) L0.tree ⟨q1, q0, by simp; omega⟩ (by omega) (by simp [contS]; omega) (laid_nodup L0) (cell_of_one q2)
    have Hcall := hide hcall
    have Hbel := hide hbel
    have HL0 := hide L0
    have Hz := hide hz
    clear hcall hbel L0 hold q0 q1 q2 hz
    go_wp2_with fail
    refine (unhide Hcall).mono ?_
    rintro e w3 ⟨rfl, zs, hI, hK, hres⟩
    have c1 := cell_of_one hI.1
    have c2 := cell_of_one hI.2.1
    have hle := hI.2.2
    have hB3 : Below w.heap.size w w3 := by
      have hzz := unhide Hz
      exact (unhide Hbel).trans ⟨hK.2.2.1, hK.2.2.2.1, hK.2.2.2.2, hK.2.1, fun b hb => hK.1 b (by omega) (by omega)⟩
    have HB3 := hide hB3
    have hfin : (len : Int) < kk ∧ (zs.length : Int) = len ∨ kk ≤ (len : Int) ∧ (zs.length : Int) = kk := by
      have hn := laid_length (unhide HL0)
      have hrl := unhide Hrl
      rcases hres with ⟨h1, h2⟩ | ⟨h1, rest, h2⟩
      · have := h2.length_eq
        simp [contS] at h1
        exact .inl ⟨by omega, by omega⟩
      · have := h2.length_eq
        simp [contS] at h1
        simp at this
        exact .inr ⟨by omega, by omega⟩
    clear hI hK hres hB3
    rcases hfin with ⟨hlk, hz1⟩ | ⟨hlk, hz1⟩
    · have hq : ((zs.length : Int) == (len : Int)) = true := beq_iff_eq.2 hz1
      have Hz1 := hide hz1
      clear hz1
      go_wp2
      go_ret
      exact ⟨rfl, unhide HB3⟩
    · have hq : ((zs.length : Int) == kk) = true := beq_iff_eq.2 hz1
      have Hz1 := hide hz1
      clear hz1
      go_wp2
      go_ret
      exact ⟨rfl, unhide HB3⟩

end Go.Proofs.Ybulkbkfm
