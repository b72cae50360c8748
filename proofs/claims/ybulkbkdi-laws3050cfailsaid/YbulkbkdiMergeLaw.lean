/-
  Seat b3050a: LawS3050CMerge.
-/
import Derived.Test.YbulkbkdiPre
namespace Go.Proofs.Ybulkbkdi
open Go.RowKit Go.Sort

/-- The rows that came in. -/
structure In (W : World) (q : Option Addr) (n : Nat) (A : Nat → Option Addr) (C : Nat → Nat) (X : Nat → List Int) : Prop where
  row : ∀ i, i < n → ∃ b o, q = some ⟨b, o, none⟩ ∧ b < W.heap.size ∧ W.cell? ⟨b, o + i, none⟩ = some (.slice (A i) (X i).length (C i))
  nilrow : ∀ i, i < n → A i = none → X i = []
  cells : ∀ i, i < n → 0 < (X i).length → ∀ b o s, A i = some ⟨b, o, s⟩ → s = none ∧ ∀ t (h : t < (X i).length), b < W.heap.size ∧ W.cell? ⟨b, o + t, none⟩ = some (.int .u8 (X i)[t])
  byte : ∀ i, i < n → ∀ x ∈ X i, 0 ≤ x ∧ x < 256

theorem In.src {W : World} {q : Option Addr} {n : Nat} {A : Nat → Option Addr} {C : Nat → Nat} {X : Nat → List Int} (h : In W q n A C X) (hs : ∀ i, i < n → (X i).length ≤ 256) : Src W q n A C X := ⟨h.row, hs, h.nilrow, h.cells⟩
theorem In.small {W : World} {q : Option Addr} {n : Nat} {A : Nat → Option Addr} {C : Nat → Nat} {X : Nat → List Int} (h : In W q n A C X) (cap : Nat) (hn : n ≤ 9223372036854775807) :
    Calls Yba.prog 5 #[.slice q n cap] W fun e w' => (∃ r : Bool, e = .returned (.bool r) ∧ Hid (r = true ↔ n ≤ 256 ∧ ∀ i, i < n → (X i).length ≤ 256)) ∧ w' = W :=
  small_walk W q n cap A (fun i => (X i).length) C (fun i hi => by obtain ⟨b, o, e, _, hc⟩ := h.row i hi; exact ⟨b, o, e, hc⟩) hn

/-- What mergeSources leaves where no source fails and the callback stops at lim. -/
theorem merge_res {W0 : World} {n : Nat} {P : Nat → Nat} {KV : Nat → Value} {K : Nat → List Int} {E : List Rec} {lb lim : Nat} {e : Ending} {w' : World} (h : MOut W0 n P KV K (fun _ => -1) (fun _ => .nilIface) E lb (fun m => !(decide (0 < lim) && decide (lim ≤ m))) e w') :
    e = .returned .nilIface ∧ ∃ l lv, LogAt w' (W0.heap.size + 1) lb lv l ∧ Step (fun k => k = lb ∨ ∃ j, j < n ∧ k = P j) W0 w' ∧ (∃ E', E = l ++ E') ∧
      ((l.length = E.length ∧ (lim = 0 ∨ E.length < lim) ∧ ∀ j, j < n → ∃ calls key val, RunIs w' (P j) (KV j) j (K j).length calls (-1) .nilIface key val) ∨ (l.length = lim ∧ 0 < lim ∧ lim ≤ E.length)) := by
  obtain ⟨l, lv, h1, h2, h3, h⟩ := h
  have hpl : l.length ≤ E.length := by obtain ⟨E', e⟩ := h3; rw [e, List.length_append]; omega
  rcases h with ⟨he, hlE, hct, hr⟩ | ⟨he, hl1, hc, hct⟩ | ⟨j, _, f, hf, _⟩
  · refine ⟨he, l, lv, h1, h2, h3, Or.inl ⟨by rw [hlE], ?_, fun j hj => ?_⟩⟩
    · by_cases h0 : E.length = 0
      · omega
      · have := hct E.length (by omega) (by rw [hlE]; omega)
        simp at this
        omega
    · obtain ⟨⟨key, val, hx⟩, _⟩ := hr j hj
      exact ⟨_, _, _, hx⟩
  · refine ⟨he, l, lv, h1, h2, h3, Or.inr ?_⟩
    simp at hc
    by_cases h0 : l.length = 1
    · omega
    · have := hct (l.length - 1) (by omega) (by omega)
      simp at this
      omega
  · have hf2 : (-1 : Int) = (f : Int) := hf
    omega

theorem below_drewN {B : Nat} {a w : World} (h : Below B a w) (m : Nat) : Below B a (w.drewN m) := ⟨h.os, h.tape, h.output, h.size, h.block⟩

theorem three (w : World) (a b c : Obj) : ((((w.alloc a).alloc b).alloc c).heap[w.heap.size]? = some a ∧ (((w.alloc a).alloc b).alloc c).heap[w.heap.size + 1]? = some b ∧ (((w.alloc a).alloc b).alloc c).heap[w.heap.size + 1 + 1]? = some c) ∧ Step (fun _ => False) w (((w.alloc a).alloc b).alloc c) := by
  refine ⟨⟨?_, ?_, ?_⟩, (((Step.refl _ w).alloc a).alloc b).alloc c⟩
  · rw [Below.heap_alloc _ _ _ (by simp; omega), Below.heap_alloc _ _ _ (by simp)]; exact alloc_new w a
  · rw [Below.heap_alloc _ _ _ (by simp)]
    have := alloc_new (w.alloc a) b
    simpa using this
  · have := alloc_new ((w.alloc a).alloc b) c
    simpa using this

set_option maxHeartbeats 3200000 in
set_option maxRecDepth 1000000 in
theorem merge_law (W : World) (q : Option Addr) (n cap : Nat) (A : Nat → Option Addr) (C : Nat → Nat) (X : Nat → List Int) (lim : Nat) (hl : lim ≤ 255) (hI : In W q n A C X) (hn : n ≤ 9223372036854775807) :
    Calls Yba.prog 3 #[.slice q n cap, .int .u8 lim] W fun e w' => e = .returned (.bool true) ∧ Below W.heap.size W w' := by
  have hsm := hI.small cap hn
  have HI := hide hI
  clear hI
  go_enter Yba.func3, Yba.ntmps3
  go_upto_if 16 with (go_at_call 5; refine hsm.mono ?_; rintro e w' ⟨⟨r, rfl, hr⟩, rfl⟩)
  cases r
  · go_wp2_with fail
    go_ret
    exact ⟨rfl, Below.refl _ _⟩
  · obtain ⟨hn2, hX⟩ := hr.out.1 rfl
    have hbd := build_walk w' q n cap A C X (HI.out.src hX) hn2
    have HX := hide hX
    clear hX hr hsm hn
    go_upto_region 4 with (go_at_call 6; refine hbd.mono ?_; rintro e w1 ⟨P, G, KV, K, ev, E, rfl, hout⟩)
    obtain ⟨qe, ce, hev⟩ := hout.exp.form
    have Hev := hide hev
    have Hout := hide hout
    clear hbd hout hev
    go_upto_region 7 with fail
    obtain ⟨⟨q0, q1, q2⟩, hst⟩ := three w1 (.cells #[.int .i64 lim] 3) (.cells #[.slice none 0 0] 26) (.cells #[.bool false] 4)
    generalize (((w1.alloc (.cells #[.int .i64 lim] 3)).alloc (.cells #[.slice none 0 0] 26)).alloc (.cells #[.bool false] 4)) = W0 at q0 q1 q2 hst ⊢
    have hP : ∀ j, j < n → P j < w1.heap.size ∧ w'.heap.size ≤ P j := fun j hj => ⟨(Hout.out.br.new j hj).1.2.2.2, (Hout.out.br.new j hj).1.1⟩
    have hmin : MIn W0 n (w'.heap.size + 1) P G KV K (fun _ => -1) (fun _ => .nilIface) E (w1.heap.size + 1) w1.heap.size (.cells #[.int .i64 lim] 3 (0, 0)) :=
      Hout.out.min hn2 HX.out HI.out.byte hst (fun k hk _ => hk.elim) (fun j hj => by unfold RunIs; rw [hst.block _ (hP j hj).1 (fun h => h)]; exact Hout.out.br.run j hj) (fun j _ h => absurd h (by decide)) ⟨by omega, by omega, by omega⟩ q1 q0
    have hmg : Calls Yba.prog 7 #[.slice (some ⟨w'.heap.size + 1, 0, none⟩) n n, .func (.func 8) #[] #[.pointer (some ⟨w1.heap.size + 1 + 1, 0, none⟩), .pointer (some ⟨w1.heap.size + 1, 0, none⟩), .pointer (some ⟨w1.heap.size, 0, none⟩)]] W0 _ :=
      (merge_walk 8 _ hmin hn2 eg8 (cb8 _ _ _ _ lim (by omega))).mono fun e w h => merge_res h
    have hEl := hmin.small
    have Hst := hide hst
    have HP := hide hP
    have Hq := hide (And.intro q0 q2)
    clear hmin hst hP q0 q1 q2
    go_upto_region 8 with (go_at_call 7; refine hmg.mono ?_; rintro e w2 ⟨rfl, l, lv, hlog, hst2, hpre, hres⟩)
    have hsz := Hst.out.size
    have hl0 := lt_of Hq.out.1
    have hl2 := lt_of Hq.out.2
    have nP : ∀ k, w1.heap.size ≤ k → k ≠ w1.heap.size + 1 → ¬ (k = w1.heap.size + 1 ∨ ∃ j, j < n ∧ k = P j) := fun k h1 h2 h => h.elim h2 fun ⟨j, hj, e⟩ => by have := (HP.out j hj).1; omega
    have cl : w2.cell? ⟨w1.heap.size, 0, none⟩ = some (.int .i64 lim) := by
      rw [World.cell?_of_block (w := W0) (hst2.block _ hl0 (nP w1.heap.size (by omega) (by omega)))]; exact cell_of Hq.out.1 0
    have cb : w2.cell? ⟨w1.heap.size + 1 + 1, 0, none⟩ = some (.bool false) := by
      rw [World.cell?_of_block (w := W0) (hst2.block _ hl2 (nP (w1.heap.size + 1 + 1) (by omega) (by omega)))]; exact cell_of Hq.out.2 0
    have cg : w2.cell? ⟨w1.heap.size + 1, 0, none⟩ = some lv := cell_of hlog.1 0
    have hexp : ExpAt w2 ev E := by
      refine (Hout.out.exp.keep hsz (fun k hk => ?_)).keep hst2.size fun k hk => ?_
      · obtain ⟨g, cg', rfl, hg, _⟩ : ∃ g c, ev = .slice (some ⟨g, 0, none⟩) E.length c ∧ g < w1.heap.size ∧ True := by
          rcases Hout.out.exp with ⟨rfl, _⟩ | ⟨g, c, rfl, hg, _⟩
          · simp [Value.ownBlock] at hk
          · exact ⟨g, c, rfl, hg, trivial⟩
        simp only [Value.ownBlock, Option.some.injEq] at hk
        subst hk
        exact Hst.out.block _ hg fun h => h
      · have ho := (Hout.out.off k hk).2
        have hk1 : k < w1.heap.size := by
          rcases Hout.out.exp with ⟨rfl, _⟩ | ⟨g, c, rfl, hg, _⟩
          · simp [Value.ownBlock] at hk
          · simp only [Value.ownBlock, Option.some.injEq] at hk
            subst hk; exact hg
        refine hst2.block k (by omega) ?_
        rintro (e | ⟨j, hj, e⟩)
        · omega
        · exact (ho.2.2 j hj).1 e
    have hbel : Below w'.heap.size w' w2 := by
      have h1 := Hout.out.below
      have h2 : Below w'.heap.size w1 W0 := Hst.out.below (fun k hk => hk.elim) h1.size
      have h3 : Below w'.heap.size W0 w2 := hst2.below (fun k hk => by
        rcases hk with e | ⟨j, hj, e⟩
        · have := h1.size; omega
        · rw [e]; exact (HP.out j hj).2) (by have := h1.size; omega)
      exact (h1.trans h2).trans h3
    have hpx := prefix_any w2 lv ev l E (exp_of_row hlog.2) hexp hpre (by omega)
    have Hbel := hide hbel
    have hruns : Hid (∀ i, i < n → w2.cell? ⟨w'.heap.size, i, none⟩ = some (.pointer (some ⟨P i, 0, none⟩))) := hide fun i hi => by
      obtain ⟨cr, hcr, _, hcp⟩ := Hout.out.br.runs
      have hb : w2.heap[w'.heap.size]? = some (.cells cr 39 (0, 0)) := by
        have hlt := lt_of hcr
        rw [hst2.block _ (by omega) (by
          rintro (e | ⟨j, hj, e⟩)
          · omega
          · exact (Hout.out.br.new j hj).1.2.1 e.symm), Hst.out.block _ hlt (fun h => h)]
        exact hcr
      rw [cell_of hb i]; exact hcp i hi
    have hkeys : Hid (∀ i, i < n → ∃ kq kc, KV i = .slice kq (K i).length kc) := hide fun i hi => by
      rcases Hout.out.br.keys i hi with ⟨e1, e2⟩ | ⟨c, e1, _⟩
      · exact ⟨none, 0, by rw [e1, e2]; rfl⟩
      · exact ⟨_, _, e1⟩
    have Hres := hide hres
    have hlen := Hev.out
    subst hlen
    obtain ⟨M, HM⟩ : ∃ M, Hid (M = E.length) := ⟨_, hide rfl⟩
    rw [← HM.out] at hpx ⊢
    have hM : M < 100000 := by rw [HM.out]; exact hEl
    clear hmg hlog hst2 hpre hres hexp hbel nP hl0 hl2 hsz hEl
    rcases Hres.out with ⟨hle, hlim, hrd⟩ | ⟨hle, hl1, hl2⟩
    · rw [hle, ← HM.out] at hpx
      rw [← HM.out] at hlim
      have Hrd := hide hrd
      clear hrd hle
      go_wp2_with (go_at_call 9; refine hpx.mono ?_; rintro e w3 ⟨rfl, q, rfl⟩)
      all_goals
        go_loopg [58] n (fun g v wr => ∃ (i q : Nat), v = .int .i64 i ∧ i ≤ n ∧ n - i ≤ g ∧ Hid (wr = w2.drewN q))
        case atStart => exact ⟨0, q, rfl, Nat.zero_le _, Nat.le_refl _, hide rfl⟩
        case round =>
          obtain ⟨i, q3, rfl, hin, hg, hw⟩ := hrel
          by_cases hlt : i < n
          · obtain ⟨calls, key, val, hr⟩ := Hrd.out i hlt
            obtain ⟨kq, kc, hkv⟩ := hkeys.out i hlt
            rw [hkv] at hr
            have r0 : wr.cell? ⟨w'.heap.size, i, none⟩ = some (.pointer (some ⟨P i, 0, none⟩)) := by rw [hw.out]; exact hruns.out i hlt
            have r1 : wr.cell? ⟨P i, 0, none⟩ = some (.slice kq (K i).length kc) := by rw [hw.out]; exact cell_of hr 0
            have r2 : wr.cell? ⟨P i, 2, none⟩ = some (.int .i64 (K i).length) := by rw [hw.out]; exact cell_of hr 2
            clear hr hkv
            go_wp2_with fail
            go_region
            all_goals go_wp2
            go_roundg (n - (i + 1))
            case measure => omega
            case rel => exact ⟨i + 1, q3 + 1, by go_num, by omega, Nat.le_refl _, by show wr.drew = _; rw [hw.out]; rfl⟩
          · go_wp2
            go_ret
            rw [hw.out]
            exact ⟨rfl, below_drewN Hbel.out _⟩
    · rw [hle] at hpx
      rw [← HM.out] at hl2
      clear hle
      have hz : ((lim : Int) == 0) = false := by
        rw [beq_eq_false_iff_ne]; omega
      have hz2 : ¬ M < lim := by omega
      rcases Nat.lt_or_ge lim M with h | h
      · go_wp2_with (go_at_call 9; refine hpx.mono ?_; rintro e w3 ⟨rfl, q, rfl⟩)
        go_ret
        exact ⟨rfl, below_drewN Hbel.out _⟩
      · have e : lim = M := by omega
        subst e
        go_wp2_with (go_at_call 9; refine hpx.mono ?_; rintro e w3 ⟨rfl, q, rfl⟩)
        go_ret
        exact ⟨rfl, below_drewN Hbel.out _⟩
end Go.Proofs.Ybulkbkdi
