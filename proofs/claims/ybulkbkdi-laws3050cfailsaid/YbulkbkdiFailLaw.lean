/-
  Seat b3050a: LawS3050CFail.
-/
import Derived.Test.YbulkbkdiMergeLaw
import Derived.LaidEql
namespace Go.Proofs.Ybulkbkdi
open Go.RowKit Go.Sort

/-- What the build has laid, behind mergeSources. -/
theorem Out.after {W w1 W0 w2 : World} {n : Nat} {X : Nat → List Int} {P G : Nat → Nat} {KV : Nat → Value} {K : Nat → List Int} {ev : Value} {E : List Rec} {lb : Nat} (h : Out W n X P G KV K ev E w1) (st : Step (fun k => ∃ j, j < n ∧ k = P j) w1 W0) (st2 : Step (fun k => k = lb ∨ ∃ j, j < n ∧ k = P j) W0 w2) (hlb : w1.heap.size ≤ lb) : ExpAt w2 ev E ∧ Below W.heap.size W w2 := by
  have hsz := st.size
  have hb := h.below.size
  refine ⟨h.exp.keep (Nat.le_trans hsz st2.size) fun k hk => ?_, ?_⟩
  · have ho := (h.off k hk).2
    have hk1 : k < w1.heap.size := by
      rcases h.exp with ⟨rfl, _⟩ | ⟨g, c, rfl, hg, _⟩
      · simp [Value.ownBlock] at hk
      · simp only [Value.ownBlock, Option.some.injEq] at hk
        subst hk; exact hg
    rw [st2.block k (by omega) ?_, st.block k hk1 ?_]
    · rintro ⟨j, hj, e⟩
      exact (ho.2.2 j hj).1 e
    · rintro (e | ⟨j, hj, e⟩)
      · omega
      · exact (ho.2.2 j hj).1 e
  · have hP : ∀ j, j < n → W.heap.size ≤ P j := fun j hj => (h.br.new j hj).1.1
    have h2 : Below W.heap.size w1 W0 := st.below (fun k ⟨j, hj, e⟩ => by rw [e]; exact hP j hj) hb
    have h3 : Below W.heap.size W0 w2 := st2.below (fun k hk => by
      rcases hk with e | ⟨j, hj, e⟩
      · omega
      · rw [e]; exact hP j hj) (by omega)
    exact (h.below.trans h2).trans h3

/-- What mergeSources leaves where source fs fails at its call f and the callback never stops. -/
theorem fail_res {W0 : World} {n : Nat} {P : Nat → Nat} {KV : Nat → Value} {K : Nat → List Int} {E : List Rec} {lb fs f : Nat} {ert : TypeId} {erv : Value} {e : Ending} {w' : World} (hfn : fs < n)
    (h : MOut W0 n P KV K (fun j => if j = fs then (f : Int) else -1) (fun j => if j = fs then .iface ert erv else .nilIface) E lb (fun _ => true) e w') :
    ∃ l lv, LogAt w' (W0.heap.size + 1) lb lv l ∧ Step (fun k => k = lb ∨ ∃ j, j < n ∧ k = P j) W0 w' ∧ (∃ E', E = l ++ E') ∧
      (((K fs).length < f ∧ e = .returned .nilIface ∧ l.length = E.length) ∨ (f ≤ (K fs).length ∧ e = .returned (.iface ert erv) ∧ ((f = 0 ∧ l.length = 0) ∨ ∃ t, f = t + 1 ∧ 1 ≤ l.length ∧ E[l.length - 1]? = some (head K (fs, t))))) := by
  obtain ⟨l, lv, h1, h2, h3, h⟩ := h
  refine ⟨l, lv, h1, h2, h3, ?_⟩
  rcases h with ⟨he, hlE, _, hr⟩ | ⟨_, _, hc, _⟩ | ⟨j, _, f', hf, hle, he, hx⟩
  · refine Or.inl ⟨?_, he, by rw [hlE]⟩
    rcases Nat.lt_or_ge (K fs).length f with h | h
    · exact h
    · exact absurd (if_pos rfl).symm ((hr fs hfn).2 f h)
  · cases hc
  · dsimp only at hf he
    have hj : j = fs := by
      by_cases e : j = fs
      · exact e
      · rw [if_neg e] at hf; omega
    subst hj
    rw [if_pos rfl] at hf he
    have hff : f = f' := by omega
    subst hff
    refine Or.inr ⟨hle, he, ?_⟩
    rcases hx with ⟨a, b⟩ | hx
    · exact Or.inl ⟨a, by rw [b]; rfl⟩
    · exact Or.inr hx

theorem info56 : (Yba.prog.info? 56).map (fun i => i.comparable) = some true := by kernel_rfl
theorem info58 : (Yba.prog.info? 58).isSome = true := by kernel_rfl
/-- An error is itself. -/
theorem neq_same (a : Addr) (w : World) : (binOp .neq 30 (.iface 56 (.pointer (some a))) (.iface 56 (.pointer (some a)))).run Yba.prog w = .ok (.bool false) w := by
  obtain ⟨j, hj⟩ := Option.isSome_iff_exists.1 info58
  obtain ⟨i, hi, hc⟩ : ∃ i, Yba.prog.info? 56 = some i ∧ i.comparable = true := by
    have h := info56
    cases he : Yba.prog.info? 56 with
    | none => rw [he] at h; simp at h
    | some i => rw [he] at h; simp at h; exact ⟨i, rfl, h⟩
  have h := run_equalIn_iface_ptr_same w 9998 a Yba.underlying30 Yba.underlying56 hi hc hj
  simp only [binOp]
  simp [Op.equal, Op.maxDepth, h]

/-- No two of the expected records bear one source and one place. -/
theorem one_place {K : Nat → List Int} {n : Nat} {E : List Rec} (h : E.Perm (want K n)) (i j : Nat) (hi : i < E.length) (hj : j < E.length) (e : E[i].2 = E[j].2) : i = j := by
  have h1 : ((want K n).map (·.2)).Nodup := by
    refine List.pairwise_map.2 (List.pairwise_iff_getElem.2 fun a b ha hb hab hE => ?_)
    have hxy := List.pairwise_iff_getElem.1 (want_tag K n) a b ha hb hab
    simp only [ltG, decide_eq_true_eq] at hxy
    rw [hE] at hxy
    omega
  have h2 : (E.map (·.2)).Nodup := (h.map (·.2)).nodup_iff.2 h1
  have h3 := List.pairwise_map.1 h2
  have h4 := List.pairwise_iff_getElem.1 h3
  rcases Nat.lt_trichotomy i j with h | h | h
  · exact absurd e (h4 i j hi hj h)
  · exact h
  · exact absurd e.symm (h4 j i hj hi h)

set_option maxHeartbeats 3200000 in
set_option maxRecDepth 1000000 in
theorem fail_law (W : World) (q : Option Addr) (n cap : Nat) (A : Nat → Option Addr) (C : Nat → Nat) (X : Nat → List Int) (sel fl : Int) (hs0 : 0 ≤ sel) (hs1 : sel ≤ 255) (hf0 : 0 ≤ fl) (hf1 : fl ≤ 255) (hI : In W q n A C X) (hn : n ≤ 9223372036854775807) :
    Calls Yba.prog 4 #[.slice q n cap, .int .u8 sel, .int .u8 fl] W fun e w' => e = .returned (.bool true) ∧ Below W.heap.size W w' := by
  have hsm := hI.small cap hn
  by_cases hsmall : n ≤ 256 ∧ ∀ i, i < n → (X i).length ≤ 256
  · have hsm2 : Calls Yba.prog 5 #[.slice q n cap] W fun e w' => e = .returned (.bool true) ∧ w' = W := hsm.mono fun e w' ⟨⟨r, h1, h2⟩, h3⟩ => ⟨by rw [h1, h2.out.2 hsmall], h3⟩
    obtain ⟨hn2, hX⟩ := hsmall
    rcases Nat.eq_zero_or_pos n with h0 | hpos
    · subst h0
      clear hsm hX hI
      go_enter Yba.func4, Yba.ntmps4
      go_wp2_with (go_at_call 5; refine hsm2.mono ?_; rintro e w' ⟨rfl, rfl⟩)
      go_ret
      exact ⟨rfl, Below.refl _ _⟩
    · have hbd := build_walk W q n cap A C X (hI.src hX) hn2
      have HX := hide hX
      have HI := hide hI
      have hk0 : 0 ≤ sel % (n : Int) := Int.emod_nonneg _ (by omega)
      have hk1 := Int.emod_lt_of_pos sel (show (0 : Int) < (n : Int) by omega)
      obtain ⟨fs, hfs⟩ : ∃ fs : Nat, sel % (n : Int) = (fs : Int) := ⟨(sel % (n : Int)).toNat, by omega⟩
      have hfn : fs < n := by omega
      have hne0 : ((n : Int) == 0) = false := by rw [beq_eq_false_iff_ne]; omega
      clear hsm hX hI hk0 hk1
      go_enter Yba.func4, Yba.ntmps4
      go_upto_region 4 with (first | (go_at_call 5; refine hsm2.mono ?_; rintro e w' ⟨rfl, rfl⟩) | (go_at_call 6; refine hbd.mono ?_; rintro e w1 ⟨P, G, KV, K, ev, E, rfl, hout⟩))
      obtain ⟨qe, ce, hev⟩ := hout.exp.form
      have Hev := hide hev
      obtain ⟨kq, kc, hkv⟩ : ∃ kq kc, KV fs = .slice kq (K fs).length kc := by
        rcases hout.br.keys fs hfn with ⟨e1, e2⟩ | ⟨c, e1, _⟩
        · exact ⟨none, 0, by rw [e1, e2]; rfl⟩
        · exact ⟨_, _, e1⟩
      obtain ⟨kn, Hkn⟩ : ∃ kn, Hid (kn = (K fs).length) := ⟨_, hide rfl⟩
      have hkn : kn ≤ 256 := by
        rw [Hkn.out, (hout.br.perm fs hfn).length_eq]; exact HX.out fs hfn
      rw [← Hkn.out] at hkv
      have hr := hout.br.run fs hfn
      obtain ⟨cr, hcr, hcrn, hcp⟩ := hout.br.runs
      have c0 : w1.cell? ⟨w'.heap.size, fs, none⟩ = some (.pointer (some ⟨P fs, 0, none⟩)) := (cell_of hcr fs).trans (hcp fs hfn)
      have c1 : w1.cell? ⟨P fs, 0, none⟩ = some (.slice kq kn kc) := by rw [← hkv]; exact cell_of hr 0
      have c4 : w1.cell? ⟨P fs, 4, none⟩ = some (.int .i64 (-1)) := cell_of hr 4
      have c5 : w1.cell? ⟨P fs, 5, none⟩ = some .nilIface := cell_of hr 5
      have f4 := frozen_of hr 4
      have f5 := frozen_of hr 5
      obtain ⟨⟨b1, b2, b3, b4⟩, _⟩ := hout.br.new fs hfn
      have hrl := lt_of hcr
      have hPr : P fs ≠ w'.heap.size := b2
      have hrP : w'.heap.size ≠ P fs := Ne.symm b2
      have Hkv := hide hkv
      have Hout := hide hout
      have hk2 : 0 ≤ fl % ((kn : Int) + 2) := Int.emod_nonneg _ (by omega)
      have hk3 := Int.emod_lt_of_pos fl (show (0 : Int) < (kn : Int) + 2 by omega)
      obtain ⟨f, hf⟩ : ∃ f : Nat, fl % ((kn : Int) + 2) = (f : Int) := ⟨(fl % ((kn : Int) + 2)).toNat, by omega⟩
      have hfk : f ≤ kn + 1 := by omega
      clear hbd hout hev hkv hr hcr hcrn hcp b1 b2 b3 hk2 hk3 hsm2
      obtain ⟨pf, Hpf⟩ : ∃ pf, Hid (pf = P fs) := ⟨_, hide rfl⟩
      rw [← Hpf.out] at c0 c1 c4 c5 f4 f5 hPr hrP b4
      go_upto_region 12 with (go_at_call 10; refine (errNew_walk _ _).mono ?_; rintro e w2 ⟨rfl, rfl⟩)
      have hst1 : Step (fun k => ∃ j, j < n ∧ k = P j) w1 ((w1.setCell ⟨pf, 4, none⟩ (.int .i64 f)).setCell ⟨pf, 5, none⟩ (.iface 56 (.pointer (some ⟨w1.heap.size, 0, none⟩)))) :=
        ((Step.refl _ w1).setCell (p := ⟨pf, 4, none⟩) (Or.inl ⟨fs, hfn, Hpf.out⟩) _).setCell (p := ⟨pf, 5, none⟩) (Or.inl ⟨fs, hfn, Hpf.out⟩) _
      have hrun1 : ∀ j, j < n → RunIs ((w1.setCell ⟨pf, 4, none⟩ (.int .i64 f)).setCell ⟨pf, 5, none⟩ (.iface 56 (.pointer (some ⟨w1.heap.size, 0, none⟩)))) (P j) (KV j) j (-1) 0 (if j = fs then (f : Int) else -1) (if j = fs then .iface 56 (.pointer (some ⟨w1.heap.size, 0, none⟩)) else .nilIface) (.slice none 0 0) (.slice none 0 0) := fun j hj => by
        have hr := Hout.out.br.run j hj
        by_cases e : j = fs
        · subst e
          rw [if_pos rfl, if_pos rfl, Hpf.out]
          exact heap_setCell_same (heap_setCell_same hr 4 _) 5 _
        · rw [if_neg e, if_neg e]
          have hne : P j ≠ pf := by rw [Hpf.out]; exact Hout.out.br.apart j fs hj hfn e
          unfold RunIs
          rw [Below.heap_setCell _ _ _ _ hne, Below.heap_setCell _ _ _ _ hne]
          exact hr
      obtain ⟨⟨q0, q1, q2⟩, hst2⟩ := three ((w1.setCell ⟨pf, 4, none⟩ (.int .i64 f)).setCell ⟨pf, 5, none⟩ (.iface 56 (.pointer (some ⟨w1.heap.size, 0, none⟩)))) (.cells #[.string ⟨#[122, 122, 32, 102, 97, 105, 108]⟩] 58) (.cells #[.slice none 0 0] 26) (.cells #[.bool false] 4)
      have hsz1 : ((w1.setCell ⟨pf, 4, none⟩ (.int .i64 f)).setCell ⟨pf, 5, none⟩ (.iface 56 (.pointer (some ⟨w1.heap.size, 0, none⟩)))).heap.size = w1.heap.size := by simp
      rw [hsz1] at q1 q2
      clear q0
      generalize ((w1.setCell ⟨pf, 4, none⟩ (.int .i64 f)).setCell ⟨pf, 5, none⟩ (.iface 56 (.pointer (some ⟨w1.heap.size, 0, none⟩)))) = wm at hst1 hrun1 q1 q2 hst2 hsz1 ⊢
      generalize (((wm.alloc (.cells #[.string ⟨#[122, 122, 32, 102, 97, 105, 108]⟩] 58)).alloc (.cells #[.slice none 0 0] 26)).alloc (.cells #[.bool false] 4)) = W0 at q1 q2 hst2 ⊢
      have hP : ∀ j, j < n → P j < w1.heap.size := fun j hj => (Hout.out.br.new j hj).1.2.2.2
      have hst : Step (fun k => ∃ j, j < n ∧ k = P j) w1 W0 := hst1.trans hst2 fun k _ h => h.elim
      have hmin : MIn W0 n (w'.heap.size + 1) P G KV K (fun j => if j = fs then (f : Int) else -1) (fun j => if j = fs then .iface 56 (.pointer (some ⟨w1.heap.size, 0, none⟩)) else .nilIface) E (w1.heap.size + 1) (w1.heap.size + 1 + 1) (.cells #[.bool false] 4 (0, 0)) :=
        Hout.out.min hn2 HX.out HI.out.byte hst (fun k hk _ => hk) (fun j hj => by unfold RunIs; rw [hst2.block _ (by rw [hsz1]; exact hP j hj) (fun h => h)]; exact hrun1 j hj) (fun j hj h => by
          by_cases e : j = fs
          · exact ⟨_, _, if_pos e⟩
          · rw [if_neg e] at h; omega) ⟨by omega, by omega, by omega⟩ q1 q2
      have hmg : Calls Yba.prog 7 #[.slice (some ⟨w'.heap.size + 1, 0, none⟩) n n, .func (.func 11) #[] #[.pointer (some ⟨w1.heap.size + 1 + 1, 0, none⟩), .pointer (some ⟨w1.heap.size + 1, 0, none⟩)]] W0 _ :=
        (merge_walk 11 _ hmin hn2 eg11 (cb11 _ _ _ _ _)).mono fun e w h => fail_res hfn h
      rw [← Hkn.out] at hmg
      have hEl := hmin.small
      have Hst := hide hst
      have HP := hide hP
      have Hq := hide q2
      clear hmin hst hst1 hst2 hP q1 q2 hrun1 hsz1 c0 c1 c4 c5 f4 f5
      have after : ∀ (w2 : World) (l : List Rec) (lv : Value), LogAt w2 (W0.heap.size + 1) (w1.heap.size + 1) lv l → Step (fun k => k = w1.heap.size + 1 ∨ ∃ j, j < n ∧ k = P j) W0 w2 → (∃ E', E = l ++ E') →
          w2.cell? ⟨w1.heap.size + 1 + 1, 0, none⟩ = some (.bool false) ∧ w2.cell? ⟨w1.heap.size + 1, 0, none⟩ = some lv ∧ ExpAt w2 ev E ∧ Below w'.heap.size w' w2 ∧ Calls Yba.prog 9 #[lv, ev, .int .i64 l.length] w2 fun e w' => e = .returned (.bool true) ∧ ∃ q, w' = w2.drewN q := fun w2 l lv h1 h2 h3 => by
        obtain ⟨a1, a2⟩ := Hout.out.after Hst.out h2 (by omega)
        refine ⟨?_, cell_of h1.1 0, a1, a2, prefix_any w2 lv ev l E (exp_of_row h1.2) a1 h3 (by omega)⟩
        rw [World.cell?_of_block (w := W0) (h2.block _ (lt_of Hq.out) ?_)]
        · exact cell_of Hq.out 0
        · rintro (e | ⟨j, hj, e⟩)
          · have e2 : w1.heap.size + 1 + 1 = w1.heap.size + 1 := e
            omega
          · have := HP.out j hj
            have e2 : w1.heap.size + 1 + 1 = P j := e
            omega
      have Hafter := hide after
      have HEl := hide hEl
      clear after hEl
      by_cases hfl : kn < f
      · have hmg2 : Calls Yba.prog 7 #[.slice (some ⟨w'.heap.size + 1, 0, none⟩) n n, .func (.func 11) #[] #[.pointer (some ⟨w1.heap.size + 1 + 1, 0, none⟩), .pointer (some ⟨w1.heap.size + 1, 0, none⟩)]] W0 fun e w2 => e = .returned .nilIface ∧ ∃ lv, w2.cell? ⟨w1.heap.size + 1 + 1, 0, none⟩ = some (.bool false) ∧ w2.cell? ⟨w1.heap.size + 1, 0, none⟩ = some lv ∧ Below w'.heap.size w' w2 ∧ Calls Yba.prog 9 #[lv, ev, .int .i64 E.length] w2 fun e w' => e = .returned (.bool true) ∧ ∃ q, w' = w2.drewN q := hmg.mono fun e w2 ⟨l, lv, h1, h2, h3, h4⟩ => by
          obtain ⟨a1, a2, _, a4, a5⟩ := Hafter.out w2 l lv h1 h2 h3
          rcases h4 with ⟨_, b2, b3⟩ | ⟨b1, _⟩
          · rw [b3] at a5
            exact ⟨b2, lv, a1, a2, a4, a5⟩
          · omega
        clear hmg
        have hlen := Hev.out
        subst hlen
        go_wp2_with (first | (go_at_call 7; refine hmg2.mono ?_; rintro e w2 ⟨rfl, lv, d1, d2, d3, d4⟩) | (go_at_call 9; refine d4.mono ?_; rintro e w3 ⟨rfl, q, rfl⟩))
        go_ret
        exact ⟨rfl, below_drewN d3 _⟩
      · rcases Nat.eq_zero_or_pos f with hf0' | hfp
        · subst hf0'
          have hmg2 : Calls Yba.prog 7 #[.slice (some ⟨w'.heap.size + 1, 0, none⟩) n n, .func (.func 11) #[] #[.pointer (some ⟨w1.heap.size + 1 + 1, 0, none⟩), .pointer (some ⟨w1.heap.size + 1, 0, none⟩)]] W0 fun e w2 => e = .returned (.iface 56 (.pointer (some ⟨w1.heap.size, 0, none⟩))) ∧ ∃ lv, w2.cell? ⟨w1.heap.size + 1 + 1, 0, none⟩ = some (.bool false) ∧ w2.cell? ⟨w1.heap.size + 1, 0, none⟩ = some lv ∧ Below w'.heap.size w' w2 ∧ Calls Yba.prog 9 #[lv, ev, .int .i64 0] w2 fun e w' => e = .returned (.bool true) ∧ ∃ q, w' = w2.drewN q := hmg.mono fun e w2 ⟨l, lv, h1, h2, h3, h4⟩ => by
            obtain ⟨a1, a2, _, a4, a5⟩ := Hafter.out w2 l lv h1 h2 h3
            rcases h4 with ⟨b1, _⟩ | ⟨_, b2, b3⟩
            · omega
            · rcases b3 with ⟨_, b4⟩ | ⟨t, b4, _⟩
              · rw [b4] at a5
                exact ⟨b2, lv, a1, a2, a4, a5⟩
              · omega
          clear hmg
          have hnq := neq_same
          go_wp2_with (first | (go_at_call 7; refine hmg2.mono ?_; rintro e w2 ⟨rfl, lv, d1, d2, d3, d4⟩) | (go_at_call 9; refine d4.mono ?_; rintro e w3 ⟨rfl, q, rfl⟩))
          go_ret
          exact ⟨rfl, below_drewN d3 _⟩
        · obtain ⟨t, ht⟩ : ∃ t, f = t + 1 := ⟨f - 1, by omega⟩
          subst ht
          have hmg2 : Calls Yba.prog 7 #[.slice (some ⟨w'.heap.size + 1, 0, none⟩) n n, .func (.func 11) #[] #[.pointer (some ⟨w1.heap.size + 1 + 1, 0, none⟩), .pointer (some ⟨w1.heap.size + 1, 0, none⟩)]] W0 fun e w2 => e = .returned (.iface 56 (.pointer (some ⟨w1.heap.size, 0, none⟩))) ∧ ∃ lv m, m < E.length ∧ (Hid (∀ i, i < E.length → ((E.getD i (0, 0, 0)).2.1 = (fs : Int) ∧ (E.getD i (0, 0, 0)).2.2 = (t : Int)) → i = m) ∧ Hid ((E.getD m (0, 0, 0)).2.1 = (fs : Int) ∧ (E.getD m (0, 0, 0)).2.2 = (t : Int))) ∧ w2.cell? ⟨w1.heap.size + 1 + 1, 0, none⟩ = some (.bool false) ∧ w2.cell? ⟨w1.heap.size + 1, 0, none⟩ = some lv ∧ Hid (ExpAt w2 ev E) ∧ Below w'.heap.size w' w2 ∧ Calls Yba.prog 9 #[lv, ev, .int .i64 ((m : Int) + 1)] w2 fun e w' => e = .returned (.bool true) ∧ ∃ q, w' = w2.drewN q := hmg.mono fun e w2 ⟨l, lv, h1, h2, h3, h4⟩ => by
            obtain ⟨a1, a2, a3, a4, a5⟩ := Hafter.out w2 l lv h1 h2 h3
            rcases h4 with ⟨b1, _⟩ | ⟨_, b2, b3⟩
            · omega
            · rcases b3 with ⟨b3, _⟩ | ⟨t', b4, b5, b6⟩
              · omega
              · have ht' : t' = t := by omega
                subst ht'
                obtain ⟨m, hm⟩ : ∃ m, l.length = m + 1 := ⟨l.length - 1, by omega⟩
                rw [hm, Nat.add_sub_cancel] at b6
                rw [hm, show (((m + 1 : Nat) : Int)) = (m : Int) + 1 by omega] at a5
                obtain ⟨hmE, hE⟩ := List.getElem?_eq_some_iff.1 b6
                have hg : ∀ i (h : i < E.length), E.getD i (0, 0, 0) = E[i] := fun i h => by simp [h]
                refine ⟨b2, lv, m, hmE, ⟨hide fun i hi h => ?_, hide ?_⟩, a1, a2, a3, a4, a5⟩
                · rw [hg i hi] at h
                  refine one_place Hout.out.perm i m hi hmE ?_
                  rw [hE]
                  exact Prod.ext h.1 h.2
                · rw [hg m hmE, hE]
                  exact ⟨rfl, rfl⟩
          clear hmg
          have hnq := neq_same
          have ht8 : t < 256 := by omega
          have hfs8 : fs < 256 := by omega
          obtain ⟨M, HM⟩ : ∃ M, Hid (M = E.length) := ⟨_, hide rfl⟩
          have hev2 := Hev.out
          rw [← HM.out] at hev2
          go_upto_region 13 with (go_at_call 7; refine hmg2.mono ?_; rintro e w2 ⟨rfl, lv, m, hm, hpos2, d1, d2, dx, d3, d4⟩)
          rw [← HM.out] at hm
          have hM : M < 100000 := by rw [HM.out]; exact HEl.out
          obtain ⟨bq, oq, hqe, hcells⟩ : ∃ bq oq, qe = some ⟨bq, oq, none⟩ ∧ Hid (∀ i, i < M → w2.cell? ⟨bq, oq + i * 3 + 1, none⟩ = some (.int .u8 (E.getD i (0, 0, 0)).2.1) ∧ w2.cell? ⟨bq, oq + i * 3 + 2, none⟩ = some (.int .u8 (E.getD i (0, 0, 0)).2.2)) := by
            rcases dx.out with ⟨_, e⟩ | ⟨g, c, e, _, hr⟩
            · rw [e] at HM; have := HM.out; simp at this; omega
            · rw [hev2] at e
              injection e with e1 e2 e3
              refine ⟨g, 0, e1, hide fun i hi => ?_⟩
              obtain ⟨b, o, e4, _, r1, r2⟩ := hr i (by rw [← HM.out]; exact hi)
              cases e4
              exact ⟨r1, r2⟩
          subst hqe
          subst hev2
          clear hmg2
          obtain ⟨hu1, hu2⟩ := hpos2
          go_wp2_with fail
          go_loopg [17, 89] (m + 1) (fun g v17 v89 wr => ∃ i : Nat, v17 = .int .i64 (-1) ∧ v89 = .int .i64 i ∧ i ≤ m ∧ m + 1 - i ≤ g ∧ wr = w2)
          case atStart => exact ⟨0, rfl, rfl, Nat.zero_le _, Nat.le_refl _, rfl⟩
          case round =>
            obtain ⟨i, rfl, rfl, him, hg, rfl⟩ := hrel
            have hiM : i < M := by omega
            obtain ⟨r1, r2⟩ := hcells.out i hiM
            by_cases hlt : i < m
            · obtain ⟨x1, Hx1⟩ : ∃ x, Hid (x = (E.getD i (0, 0, 0)).2.1) := ⟨_, hide rfl⟩
              obtain ⟨x2, Hx2⟩ : ∃ x, Hid (x = (E.getD i (0, 0, 0)).2.2) := ⟨_, hide rfl⟩
              rw [← Hx1.out] at r1
              rw [← Hx2.out] at r2
              by_cases h1 : x1 = (fs : Int)
              · have h2 : ((x2 == (t : Int)) = false) := by
                  rw [beq_eq_false_iff_ne]
                  intro e
                  have := hu1.out i (by rw [← HM.out]; exact hiM) ⟨by rw [← Hx1.out]; exact h1, by rw [← Hx2.out]; exact e⟩
                  omega
                subst h1
                go_wp2_with fail
                go_roundg (m + 1 - (i + 1))
                case measure => omega
                case rel => exact ⟨i + 1, rfl, by go_num, by omega, Nat.le_refl _, rfl⟩
              · have h2 : ((x1 == (fs : Int)) = false) := by rw [beq_eq_false_iff_ne]; exact h1
                go_wp2_with fail
                go_roundg (m + 1 - (i + 1))
                case measure => omega
                case rel => exact ⟨i + 1, rfl, by go_num, by omega, Nat.le_refl _, rfl⟩
            · have hie : i = m := by omega
              subst hie
              rw [hu2.out.1] at r1
              rw [hu2.out.2] at r2
              go_wp2_with (go_at_call 9; refine d4.mono ?_; rintro e w3 ⟨rfl, q, rfl⟩)
              go_ret
              exact ⟨rfl, below_drewN d3 _⟩
  · have hsm2 : Calls Yba.prog 5 #[.slice q n cap] W fun e w' => e = .returned (.bool false) ∧ w' = W := hsm.mono fun e w' ⟨⟨r, h1, h2⟩, h3⟩ => ⟨by
      rw [h1]
      cases r
      · rfl
      · exact absurd (h2.out.1 rfl) hsmall, h3⟩
    clear hsm hsmall hI
    go_enter Yba.func4, Yba.ntmps4
    go_wp2_with (go_at_call 5; refine hsm2.mono ?_; rintro e w' ⟨rfl, rfl⟩)
    go_ret
    exact ⟨rfl, Below.refl _ _⟩
end Go.Proofs.Ybulkbkdi
