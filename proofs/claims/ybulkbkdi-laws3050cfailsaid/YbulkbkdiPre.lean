/-
  Seat b3050a: what the two laws share: from the build to mergeSources; the comparison; the callbacks.
-/
import Derived.Test.YbulkbkdiBuild
import Derived.Test.YbulkbkdiMg
import Derived.Test.YbulkbkdiLog2
import Derived.Test.YbulkbkdiSmall
namespace Go.Proofs.Ybulkbkdi
open Go.RowKit Go.Sort

theorem ExpAt.form {W : World} {ev : Value} {E : List Rec} (h : ExpAt W ev E) : ∃ q c, ev = .slice q E.length c := by
  rcases h with ⟨rfl, rfl⟩ | ⟨g, cap, rfl, _⟩
  · exact ⟨none, 0, rfl⟩
  · exact ⟨_, _, rfl⟩

/-- What is expected begins with the log. -/
theorem prefix_any (W : World) (lv ev : Value) (l E : List Rec) (hl : ExpAt W lv l) (hE : ExpAt W ev E) (hp : ∃ E', E = l ++ E') (hs : E.length < 1000000) :
    Calls Yba.prog 9 #[lv, ev, .int .i64 l.length] W fun e w' => e = .returned (.bool true) ∧ ∃ q, w' = W.drewN q := by
  obtain ⟨E', hp⟩ := hp
  obtain ⟨q1, c1, e1⟩ := hl.form
  obtain ⟨q2, c2, e2⟩ := hE.form
  by_cases h0 : l.length = 0
  · subst e1; subst e2
    rw [h0]
    exact prefix_zero W q1 q2 c1 E.length c2 hs
  · rcases hl with ⟨_, rfl⟩ | ⟨g, cap, rfl, _, hX⟩
    · simp at h0
    · rcases hE with ⟨_, rfl⟩ | ⟨g2, cap2, rfl, _, hY⟩
      · rw [List.nil_eq_append_iff] at hp; rw [hp.1] at h0; simp at h0
      · refine prefix_walk W g 0 l.length cap g2 0 E.length cap2 _ _ l.length hX hY hs (by rw [hp, List.length_append]; omega) rfl fun i hi => ?_
        rw [hp]
        simp [List.getD_eq_getElem?_getD, List.getElem?_append_left hi]

theorem Out.min {W w1 W0 : World} {n : Nat} {X : Nat → List Int} {P G : Nat → Nat} {KV : Nat → Value} {K : Nat → List Int} {ev : Value} {E : List Rec} {fa : Nat → Int} {er : Nat → Value} {lb mb : Nat} {mo : Obj} {F : Nat → Prop} (h : Out W n X P G KV K ev E w1) (hn : n ≤ 256) (hlen : ∀ j, j < n → (X j).length ≤ 256) (hbyte : ∀ j, j < n → ∀ x ∈ X j, 0 ≤ x ∧ x < 256)
    (st : Step F w1 W0) (hF : ∀ k, F k → k < w1.heap.size → ∃ j, j < n ∧ k = P j) (hrun : ∀ j, j < n → RunIs W0 (P j) (KV j) j (-1) 0 (fa j) (er j) (.slice none 0 0) (.slice none 0 0)) (hfail : ∀ j, j < n → 0 ≤ fa j → ∃ t v, er j = .iface t v)
    (h1 : w1.heap.size ≤ lb ∧ w1.heap.size ≤ mb ∧ lb ≠ mb) (hl : W0.heap[lb]? = some (.cells #[.slice none 0 0] 26 (0, 0))) (hm : W0.heap[mb]? = some mo) : MIn W0 n (W.heap.size + 1) P G KV K fa er E lb mb mo := by
  obtain ⟨cr, hcr, hcrn, hcrp⟩ := h.br.runs
  obtain ⟨cs, hcs, hcsn, hcsp⟩ := h.br.srcs
  have lr := lt_of hcr
  have ls := lt_of hcs
  have ll := lt_of hl
  have lm := lt_of hm
  have hsz := st.size
  have hG : ∀ j, j < n → G j < w1.heap.size := fun j hj => by
    rcases (h.br.new j hj).2 with ⟨_, e⟩ | ⟨_, _, _, e⟩
    · rw [e]; exact lr
    · exact e
  have hP : ∀ j, j < n → P j < w1.heap.size := fun j hj => (h.br.new j hj).1.2.2.2
  have hsP : ∀ j, j < n → W.heap.size + 1 ≠ P j := fun j hj e => (h.br.new j hj).1.2.2.1 e.symm
  have hKl : ∀ j, j < n → (K j).length ≤ 256 := fun j hj => by rw [(h.br.perm j hj).length_eq]; exact hlen j hj
  have hEl : E.length < 100000 := by
    have := want_len K n hKl
    rw [h.perm.length_eq]
    omega
  refine ⟨⟨⟨fun j hj => by have := hP j hj; omega, fun j hj => by have := hG j hj; omega, h.br.apart, h.br.cross⟩, by omega, ll, lm, by omega, h1.2.2, fun j hj => ?_⟩, fun j hj => ?_, ⟨fun j hj => ?_, fun j hj => ?_, fun j hj c hc => absurd hc (Nat.not_lt_zero c), Nat.le_refl _⟩, hl, hm, hKl, fun j hj x hx => hbyte j hj x ((h.br.perm j hj).mem_iff.1 hx), h.br.up, h.asc, h.perm, hEl, hfail⟩
  · have a := hP j hj
    have b := hG j hj
    exact ⟨by omega, by omega, hsP j hj, by omega⟩
  · have hb : W0.heap[W.heap.size + 1]? = w1.heap[W.heap.size + 1]? := st.block _ ls fun f => by
      obtain ⟨i, hi, e⟩ := hF _ f ls
      exact hsP i hi e
    rw [World.cell?_of_block (w := w1) hb, cell_of hcs j]
    exact hcsp j hj
  · exact ⟨_, _, hrun j hj, fun t _ e => absurd e (by omega)⟩
  · refine (h.br.keys j hj).keep hsz (st.block _ (hG j hj) fun f => ?_)
    obtain ⟨i, hi, e⟩ := hF _ f (hG j hj)
    exact h.br.cross i j hi hj e.symm

theorem cb8 (B bb lb mb lim : Nat) (hne : mb ≠ lb) : CB 8 #[.pointer (some ⟨bb, 0, none⟩), .pointer (some ⟨lb, 0, none⟩), .pointer (some ⟨mb, 0, none⟩)] B lb mb (.cells #[.int .i64 lim] 3 (0, 0)) (fun m => !(decide (0 < lim) && decide (lim ≤ m))) :=
  fun W lv l r kb vb hL hB hlen hlb hml hm hkl hvl hk hv => merge1_walk W B bb lb mb kb vb lim lv l r hL hB hlen hlb hml hne hm hkl hvl hk hv

theorem cb11 (B bb lb mb : Nat) (mo : Obj) : CB 11 #[.pointer (some ⟨bb, 0, none⟩), .pointer (some ⟨lb, 0, none⟩)] B lb mb mo (fun _ => true) :=
  fun W lv l r kb vb hL hB hlen hlb _ _ hkl hvl hk hv => fail1_walk W B bb lb kb vb lv l r hL hB hlen hlb hkl hvl hk hv

theorem eg8 : ∀ args w, (callFunc 8 args).run Yba.prog w = .ok (.enter 8 args) w := enters_of Yba.func8 (by kernel_rfl) rfl
theorem eg11 : ∀ args w, (callFunc 11 args).run Yba.prog w = .ok (.enter 11 args) w := enters_of Yba.func11 (by kernel_rfl) rfl
end Go.Proofs.Ybulkbkdi
