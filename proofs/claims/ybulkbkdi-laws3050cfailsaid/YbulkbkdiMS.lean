/-
  Seat b3050a: the sources while they are merged.
-/
import Derived.Test.YbulkbkdiBI
namespace Go.Proofs.Ybulkbkdi
open Go.RowKit Go.Sort

/-- Source j behind c calls of next that did not fail: its record's key and value lie in blocks of their own, behind N1 and off ob. -/
def SrcAt (W : World) (N1 : Nat) (ob : Option Nat) (p : Nat) (kv : Value) (ks : List Int) (j : Nat) (fa : Int) (er : Value) (c : Nat) : Prop :=
  ∃ key val, RunIs W p kv j ((c : Int) - 1) c fa er key val ∧ (∀ t (h : t < ks.length), c = t + 1 → ∃ kb vb, (N1 ≤ kb ∧ ob ≠ some kb) ∧ (N1 ≤ vb ∧ ob ≠ some vb) ∧ key = .slice (some ⟨kb, 0, none⟩) 1 1 ∧ val = .slice (some ⟨vb, 0, none⟩) 2 2 ∧ W.heap[kb]? = some (.cells #[.int .u8 ks[t]] 5 (0, 0)) ∧ W.heap[vb]? = some (.cells #[.int .u8 j, .int .u8 t] 5 (0, 0)))

/-- Where the sources lie: below N0, apart. -/
structure Lay (N0 n : Nat) (P G : Nat → Nat) : Prop where
  p : ∀ j, j < n → P j < N0
  g : ∀ j, j < n → G j < N0
  apart : ∀ j k, j < n → k < n → j ≠ k → P j ≠ P k
  cross : ∀ j k, j < n → k < n → P j ≠ G k

/-- The sources, source j behind cnt j calls of next. -/
structure MS (N0 n : Nat) (P G : Nat → Nat) (KV : Nat → Value) (K : Nat → List Int) (fa : Nat → Int) (er : Nat → Value) (ob : Option Nat) (cnt : Nat → Nat) (W : World) : Prop where
  src : ∀ j, j < n → SrcAt W (N0 + 1) ob (P j) (KV j) (K j) j (fa j) (er j) (cnt j)
  keys : ∀ j, j < n → KeysAt W (G j) (KV j) (K j)
  pass : ∀ j, j < n → ∀ c, c < cnt j → (c : Int) ≠ fa j
  size : N0 ≤ W.heap.size

theorem upd_ne {α : Type} (f : Nat → α) {i j : Nat} (x : α) (h : j ≠ i) : upd f i x j = f j := by simp [upd, h]

theorem ownsRow_step {F : Nat → Prop} {w w' : World} {B e s n : Nat} {v : Value} {xs : List Value} (h : w.ownsRow B e s v n xs) (st : Step F w w') (hF : ∀ k, v.ownBlock = some k → ¬ F k) : w'.ownsRow B e s v n xs := by
  refine ⟨h.1, ?_⟩
  rcases h.2 with h2 | ⟨g, cap, cur, rfl, hb, hg, hr⟩
  · exact Or.inl h2
  · exact Or.inr ⟨g, cap, cur, rfl, hb, by rw [st.block g (lt_of hg) (hF g rfl)]; exact hg, hr⟩

variable {N0 n : Nat} {P G : Nat → Nat} {KV : Nat → Value} {K : Nat → List Int} {fa : Nat → Int} {er : Nat → Value} {ob ob' : Option Nat} {cnt : Nat → Nat} {W W' : World}

theorem SrcAt.keep {N1 p : Nat} {kv : Value} {ks : List Int} {j : Nat} {f : Int} {e : Value} {c : Nat} (h : SrcAt W N1 ob p kv ks j f e c) (hp : W'.heap[p]? = W.heap[p]?) (hb : ∀ k, N1 ≤ k → k < W.heap.size → ob ≠ some k → W'.heap[k]? = W.heap[k]?) (ho : ∀ k, ob' = some k → ob = some k ∨ W.heap.size ≤ k) : SrcAt W' N1 ob' p kv ks j f e c := by
  obtain ⟨key, val, h1, h2⟩ := h
  refine ⟨key, val, by unfold RunIs; rw [hp]; exact h1, fun t ht hc => ?_⟩
  obtain ⟨kb, vb, ⟨a1, a2⟩, ⟨b1, b2⟩, e1, e2, e3, e4⟩ := h2 t ht hc
  have l1 := lt_of e3
  have l2 := lt_of e4
  have o1 : ob' ≠ some kb := fun e => (ho kb e).elim a2 fun x => by omega
  have o2 : ob' ≠ some vb := fun e => (ho vb e).elim b2 fun x => by omega
  exact ⟨kb, vb, ⟨a1, o1⟩, ⟨b1, o2⟩, e1, e2, by rw [hb kb a1 l1 a2]; exact e3, by rw [hb vb b1 l2 b2]; exact e4⟩

/-- A step that touches no source. -/
theorem MS.keep {F : Nat → Prop} (h : MS N0 n P G KV K fa er ob cnt W) (L : Lay N0 n P G) (st : Step F W W') (hF : ∀ k, F k → k < W.heap.size → (k ≤ N0 ∧ ∀ j, j < n → k ≠ P j ∧ k ≠ G j) ∨ (N0 < k ∧ ob = some k)) (ho : ∀ k, ob' = some k → ob = some k ∨ W.heap.size ≤ k) : MS N0 n P G KV K fa er ob' cnt W' := by
  have hs := h.size
  refine ⟨fun j hj => ?_, fun j hj => ?_, h.pass, Nat.le_trans hs st.size⟩
  · have hp := L.p j hj
    refine (h.src j hj).keep (st.block _ (by omega) fun f => ?_) (fun k h1 h2 h3 => st.block k h2 fun f => ?_) ho
    · rcases hF _ f (by omega) with ⟨_, e⟩ | ⟨e, _⟩
      · exact (e j hj).1 rfl
      · omega
    · rcases hF _ f h2 with ⟨e, _⟩ | ⟨_, e⟩
      · omega
      · exact h3 e
  · have hg := L.g j hj
    refine (h.keys j hj).keep st.size (st.block _ (by omega) fun f => ?_)
    rcases hF _ f (by omega) with ⟨_, e⟩ | ⟨e, _⟩
    · exact (e j hj).2 rfl
    · omega

/-- Source j has moved. -/
theorem MS.moved (h : MS N0 n P G KV K fa er ob cnt W) (L : Lay N0 n P G) {j : Nat} (hj : j < n) (st : Step (· = P j) W W') (hne : (cnt j : Int) ≠ fa j) (hs : SrcAt W' (N0 + 1) ob (P j) (KV j) (K j) j (fa j) (er j) (cnt j + 1)) : MS N0 n P G KV K fa er ob (upd cnt j (cnt j + 1)) W' := by
  have hsz := h.size
  refine ⟨fun i hi => ?_, fun i hi => ?_, fun i hi c hc => ?_, Nat.le_trans hsz st.size⟩
  · by_cases e : i = j
    · subst e; rw [upd_same]; exact hs
    · rw [upd_ne _ _ e]
      have hp := L.p i hi
      have hpj := L.p j hj
      exact (h.src i hi).keep (st.block _ (by omega) (L.apart i j hi hj e)) (fun k h1 h2 h3 => st.block k h2 (by omega)) (fun k hk => Or.inl hk)
  · have hg := L.g i hi
    exact (h.keys i hi).keep st.size (st.block _ (by omega) fun e => L.cross j i hj hi e.symm)
  · by_cases e : i = j
    · subst e
      rw [upd_same] at hc
      by_cases e2 : c = cnt i
      · subst e2; exact hne
      · exact h.pass i hi c (by omega)
    · rw [upd_ne _ _ e] at hc; exact h.pass i hi c hc

theorem ms_fail (h : MS N0 n P G KV K fa er ob cnt W) {j : Nat} (hj : j < n) (hc : cnt j ≤ 256) (hf : (cnt j : Int) = fa j) (ert : TypeId) (erv : Value) (he : er j = .iface ert erv) :
    Calls Yba.prog 61 #[.pointer (some ⟨P j, 0, none⟩)] W fun e w' => e = .returned (.tuple #[.bool false, .iface ert erv]) ∧ Step (· = P j) W w' := by
  obtain ⟨key, val, h1, _⟩ := h.src j hj
  refine (next_fail W (P j) (KV j) j _ (cnt j) (fa j) (er j) key val ert erv he hf (by omega) (by omega) h1).mono ?_
  rintro e w' ⟨h2, h3, _⟩
  exact ⟨by rw [h2, he], h3⟩

theorem ms_end (h : MS N0 n P G KV K fa er ob cnt W) (L : Lay N0 n P G) {j : Nat} (hj : j < n) (hc : cnt j = (K j).length) (hk : (K j).length ≤ 256) (hf : (cnt j : Int) ≠ fa j) :
    Calls Yba.prog 61 #[.pointer (some ⟨P j, 0, none⟩)] W fun e w' => e = .returned (.tuple #[.bool false, .nilIface]) ∧ Step (· = P j) W w' ∧ MS N0 n P G KV K fa er ob (upd cnt j (cnt j + 1)) w' := by
  obtain ⟨key, val, h1, _⟩ := h.src j hj
  obtain ⟨kq, kc, hkv⟩ : ∃ kq kc, KV j = .slice kq (K j).length kc := by
    rcases h.keys j hj with ⟨e1, e2⟩ | ⟨cap, e1, _⟩
    · rw [e1, e2]; exact ⟨none, 0, rfl⟩
    · exact ⟨_, _, e1⟩
  have h1' := h1
  rw [hkv] at h1'
  refine (next_end W (P j) kq (K j).length kc j _ (cnt j) (fa j) (er j) key val hf (by omega) (by omega) (by omega) (by omega) (by omega) h1').mono ?_
  rintro e w' ⟨h2, h3, h4⟩
  refine ⟨h2, h3, h.moved L hj h3 hf ⟨key, val, ?_, fun t ht hc2 => by omega⟩⟩
  rw [← hkv] at h4
  have e1 : ((cnt j + 1 : Nat) : Int) - 1 = (cnt j : Int) - 1 + 1 := by omega
  have e2 : ((cnt j + 1 : Nat) : Int) = (cnt j : Int) + 1 := by omega
  rw [e1, e2]; exact h4

theorem ms_rec (h : MS N0 n P G KV K fa er ob cnt W) (L : Lay N0 n P G) (hN : N0 < W.heap.size) (hob : ∀ k, ob = some k → k < W.heap.size) {j : Nat} (hj : j < n) (hc : cnt j < (K j).length) (hk : (K j).length ≤ 256) (hf : (cnt j : Int) ≠ fa j) :
    Calls Yba.prog 61 #[.pointer (some ⟨P j, 0, none⟩)] W fun e w' => e = .returned (.tuple #[.bool true, .nilIface]) ∧ Step (· = P j) W w' ∧ MS N0 n P G KV K fa er ob (upd cnt j (cnt j + 1)) w' := by
  obtain ⟨key, val, h1, _⟩ := h.src j hj
  rcases h.keys j hj with ⟨_, e2⟩ | ⟨cap, hkv, hgl, hcell⟩
  · rw [e2] at hc; simp at hc
  · have h1' := h1
    rw [hkv] at h1'
    refine (next_rec W (P j) (G j) (K j).length cap j _ (cnt j) (fa j) (er j) key val (K j)[cnt j] (cnt j) hf (by omega) (by omega) (by omega) hc (by omega) (hcell _ hc) (fun e => L.cross j j hj hj e.symm) h1').mono ?_
    rintro e w' ⟨h2, h3, kb, vb, a1, a2, a3, a4, a5⟩
    refine ⟨h2, h3, h.moved L hj h3 hf ⟨.slice (some ⟨kb, 0, none⟩) 1 1, .slice (some ⟨vb, 0, none⟩) 2 2, ?_, fun t ht hc2 => ?_⟩⟩
    · rw [← hkv] at a5
      have e1 : ((cnt j + 1 : Nat) : Int) - 1 = (cnt j : Int) := by omega
      have e2 : ((cnt j + 1 : Nat) : Int) = (cnt j : Int) + 1 := by omega
      rw [e1, e2]; exact a5
    · have e : t = cnt j := by omega
      subst e
      exact ⟨kb, vb, ⟨by omega, fun e => by have := hob _ e; omega⟩, ⟨by omega, fun e => by have := hob _ e; omega⟩, rfl, rfl, a3, a4⟩
end Go.Proofs.Ybulkbkdi
