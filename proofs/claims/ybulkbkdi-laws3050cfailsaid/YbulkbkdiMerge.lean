/-
  Seat b3050a: the plain side of the stable sort: records in the order (key, source, place); two ranges exchanged; two sorted runs merged by a rotation. No walk here.
-/
import Derived.Sort.AssemblyPlain
namespace Go.Proofs.Ybulkbkdi
open Go.Sort

/-- A record: its key, its source, its place. -/
abbrev Rec := Int × Int × Int
def ltG (x y : Rec) : Bool := decide (x.2.1 < y.2.1 ∨ (x.2.1 = y.2.1 ∧ x.2.2 < y.2.2))
def ltT (x y : Rec) : Bool := decide (x.1 < y.1 ∨ (x.1 = y.1 ∧ (x.2.1 < y.2.1 ∨ (x.2.1 = y.2.1 ∧ x.2.2 < y.2.2))))
def ltK (x y : Rec) : Bool := decide (x.1 < y.1)

theorem swoT : SWO ltT := by
  refine ⟨fun x => ?_, fun x y z => ?_, fun x y z => ?_⟩
  · simp [ltT]
  · simp only [ltT, decide_eq_true_eq]; omega
  · simp only [ltT, decide_eq_false_iff_not]; omega

/-- Where the first record comes later in the order of sources, the keys alone decide. -/
theorem ltK_eq {x y : Rec} (h : ltG y x = true) : ltK x y = ltT x y := by
  simp only [ltG, decide_eq_true_eq] at h
  simp only [ltK, ltT]
  rw [decide_eq_decide]
  omega

theorem inner_eq (a : Nat) : ∀ (j : Nat) (d : Array Rec), j < d.size → (∀ t, a ≤ t → t < j → ltG d[t]! d[j]! = true) → insInner ltK a j d = insInner ltT a j d
  | 0, d, _, _ => rfl
  | j + 1, d, hs, h => by
    rw [insInner, insInner]
    by_cases ha : j + 1 > a
    · rw [ltK_eq (h j (by omega) (by omega))]
      split
      · refine inner_eq a j _ (by rw [size_swp]; omega) fun t h1 h2 => ?_
        rw [swp_other d (j + 1) j t (by omega) (by omega), swp_right d (j + 1) j (by omega)]
        exact h t h1 (by omega)
      · rfl
    · simp [ha]

theorem outer_eq (a b : Nat) : ∀ (n i : Nat) (d : Array Rec), b - i = n → a ≤ i → b ≤ d.size → (∀ j, i ≤ j → j < b → ∀ t, a ≤ t → t < j → ltG d[t]! d[j]! = true) → insOuter ltK a b i d = insOuter ltT a b i d
  | 0, i, d, hn, _, _, _ => by rw [insOuter.eq_def ltK, insOuter.eq_def ltT, if_neg (by omega), if_neg (by omega)]
  | n + 1, i, d, hn, hai, hb, h => by
    have hib : i < b := by omega
    rw [insOuter.eq_def ltK, insOuter.eq_def ltT, if_pos hib, if_pos hib, inner_eq a i d (by omega) (h i (Nat.le_refl _) hib)]
    have hp : PermIn a (i + 1) d (insInner ltT a i d) := (inner_perm a i d (by omega) hai)
    refine outer_eq a b n (i + 1) _ (by omega) (by omega) (by rw [hp.1]; exact hb) fun j h1 h2 t h3 h4 => ?_
    rw [hp.2.1 j (Or.inr h1)]
    by_cases ht : t < i + 1
    · exact permIn_all d _ a (i + 1) (fun x => ltG x d[j]! = true) (by omega) hp (fun k hk hk' => h j (by omega) h2 k hk (by omega)) t h3 ht
    · rw [hp.2.1 t (Or.inr (by omega))]
      exact h j (by omega) h2 t h3 h4
where
  inner_perm (a : Nat) : ∀ (j : Nat) (d : Array Rec), j < d.size → a ≤ j → PermIn a (j + 1) d (insInner ltT a j d)
    | 0, d, _, _ => permIn_refl d _ _
    | j + 1, d, hs, haj => by
      rw [insInner]
      split
      · rename_i hc
        simp only [Bool.and_eq_true, decide_eq_true_eq] at hc
        have h1 := swp_permIn d a (j + 1 + 1) (j + 1) j (by omega) (by omega) (by omega) (by omega) (by omega)
        have h2 := inner_perm a j (swp d (j + 1) j) (by rw [size_swp]; omega) (by omega)
        exact permIn_trans _ _ _ _ _ h1 (permIn_mono _ _ a (j + 1) a (j + 1 + 1) (Nat.le_refl _) (by omega) (by rw [size_swp]; omega) h2)
      · exact permIn_refl d _ _

/-- The insertion sort by keys of records in the order of their sources: the sorted records. -/
theorem insertion_stable (d : Array Rec) (a b : Nat) (hab : a ≤ b) (hb : b ≤ d.size) (h : ∀ i j, a ≤ i → i < j → j < b → ltG d[i]! d[j]! = true) :
    PermIn a b d (insertionSort ltK d a b) ∧ SortedIn ltT a b (insertionSort ltK d a b) := by
  have e : insertionSort ltK d a b = insertionSort ltT d a b := by
    unfold insertionSort
    exact outer_eq a b _ (a + 1) d rfl (by omega) hb fun j h1 h2 t h3 h4 => h t j h3 h4 h2
  rw [e]
  exact insertionSort_holds swoT d a b hab hb

/-! ### Ranges exchanged -/
/-- x is d with [a, a + n) and [b, b + n) exchanged. -/
def Exch (a b n : Nat) (d x : Array Rec) : Prop := x.size = d.size ∧ (∀ t, t < n → x[a + t]! = d[b + t]!) ∧ (∀ t, t < n → x[b + t]! = d[a + t]!) ∧ ∀ t, (t < a ∨ a + n ≤ t) → (t < b ∨ b + n ≤ t) → x[t]! = d[t]!

theorem Exch.zero (a b : Nat) (d : Array Rec) : Exch a b 0 d d := ⟨rfl, fun t h => by omega, fun t h => by omega, fun _ _ _ => rfl⟩

theorem Exch.step {a b n : Nat} {d x : Array Rec} (h : Exch a b n d x) (hab : a + n < b) (hb : b + n < d.size) : Exch a b (n + 1) d (swp x (a + n) (b + n)) := by
  obtain ⟨h0, h1, h2, h3⟩ := h
  refine ⟨by rw [size_swp]; exact h0, fun t ht => ?_, fun t ht => ?_, fun t ht1 ht2 => ?_⟩
  · by_cases e : t = n
    · subst e; rw [swp_left x _ _ (by omega) (by omega)]; exact h3 _ (by omega) (by omega)
    · rw [swp_other x _ _ _ (by omega) (by omega)]; exact h1 t (by omega)
  · by_cases e : t = n
    · subst e; rw [swp_right x _ _ (by omega)]; exact h3 _ (by omega) (by omega)
    · rw [swp_other x _ _ _ (by omega) (by omega)]; exact h2 t (by omega)
  · rw [swp_other x _ _ _ (by omega) (by omega)]; exact h3 t (by omega) (by omega)

/-- x is d with [s, m) and [m, e) in the other order. -/
def Rot (s m e : Nat) (d x : Array Rec) : Prop := x.size = d.size ∧ (∀ t, t < s ∨ e ≤ t → x[t]! = d[t]!) ∧ (∀ t, t < e - m → x[s + t]! = d[m + t]!) ∧ ∀ t, t < m - s → x[s + (e - m) + t]! = d[s + t]!

theorem Rot.refl {s m e : Nat} (d : Array Rec) (hs : s ≤ m) (he : m ≤ e) (h : s = m ∨ m = e) : Rot s m e d d := by
  refine ⟨rfl, fun _ _ => rfl, fun t ht => ?_, fun t ht => ?_⟩
  · congr 1; omega
  · congr 1; omega

/-- The longer left part: its first j are exchanged with the right part. -/
theorem Rot.left {m i j : Nat} {d x y : Array Rec} (hi : i ≤ m) (hij : j ≤ i) (hE : Exch (m - i) m j d x) (hR : Rot (m - i + j) m (m + j) x y) : Rot (m - i) m (m + j) d y := by
  obtain ⟨e0, e1, e2, e3⟩ := hE
  obtain ⟨r0, r1, r2, r3⟩ := hR
  refine ⟨by rw [r0, e0], fun t ht => ?_, fun t ht => ?_, fun t ht => ?_⟩
  · rw [r1 t (by omega), e3 t (by omega) (by omega)]
  · rw [r1 _ (by omega), e1 t (by omega)]
  · by_cases htj : t < j
    · have := r2 t (by omega)
      rw [show m - i + (m + j - m) + t = m - i + j + t by omega, this]
      exact e2 t htj
    · have := r3 (t - j) (by omega)
      rw [show m - i + (m + j - m) + t = m - i + j + (m + j - m) + (t - j) by omega, this, e3 _ (by omega) (by omega)]
      congr 1; omega

/-- The longer right part: its last i are exchanged with the left part. -/
theorem Rot.right {m i j : Nat} {d x y : Array Rec} (hi : i ≤ m) (hij : i ≤ j) (hE : Exch (m - i) (m + j - i) i d x) (hR : Rot (m - i) m (m + j - i) x y) : Rot (m - i) m (m + j) d y := by
  obtain ⟨e0, e1, e2, e3⟩ := hE
  obtain ⟨r0, r1, r2, r3⟩ := hR
  refine ⟨by rw [r0, e0], fun t ht => ?_, fun t ht => ?_, fun t ht => ?_⟩
  · rw [r1 t (by omega), e3 t (by omega) (by omega)]
  · by_cases htj : t < j - i
    · rw [r2 t (by omega), e3 _ (by omega) (by omega)]
    · have := r3 (t - (j - i)) (by omega)
      rw [show m - i + t = m - i + (m + j - i - m) + (t - (j - i)) by omega, this, e1 _ (by omega)]
      congr 1; omega
  · have h1 := e2 t (by omega)
    rw [show m - i + (m + j - m) + t = m + j - i + t by omega, r1 _ (by omega), h1]

/-- Equal parts: one exchange. -/
theorem Rot.last {m i : Nat} {d x : Array Rec} (hi : i ≤ m) (hE : Exch (m - i) m i d x) : Rot (m - i) m (m + i) d x := by
  obtain ⟨e0, e1, e2, e3⟩ := hE
  refine ⟨e0, fun t ht => e3 t (by omega) (by omega), fun t ht => e1 t (by omega), fun t ht => ?_⟩
  rw [show m - i + (m + i - m) + t = m + t by omega]
  exact e2 t (by omega)

/-- One record moved up a place. -/
theorem Rot.up {a k : Nat} {d x : Array Rec} (hak : a ≤ k) (hk : k + 1 < d.size) (h : Rot a (a + 1) (k + 1) d x) : Rot a (a + 1) (k + 2) d (swp x k (k + 1)) := by
  obtain ⟨r0, r1, r2, r3⟩ := h
  have hlast : x[k]! = d[a]! := by
    have := r3 0 (by omega)
    rw [show a + (k + 1 - (a + 1)) + 0 = k by omega] at this
    exact this
  refine ⟨by rw [size_swp]; exact r0, fun t ht => ?_, fun t ht => ?_, fun t ht => ?_⟩
  · rw [swp_other x _ _ _ (by omega) (by omega)]; exact r1 t (by omega)
  · by_cases e : a + t = k
    · rw [e, swp_left x _ _ (by omega) (by omega), r1 (k + 1) (by omega)]; congr 1; omega
    · rw [swp_other x _ _ _ (by omega) (by omega)]; exact r2 t (by omega)
  · obtain rfl : t = 0 := by omega
    rw [show a + (k + 2 - (a + 1)) + 0 = k + 1 by omega, swp_right x _ _ (by omega), hlast]
    rfl

/-- One record moved down a place. -/
theorem Rot.down {i k m : Nat} {d x : Array Rec} (hik : i < k) (hkm : k ≤ m) (hm : m < d.size) (h : Rot k m (m + 1) d x) : Rot (k - 1) m (m + 1) d (swp x k (k - 1)) := by
  obtain ⟨r0, r1, r2, r3⟩ := h
  have hlast : x[k]! = d[m]! := by
    have := r2 0 (by omega)
    exact this
  refine ⟨by rw [size_swp]; exact r0, fun t ht => ?_, fun t ht => ?_, fun t ht => ?_⟩
  · rw [swp_other x _ _ _ (by omega) (by omega)]; exact r1 t (by omega)
  · obtain rfl : t = 0 := by omega
    rw [show k - 1 + 0 = k - 1 by omega, swp_right x _ _ (by omega), hlast]
    rfl
  · by_cases e : t = 0
    · subst e
      rw [show k - 1 + (m + 1 - m) + 0 = k by omega, swp_left x _ _ (by omega) (by omega), r1 (k - 1) (by omega)]
      rfl
    · rw [swp_other x _ _ _ (by omega) (by omega)]
      have := r3 (t - 1) (by omega)
      rw [show k - 1 + (m + 1 - m) + t = k + (m + 1 - m) + (t - 1) by omega, this]
      congr 1; omega
/-! ### Merging -/
/-- Two sorted runs side by side, the records of the left one ahead of those of the right one in the order of sources. -/
structure Runs (a m b : Nat) (d : Array Rec) : Prop where
  am : a ≤ m
  mb : m ≤ b
  sz : b ≤ d.size
  left : SortedIn ltT a m d
  right : SortedIn ltT m b d
  cross : ∀ i j, a ≤ i → i < m → m ≤ j → j < b → ltG d[i]! d[j]! = true

def MergeOf (a b : Nat) (d d' : Array Rec) : Prop := PermIn a b d d' ∧ SortedIn ltT a b d'

theorem Rot.fst {s m e : Nat} {d x : Array Rec} (h : Rot s m e d x) {i : Nat} (h1 : s ≤ i) (h2 : i < s + (e - m)) : x[i]! = d[m + (i - s)]! := by
  have := h.2.2.1 (i - s) (by omega)
  rw [show s + (i - s) = i by omega] at this
  exact this
theorem Rot.snd {s m e : Nat} {d x : Array Rec} (h : Rot s m e d x) {i : Nat} (h1 : s + (e - m) ≤ i) (h2 : i < s + (e - m) + (m - s)) : x[i]! = d[s + (i - (s + (e - m)))]! := by
  have := h.2.2.2 (i - (s + (e - m))) (by omega)
  rw [show s + (e - m) + (i - (s + (e - m))) = i by omega] at this
  exact this

/-- The whole is sorted where the four parts follow one another. -/
theorem rot_sorted {a s m e b : Nat} {d x : Array Rec} (P : Runs a m b d) (has : a ≤ s) (hsm : s ≤ m) (hme : m ≤ e) (heb : e ≤ b) (h : Rot s m e d x)
    (h1 : ∀ i j, a ≤ i → i < s → m ≤ j → j < e → ltT d[j]! d[i]! = false) (h2 : ∀ i j, s ≤ i → i < m → m ≤ j → j < e → ltT d[i]! d[j]! = false)
    (h3 : ∀ i j, s ≤ i → i < m → e ≤ j → j < b → ltT d[j]! d[i]! = false) (h6 : ∀ i j, a ≤ i → i < s → e ≤ j → j < b → ltT d[j]! d[i]! = false) : SortedIn ltT a b x := by
  intro i j hi hij hj
  have A : ∀ t, t < s → x[t]! = d[t]! := fun t ht => h.2.1 t (Or.inl ht)
  have D : ∀ t, e ≤ t → x[t]! = d[t]! := fun t ht => h.2.1 t (Or.inr ht)
  by_cases i1 : i < s
  · rw [A i i1]
    by_cases j1 : j < s
    · rw [A j j1]; exact P.left i j hi hij (by omega)
    · by_cases j2 : j < s + (e - m)
      · rw [h.fst (by omega) j2]; exact h1 _ _ hi i1 (by omega) (by omega)
      · by_cases j3 : j < e
        · rw [h.snd (by omega) (by omega)]; exact P.left _ _ hi (by omega) (by omega)
        · rw [D j (by omega)]; exact h6 _ _ hi i1 (by omega) hj
  · by_cases i2 : i < s + (e - m)
    · rw [h.fst (by omega) i2]
      by_cases j2 : j < s + (e - m)
      · rw [h.fst (by omega) j2]; exact P.right _ _ (by omega) (by omega) (by omega)
      · by_cases j3 : j < e
        · rw [h.snd (by omega) (by omega)]; exact h2 _ _ (by omega) (by omega) (by omega) (by omega)
        · rw [D j (by omega)]; exact P.right _ _ (by omega) (by omega) hj
    · by_cases i3 : i < e
      · rw [h.snd (i := i) (by omega) (by omega)]
        by_cases j3 : j < e
        · rw [h.snd (i := j) (by omega) (by omega)]; exact P.left _ _ (by omega) (by omega) (by omega)
        · rw [D j (by omega)]; exact h3 _ _ (by omega) (by omega) (by omega) hj
      · rw [D i (by omega), D j (by omega)]; exact P.right _ _ (by omega) hij hj

/-- Behind the rotation: two pairs of runs, all of the first pair ahead of all of the second. -/
theorem rot_runs {a s m e b mid : Nat} {d x : Array Rec} (P : Runs a m b d) (has : a ≤ s) (hsm : s ≤ m) (hme : m ≤ e) (heb : e ≤ b) (hmid : mid = s + (e - m)) (h : Rot s m e d x)
    (h2 : ∀ i j, s ≤ i → i < m → m ≤ j → j < e → ltT d[i]! d[j]! = false) (h6 : ∀ i j, a ≤ i → i < s → e ≤ j → j < b → ltT d[j]! d[i]! = false) :
    Runs a s mid x ∧ Runs mid e b x ∧ ∀ i j, a ≤ i → i < mid → mid ≤ j → j < b → ltT x[j]! x[i]! = false := by
  subst hmid
  have A : ∀ t, t < s → x[t]! = d[t]! := fun t ht => h.2.1 t (Or.inl ht)
  have D : ∀ t, e ≤ t → x[t]! = d[t]! := fun t ht => h.2.1 t (Or.inr ht)
  have hsz : x.size = d.size := h.1
  have hP := P.sz
  refine ⟨⟨has, by omega, by omega, fun i j hi hij hj => ?_, fun i j hi hij hj => ?_, fun i j h1 h2 h3 h4 => ?_⟩, ⟨by omega, heb, by omega, fun i j hi hij hj => ?_, fun i j hi hij hj => ?_, fun i j h1 h2 h3 h4 => ?_⟩, fun i j hi1 hi2 hj1 hj2 => ?_⟩
  · rw [A i (by omega), A j hj]; exact P.left i j hi hij (by omega)
  · rw [h.fst hi (by omega), h.fst (by omega) hj]; exact P.right _ _ (by omega) (by omega) (by omega)
  · rw [A i h2, h.fst h3 h4]; exact P.cross _ _ h1 (by omega) (by omega) (by omega)
  · rw [h.snd hi (by omega), h.snd (by omega) (by omega)]; exact P.left _ _ (by omega) (by omega) (by omega)
  · rw [D i hi, D j (by omega)]; exact P.right i j (by omega) hij hj
  · rw [h.snd h1 (by omega), D j h3]; exact P.cross _ _ (by omega) (by omega) (by omega) h4
  · by_cases i1 : i < s
    · rw [A i i1]
      by_cases j3 : j < e
      · rw [h.snd hj1 (by omega)]; exact P.left _ _ hi1 (by omega) (by omega)
      · rw [D j (by omega)]; exact h6 _ _ hi1 i1 (by omega) hj2
    · rw [h.fst (by omega) hi2]
      by_cases j3 : j < e
      · rw [h.snd hj1 (by omega)]; exact h2 _ _ (by omega) (by omega) (by omega) (by omega)
      · rw [D j (by omega)]; exact P.right _ _ (by omega) (by omega) hj2

/-- Runs are runs still where only the records of a range that ends at, or begins at, or lies off them were permuted. -/
theorem Runs.off {a m b u v : Nat} {d x : Array Rec} (P : Runs a m b d) (h : PermIn u v d x) (hoff : v ≤ a ∨ b ≤ u) : Runs a m b x := by
  have e : ∀ t, a ≤ t → t < b → x[t]! = d[t]! := fun t h1 h2 => h.2.1 t (by omega)
  have hmb := P.mb
  have ham := P.am
  refine ⟨P.am, P.mb, by rw [h.1]; exact P.sz, fun i j hi hij hj => ?_, fun i j hi hij hj => ?_, fun i j h1 h2 h3 h4 => ?_⟩
  · rw [e i (by omega) (by omega), e j (by omega) (by omega)]; exact P.left i j hi hij hj
  · rw [e i (by omega) (by omega), e j (by omega) (by omega)]; exact P.right i j hi hij hj
  · rw [e i (by omega) (by omega), e j (by omega) (by omega)]; exact P.cross i j h1 h2 h3 h4

/-- A pair of runs of which one is empty is sorted. -/
theorem Runs.done {a m b : Nat} {d : Array Rec} (P : Runs a m b d) (h : a = m ∨ m = b) : MergeOf a b d d := by
  refine ⟨permIn_refl d a b, ?_⟩
  rcases h with h | h
  · subst h; exact P.right
  · subst h; exact P.left

/-- Each half merged: the whole is. -/
theorem merge_glue {a mid b : Nat} {x y z : Array Rec} (ham : a ≤ mid) (hmb : mid ≤ b) (hb : b ≤ x.size) (hx : ∀ i j, a ≤ i → i < mid → mid ≤ j → j < b → ltT x[j]! x[i]! = false) (hy : MergeOf a mid x y) (hz : MergeOf mid b y z) : MergeOf a b x z := by
  have hys : y.size = x.size := hy.1.1
  have p1 : PermIn a b x y := permIn_mono _ _ a mid a b (Nat.le_refl _) hmb hb hy.1
  have p2 : PermIn a b y z := permIn_mono _ _ mid b a b ham (Nat.le_refl _) (by omega) hz.1
  refine ⟨permIn_trans _ _ _ _ _ p1 p2, fun i j hi hij hj => ?_⟩
  by_cases hjm : j < mid
  · rw [hz.1.2.1 i (by omega), hz.1.2.1 j (by omega)]; exact hy.2 i j hi hij hjm
  · by_cases him : i < mid
    · rw [hz.1.2.1 i (by omega)]
      refine permIn_all y z mid b (fun w => ltT w y[i]! = false) (by omega) hz.1 (fun k hk hk' => ?_) j (by omega) hj
      rw [hy.1.2.1 k (by omega)]
      exact permIn_all x y a mid (fun w => ltT x[k]! w = false) (by omega) hy.1 (fun t ht ht' => hx t k ht ht' hk hk') i hi him
    · exact hz.2 i j (by omega) hij hj

/-- What the binary search of the merge has found. -/
theorem cut_facts {a m b mid n st r0 r p : Nat} {d : Array Rec} (P : Runs a m b d) (hn : n = mid + m) (hp : p = n - 1) (h0 : (m ≤ mid ∧ st = a ∧ r0 = m) ∨ (mid < m ∧ st = n - b ∧ r0 = mid)) (hmid : a ≤ mid ∧ mid < b ∧ 2 * mid ≤ a + b ∧ a + b ≤ 2 * mid + 1) (ham : a < m) (hmb : m < b)
    (hr : st ≤ r ∧ r ≤ r0) (hlo : ∀ c, st ≤ c → c < r → ltT d[p - c]! d[c]! = false) (hhi : ∀ c, r ≤ c → c < r0 → ltT d[p - c]! d[c]! = true) :
    (a ≤ r ∧ r ≤ m ∧ m ≤ n - r ∧ n - r ≤ b ∧ mid = r + (n - r - m)) ∧ (∀ i j, r ≤ i → i < m → m ≤ j → j < n - r → ltT d[i]! d[j]! = false) ∧ (∀ i j, a ≤ i → i < r → n - r ≤ j → j < b → ltT d[j]! d[i]! = false) := by
  subst hn; subst hp
  have hb1 : a ≤ r ∧ r ≤ m ∧ m ≤ mid + m - r ∧ mid + m - r ≤ b ∧ mid = r + (mid + m - r - m) := by omega
  refine ⟨hb1, fun i j h1 h2 h3 h4 => ?_, fun i j h1 h2 h3 h4 => ?_⟩
  · have hrr : r < r0 := by omega
    have hk := hhi r (Nat.le_refl _) hrr
    have e1 : ltT d[i]! d[r]! = false := by
      rcases Nat.eq_or_lt_of_le h1 with h | h
      · subst h; exact swoT.irrefl _
      · exact P.left r i (by omega) h h2
    have e2 : ltT d[mid + m - 1 - r]! d[j]! = false := by
      rcases Nat.eq_or_lt_of_le (show j ≤ mid + m - 1 - r by omega) with h | h
      · rw [h]; exact swoT.irrefl _
      · exact P.right j _ h3 h (by omega)
    exact swoT.ntrans _ _ _ e1 (swoT.ntrans _ _ _ (swoT.asymm hk) e2)
  · have hrr : st < r := by omega
    have hk := hlo (r - 1) (by omega) (by omega)
    have e1 : ltT d[r - 1]! d[i]! = false := by
      rcases Nat.eq_or_lt_of_le (show i ≤ r - 1 by omega) with h | h
      · rw [h]; exact swoT.irrefl _
      · exact P.left i (r - 1) h1 h (by omega)
    have e2 : ltT d[j]! d[mid + m - 1 - (r - 1)]! = false := by
      rcases Nat.eq_or_lt_of_le (show mid + m - 1 - (r - 1) ≤ j by omega) with h | h
      · rw [h]; exact swoT.irrefl _
      · exact P.right _ j (by omega) h h4
    exact swoT.ntrans _ _ _ (swoT.ntrans _ _ _ e2 hk) e1

/-- The keys decide, along the search. -/
theorem Runs.key {a m b i j : Nat} {d : Array Rec} (P : Runs a m b d) (h1 : a ≤ i) (h2 : i < m) (h3 : m ≤ j) (h4 : j < b) : ltK d[j]! d[i]! = ltT d[j]! d[i]! := ltK_eq (P.cross i j h1 h2 h3 h4)
end Go.Proofs.Ybulkbkdi
