/-
  Seat b3054a: the walks of joinPath (13) and yieldFiles (12), the callback by what is asked of it.
-/
import Derived.Test.YbulkbkfmTree
import Derived.Outline
namespace Go.Proofs.Ybulkbkfm
open Go.RowKit
open Go.ChangeMaps (setBlock)
set_option linter.unusedVariables false

set_option maxHeartbeats 400000 in
theorem join_any (dir nm : ByteArray) (w : World) (hd : dir.size ≤ 2000) (hn : nm.size ≤ 2000) :
    Calls Yba.prog 13 #[.string dir, .string nm] w fun e w' => e = .returned (.string (jp dir nm)) ∧ w' = w := by
  by_cases h : dir.toList.isEmpty = true
  · have hj : jp dir nm = nm := by simp [jp, h]
    rw [hj]
    go_enter Yba.func13, Yba.ntmps13
    go_wp2
    all_goals (go_ret; exact ⟨rfl, rfl⟩)
  · have hj : jp dir nm = dir ++ ⟨#[47]⟩ ++ nm := by simp [jp, h]
    have h' : dir.toList.isEmpty = false := by simpa using h
    rw [hj]
    have e1 : (dir ++ ⟨#[47]⟩ : ByteArray).size = dir.size + 1 := by simp [ByteArray.size_append]; rfl
    go_enter Yba.func13, Yba.ntmps13
    go_wp2
    go_ret
    exact ⟨rfl, rfl⟩

theorem jp_size (dir nm : ByteArray) : (jp dir nm).size ≤ dir.size + 1 + nm.size := by
  unfold jp
  split
  · omega
  · have e1 : (dir ++ ⟨#[47]⟩ : ByteArray).size = dir.size + 1 := by simp [ByteArray.size_append]; rfl
    simp only [ByteArray.size_append] at e1 ⊢
    omega

section
variable {X : Nat → Nat} {nm : Nat → ByteArray} {kids : Nat → List Nat} {fl : Nat → List (ByteArray × Nat)} {g : Nat} {lb : Array Value} {N0 : Nat} {own : Nat → Prop}
  {Inv : List (ByteArray × Nat) → World → Prop} {cont : List (ByteArray × Nat) → Bool} {All : List (ByteArray × Nat)}

/-- The contract of yieldFiles at folder i, to the depth n. -/
def YC (X : Nat → Nat) (nm : Nat → ByteArray) (kids : Nat → List Nat) (fl : Nat → List (ByteArray × Nat)) (g : Nat) (lb : Array Value) (N0 : Nat) (own : Nat → Prop) (Inv : List (ByteArray × Nat) → World → Prop) (cont : List (ByteArray × Nat) → Bool) (All : List (ByteArray × Nat)) (n i : Nat) : Prop :=
  ∀ (dir : ByteArray) (ys : List (ByteArray × Nat)) (W : World), dir.size + 10 * n ≤ 1000 → TreeAt X nm kids fl W → Inv ys W → N0 ≤ W.heap.size → cont ys = true → (ys ++ Sy nm kids fl n i dir).Nodup → (∀ x ∈ Sy nm kids fl n i dir, x ∈ All) →
    Calls Yba.prog 12 #[.pointer (some ⟨X i + 2, 0, none⟩), .string dir, .func (.func g) #[] lb] W (Yielded X nm kids fl own Inv cont (Sy nm kids fl n i dir) ys W)

/-- What holds while a range is under way: the iterator in block r, over map m with the pairs l. -/
def Run (X : Nat → Nat) (nm : Nat → ByteArray) (kids : Nat → List Nat) (fl : Nat → List (ByteArray × Nat)) (own : Nat → Prop) (Inv : List (ByteArray × Nat) → World → Prop) (cont : List (ByteArray × Nat) → Bool)
    (W : World) (r m : Nat) (l : List (ByteArray × Nat)) (ys : List (ByteArray × Nat)) (seen : Array Nat) (c0 : Nat) (zs : List (ByteArray × Nat)) (wr : World) : Prop :=
  wr.heap[r]? = some (.mapIter (some m) l.length seen c0) ∧ l.length ≤ c0 ∧ Inv (ys ++ zs) wr ∧ TreeAt X nm kids fl wr ∧ Kp own W wr ∧ cont (ys ++ zs) = true ∧ W.heap.size ≤ r

theorem tree_low {W W' : World} (hN : ∀ i, i < 7 → X i + 2 < N0) (h : TreeAt X nm kids fl W) (hb : ∀ b, b < N0 → W'.heap[b]? = W.heap[b]?) : TreeAt X nm kids fl W' :=
  h.kept fun i hi j hj => hb _ (by have := hN i hi; omega)

theorem tree_kp {W W' : World} (hown : ∀ b, own b → b < N0 ∧ ∀ i, i < 7 → ∀ j, j < 3 → b ≠ X i + j) (hN : ∀ i, i < 7 → X i + 2 < N0) (hs : N0 ≤ W.heap.size) (h : TreeAt X nm kids fl W) (hk : Kp own W W') : TreeAt X nm kids fl W' :=
  h.kept fun i hi j hj => hk.1 _ (by have := hN i hi; omega) (fun ho => (hown _ ho).2 i hi j hj rfl)

/-- 'range' begins. -/
theorem Run.start {W w0 : World} {ys zs : List (ByteArray × Nat)} {m : Nat} {l : List (ByteArray × Nat)} (hN : ∀ i, i < 7 → X i + 2 < N0) (hst : ∀ ys W W', Inv ys W → Below N0 W W' → Inv ys W')
    (hs : N0 ≤ w0.heap.size) (hI : Inv (ys ++ zs) w0) (hT : TreeAt X nm kids fl w0) (hK : Kp own W w0) (hc : cont (ys ++ zs) = true) :
    Run X nm kids fl own Inv cont W w0.heap.size m l ys #[] l.length zs (w0.alloc (.mapIter (some m) l.length #[] l.length)) := by
  refine ⟨heap_alloc_new w0 _, Nat.le_refl _, hst _ _ _ hI ((Below.refl _ _).alloc hs _), tree_low hN hT fun b hb => heap_alloc_old w0 _ (by omega), hK.trans ⟨fun b hb _ => heap_alloc_old w0 _ hb, by simp, rfl, rfl, rfl⟩, hc, hK.2.1⟩

/-- A step of the iterator. -/
theorem Run.next {W wr w1 : World} {ys zs : List (ByteArray × Nat)} {r m c0 : Nat} {l : List (ByteArray × Nat)} {seen : Array Nat} (R : Run X nm kids fl own Inv cont W r m l ys seen c0 zs wr) (hN : ∀ i, i < 7 → X i + 2 < N0) (hst : ∀ ys W W', Inv ys W → Below N0 W W' → Inv ys W')
    (hs : N0 ≤ W.heap.size) (hal : w1 = wr ∨ w1 = wr.drew) (q : Nat) :
    Run X nm kids fl own Inv cont W r m l ys (seen.push q) l.length zs (setBlock w1 r (.mapIter (some m) l.length (seen.push q) l.length)) ∧ (setBlock w1 r (.mapIter (some m) l.length (seen.push q) l.length)).heap.size = wr.heap.size := by
  obtain ⟨h1, h2, h3, h4, h5, h6, h7⟩ := R
  have hr := lt_of_block h1
  obtain ⟨f1, f2, f3, f4, f5, f6⟩ := step_frame hal r (.mapIter (some m) l.length (seen.push q) l.length) hr
  have hb : Below N0 wr (setBlock w1 r (.mapIter (some m) l.length (seen.push q) l.length)) := ⟨f4, f5, f6, by omega, fun k hk => f2 k (by omega)⟩
  exact ⟨⟨f1, Nat.le_refl _, hst _ _ _ h3 hb, tree_low hN h4 hb.block, h5.trans' hb.os hb.tape hb.output hb.size (fun b hbl => f2 b (by omega)), h6, h7⟩, f3⟩

/-- Behind a callback, or behind a walk over a sub-folder. -/
theorem Run.called {W wn W' : World} {ys zs xs : List (ByteArray × Nat)} {r m c0 : Nat} {l : List (ByteArray × Nat)} {seen : Array Nat} (R : Run X nm kids fl own Inv cont W r m l ys seen c0 zs wn) (hN : ∀ i, i < 7 → X i + 2 < N0)
    (hown : ∀ b, own b → b < N0 ∧ ∀ i, i < 7 → ∀ j, j < 3 → b ≠ X i + j) (hs : N0 ≤ W.heap.size) (hk : Kp own wn W') (hI : Inv (ys ++ (zs ++ xs)) W') (hc : cont (ys ++ (zs ++ xs)) = true) :
    Run X nm kids fl own Inv cont W r m l ys seen c0 (zs ++ xs) W' := by
  obtain ⟨h1, h2, h3, h4, h5, h6, h7⟩ := R
  have hr := lt_of_block h1
  have hs' : N0 ≤ wn.heap.size := Nat.le_trans hs h5.2.1
  exact ⟨(hk.1 r hr (fun ho => by have := (hown r ho).1; omega)).trans h1, h2, hI, tree_kp hown hN hs' h4 hk, h5.trans hk, hc, h7⟩

theorem Run.tree_fields {W wr : World} {ys zs : List (ByteArray × Nat)} {r m c0 : Nat} {l : List (ByteArray × Nat)} {seen : Array Nat} (R : Run X nm kids fl own Inv cont W r m l ys seen c0 zs wr) : TreeAt X nm kids fl wr := R.2.2.2.1

theorem fold_cells {W : World} (h : TreeAt X nm kids fl W) {i : Nat} (hi : i < 7) : W.cell? ⟨X i + 2, 0, none⟩ = some (.string (nm i)) ∧ W.cell? ⟨X i + 2, 6, none⟩ = some (.map (some (X i))) ∧ W.cell? ⟨X i + 2, 7, none⟩ = some (.map (some (X i + 1))) := by
  obtain ⟨h1, _, _⟩ := h i hi
  exact ⟨by simp [World.cell?, h1], by simp [World.cell?, h1], by simp [World.cell?, h1]⟩

/-- THE STEP of a range over map m: nothing is left, or one that is left comes out. -/
theorem Run.advance {W wr : World} {ys zs : List (ByteArray × Nat)} {r m c0 : Nat} {l : List (ByteArray × Nat)} {seen : Array Nat} (R : Run X nm kids fl own Inv cont W r m l ys seen c0 zs wr) (hN : ∀ i, i < 7 → X i + 2 < N0) (hst : ∀ ys W W', Inv ys W → Below N0 W W' → Inv ys W')
    (hs : N0 ≤ W.heap.size) (hm : ∀ w, TreeAt X nm kids fl w → MapAt w m l) :
    (toCome l seen = [] ∧ (Instr.next (.pointer (some ⟨r, 0, none⟩)) false 0).run Yba.prog wr = .ok (.tuple #[.bool false]) wr) ∨
    ∃ e k p wn, e ∈ toCome l seen ∧ e = { key := .string k, val := .pointer (some ⟨p, 0, none⟩), born := e.born } ∧ (Instr.next (.pointer (some ⟨r, 0, none⟩)) false 0).run Yba.prog wr = .ok (.tuple #[.bool true, .string k, .pointer (some ⟨p, 0, none⟩)]) wn ∧
      (Instr.entry (.pointer (some ⟨r, 0, none⟩))).run Yba.prog wn = .ok (.tuple #[.string k, .pointer (some ⟨p, 0, none⟩)]) wn ∧ Run X nm kids fl own Inv cont W r m l ys (seen.push e.born) l.length zs wn ∧ wn.heap.size = wr.heap.size := by
  rcases run_next_at (P := Yba.prog) wr 0 r m l.length c0 seen (ent l) l.length R.1 (hm wr R.2.2.2.1) (fun x hx => ent_born_lt hx) R.2.1 with ⟨hz, hnx⟩ | ⟨e, he, w1, hal, hnx⟩
  · refine .inl ⟨?_, hnx⟩
    have : (leftOf (ent l) seen).toList.length = 0 := by simpa using hz
    rw [leftOf_list] at this
    exact List.eq_nil_of_length_eq_zero this
  · rw [leftOf_list] at he
    obtain ⟨R1, hsz1⟩ := R.next hN hst hs hal e.born
    have hme : e ∈ (ent l).toList := (List.mem_filter.1 he).1
    have hen := run_entry_at (P := Yba.prog) _ r m l.length seen (ent l) l.length e R1.1 (hm _ R1.2.2.2.1) hme (ent_nodup _)
    obtain ⟨k, p, _, _, hee⟩ := ent_mem hme
    have ev : e.val = .pointer (some ⟨p, 0, none⟩) := by rw [hee]; rfl
    have ek : e.key = .string k := by rw [hee]
    rw [ek, ev] at hnx hen
    exact .inr ⟨e, k, p, _, he, by rw [← ek, ← ev], hnx, hen, R1, hsz1⟩

theorem Run.left {W wr : World} {ys zs : List (ByteArray × Nat)} {r m c0 : Nat} {l : List (ByteArray × Nat)} {seen : Array Nat} (R : Run X nm kids fl own Inv cont W r m l ys seen c0 zs wr) (hm : ∀ w, TreeAt X nm kids fl w → MapAt w m l) :
    wr.rangeLeft m r = (toCome l seen).length := by
  have h1 := R.1
  have h2 : wr.heap[m]? = some (.map (ent l) l.length) := hm wr R.2.2.2.1
  simp only [World.rangeLeft, h1, h2]
  rw [← leftOf_list]
  simp

set_option maxHeartbeats 3200000 in
theorem yield_step (n i : Nat) (hi : i < 7) (hkid : ∀ k, k ∈ kids i → k < 7 ∧ YC X nm kids fl g lb N0 own Inv cont All n k)
    (eg : ∀ args w, (callFunc g args).run Yba.prog w = .ok (.enter g args) w) (hN : ∀ i, i < 7 → X i + 2 < N0) (hnm : ∀ k, (nm k).size ≤ 8)
    (hown : ∀ b, own b → b < N0 ∧ ∀ i, i < 7 → ∀ j, j < 3 → b ≠ X i + j) (hst : ∀ ys W W', Inv ys W → Below N0 W W' → Inv ys W')
    (hcb : CB g lb N0 own Inv cont All) : YC X nm kids fl g lb N0 own Inv cont All (n + 1) i := by
  intro dir ys W hdir hT hI hs hc hnd hall
  have hrun1 := run_range_map (P := Yba.prog) W 50 9 32 (X i + 1) _ _ Yba.underlying50 (hT i hi).2.2
  obtain ⟨c0, c6, c7⟩ := fold_cells hT hi
  have RS := Run.start (m := X i + 1) (l := fl i) (zs := []) (ys := ys) hN hst hs (by simpa using hI) hT (Kp.refl own W) (by simpa using hc)
  have HT := hide hT
  have HI := hide hI
  have Hnd := hide hnd
  have Hall := hide hall
  have Hkid := hide hkid
  have HN := hide hN
  have Hown := hide hown
  have Hst := hide hst
  have Hcb := hide hcb
  have HRS := hide RS
  have Hnm := hide hnm
  clear hT hI hnd hall hkid hN hown hst hcb RS hnm
  go_enter Yba.func12, Yba.ntmps12
  go_wp2
  go_loopw [8] (fun t wr => ∃ seen c0 zs, Run X nm kids fl own Inv cont W W.heap.size (X i + 1) (fl i) ys seen c0 zs wr ∧ (zs ++ later (fl i) dir seen).Perm ((fl i).map fun x => (dir, x.2))) (fun _ wr => wr.rangeLeft (X i + 1) W.heap.size)
  case atStart => exact ⟨#[], _, [], unhide HRS, by rw [later_nil]; exact List.Perm.refl _⟩
  case round =>
    obtain ⟨seen, cq, zs, R, hperm⟩ := hrel
    have hmT : ∀ w, TreeAt X nm kids fl w → MapAt w (X i + 1) (fl i) := fun w h => (h i hi).2.2
    have hleft := R.left hmT
    have Hleft := hide hleft
    have HmT := hide hmT
    clear hleft hmT
    rcases R.advance (unhide HN) (unhide Hst) hs (unhide HmT) with ⟨hz, hnx⟩ | ⟨e, k, p, wn, he, hee, hnx, hen, R1, hsz1⟩
    · have HR := hide R
      have Hperm := hide hperm
      have Hz := hide hz
      clear R hperm hz
      obtain ⟨d0, d6, d7⟩ := fold_cells (unhide HR).2.2.2.1 hi
      obtain ⟨wo, rfl⟩ : ∃ wo : World, wo = wr := ⟨_, rfl⟩
      have hrun2 := run_range_map (P := Yba.prog) wo 49 9 23 (X i) _ _ Yba.underlying49 ((unhide HR).2.2.2.1 i hi).2.1
      have hpz : zs.Perm ((fl i).map fun x => (dir, x.2)) := by
        have := unhide Hperm
        rw [later, unhide Hz] at this
        simpa using this
      have hso : N0 ≤ wo.heap.size := Nat.le_trans hs (unhide HR).2.2.2.2.1.2.1
      have R2 := Run.start (m := X i) (l := (kids i).map fun k => (nm k, X k + 2)) (zs := zs ++ []) (ys := ys) (unhide HN) (unhide Hst) hso (by simpa using (unhide HR).2.2.1) (unhide HR).2.2.2.1 (unhide HR).2.2.2.2.1 (by simpa using (unhide HR).2.2.2.2.2.1)
      have HR2 := hide R2
      have Hpz := hide hpz
      clear R2 hpz
      go_wp2
      go_loopw [10] (fun t wr => ∃ seen c0 zs2, Run X nm kids fl own Inv cont W wo.heap.size (X i) ((kids i).map fun k => (nm k, X k + 2)) ys seen c0 (zs ++ zs2) wr ∧ (zs2 ++ later2 nm X (kids i) (fun k => Sy nm kids fl n k (jp dir (nm k))) seen).Perm ((kids i).flatMap fun k => Sy nm kids fl n k (jp dir (nm k)))) (fun _ wr => wr.rangeLeft (X i) wo.heap.size)
      case atStart =>
        have h := unhide HR2
        simp only [List.length_map] at h
        exact ⟨#[], (kids i).length, [], h, by rw [later2_nil]; exact List.Perm.refl _⟩
      case round =>
        obtain ⟨seen2, cq2, zs2, R, hperm2⟩ := hrel
        have hmD : ∀ w, TreeAt X nm kids fl w → MapAt w (X i) ((kids i).map fun k => (nm k, X k + 2)) := fun w h => (h i hi).2.1
        have hleft2 := R.left hmD
        have Hleft2 := hide hleft2
        have HmD := hide hmD
        clear hleft2 hmD
        rcases R.advance (unhide HN) (unhide Hst) hs (unhide HmD) with ⟨hz2, hnx⟩ | ⟨e, k', p, wn, he, hee, hnx, hen, R1, hsz1⟩
        · have HRR := hide R
          have Hz2 := hide hz2
          have Hperm2 := hide hperm2
          clear R hz2 hperm2
          go_wp2
          go_ret
          refine ⟨zs ++ zs2, (unhide HRR).2.2.1, (unhide HRR).2.2.2.1, (unhide HRR).2.2.2.2.1, .inl ⟨rfl, (unhide HRR).2.2.2.2.2.1, ?_⟩⟩
          have h2 := unhide Hperm2
          rw [later2, unhide Hz2] at h2
          exact (unhide Hpz).append (by simpa using h2)
        · obtain ⟨hk1, hk2⟩ := ent_kid (List.mem_filter.1 he).1
          have hkm := List.mem_of_getElem? hk1
          have hst2 := later2_step nm X (kids i) (fun k => Sy nm kids fl n k (jp dir (nm k))) seen2 e he
          have hlt2 : (toCome ((kids i).map fun k => (nm k, X k + 2)) (seen2.push e.born)).length < (toCome ((kids i).map fun k => (nm k, X k + 2)) seen2).length := by
            have := (toCome_step _ seen2 e he).length_eq
            simp at this
            omega
          generalize (kids i).getD e.born 0 = kk at hk1 hk2 hkm hst2
          have hkv : k' = nm kk ∧ p = X kk + 2 := by
            have := hee.symm.trans hk2
            simp only [MapEntry.mk.injEq, Value.string.injEq, ptr, Value.pointer.injEq, Option.some.injEq, Addr.mk.injEq, and_true] at this
            exact this
          obtain ⟨rfl, rfl⟩ := hkv
          obtain ⟨hk7, hYC⟩ := unhide Hkid kk hkm
          obtain ⟨f0, _, _⟩ := fold_cells R1.2.2.2.1 hk7
          have hnk := unhide Hnm kk
          have hjs := jp_size dir (nm kk)
          have HR1 := hide R1
          have Hperm2 := hide hperm2
          have Hst2 := hide hst2
          have Hlt2 := hide hlt2
          have HYC := hide hYC
          have Hkm := hide hkm
          clear R R1 hperm2 he hee hk1 hk2 hst2 hlt2 hYC hkm hsz1
          go_wp2_with fail
          refine (join_any dir (nm kk) wn (by omega) (by omega)).mono ?_
          rintro e' w' ⟨rfl, rfl⟩
          have hS2 : (zs2 ++ (Sy nm kids fl n kk (jp dir (nm kk)) ++ later2 nm X (kids i) (fun k => Sy nm kids fl n k (jp dir (nm k))) (seen2.push e.born))).Perm ((kids i).flatMap fun k => Sy nm kids fl n k (jp dir (nm k))) :=
            ((unhide Hst2).symm.append_left zs2).trans (unhide Hperm2)
          have hcall := unhide HYC (jp dir (nm kk)) (ys ++ (zs ++ zs2)) w' (by omega) (unhide HR1).2.2.2.1 (unhide HR1).2.2.1 (Nat.le_trans hs (unhide HR1).2.2.2.2.1.2.1) (unhide HR1).2.2.2.2.2.1 (nodup_sub (unhide Hnd) (unhide Hpz) hS2)
            (fun x hx => unhide Hall x (List.mem_append_right _ (List.mem_flatMap.2 ⟨kk, unhide Hkm, hx⟩)))
          have HS2 := hide hS2
          have Hcall := hide hcall
          clear hS2 hcall
          go_wp2_with fail
          refine (unhide Hcall).mono ?_
          rintro e' w2 ⟨xs, hI2, hT2, hK2, ⟨rfl, hc2, hp2⟩ | ⟨rfl, hc2, rest, hp2⟩⟩
          · have RC := (unhide HR1).called (xs := xs) (unhide HN) (unhide Hown) hs hK2 (by simpa using hI2) (by simpa using hc2)
            have HRC := hide RC
            have Hp2 := hide hp2
            clear RC hI2 hT2 hK2 hc2 hp2
            go_wp2
            go_roundw
            case rel =>
              refine ⟨_, _, zs2 ++ xs, by simpa using unhide HRC, ?_⟩
              refine List.Perm.trans ?_ (unhide HS2)
              rw [List.append_assoc]
              exact ((unhide Hp2).append_right _).append_left zs2
            case measure =>
              rw [unhide Hleft2, (unhide HRC).left (unhide HmD)]
              exact unhide Hlt2
          · have HI2 := hide hI2
            have HT2 := hide hT2
            have HK2 := hide hK2
            have Hc2 := hide hc2
            have Hp2 := hide hp2
            clear hI2 hT2 hK2 hc2 hp2
            go_wp2
            go_ret
            refine ⟨zs ++ (zs2 ++ xs), by simpa using unhide HI2, unhide HT2, (unhide HR1).2.2.2.2.1.trans (unhide HK2), .inr ⟨rfl, by simpa using unhide Hc2, rest ++ later2 nm X (kids i) (fun k => Sy nm kids fl n k (jp dir (nm k))) (seen2.push e.born), ?_⟩⟩
            have h1 : (zs2 ++ ((xs ++ rest) ++ later2 nm X (kids i) (fun k => Sy nm kids fl n k (jp dir (nm k))) (seen2.push e.born))).Perm _ := (((unhide Hp2).append_right _).append_left zs2).trans (unhide HS2)
            have h2 := (unhide Hpz).append h1
            simpa [Sy] using h2
    · have HR1 := hide R1
      have Hperm := hide hperm
      have He := hide he
      have Hee := hide hee
      have Hsz1 := hide hsz1
      clear R R1 hperm hsz1 he hee
      have hmem : (dir, p) ∈ (fl i).map fun x => (dir, x.2) := by
        have h1 : (dir, p) ∈ later (fl i) dir seen := List.mem_map.2 ⟨e, unhide He, by rw [unhide Hee]; rfl⟩
        exact (unhide Hperm).mem_iff.1 (List.mem_append_right _ h1)
      have hlt : (toCome (fl i) (seen.push e.born)).length < (toCome (fl i) seen).length := by
        have := (toCome_step _ seen e (unhide He)).length_eq
        simp at this
        omega
      have hstep : (zs ++ (dir, p) :: later (fl i) dir (seen.push e.born)).Perm ((fl i).map fun x => (dir, x.2)) := by
        have h1 := later_step (fl i) dir seen e (unhide He)
        have h2 : blkOf e.val = p := by rw [unhide Hee]; rfl
        rw [h2] at h1
        exact (h1.symm.append_left zs).trans (unhide Hperm)
      have hfr := fresh_of (unhide Hnd) hstep
      have hal := unhide Hall (dir, p) (List.mem_append_left _ hmem)
      have hcall := unhide Hcb (ys ++ zs) dir p wn (unhide HR1).2.2.1 (Nat.le_trans hs (unhide HR1).2.2.2.2.1.2.1) (unhide HR1).2.2.2.2.2.1 hal hfr
      rw [List.append_assoc] at hcall
      have Hlt := hide hlt
      have Hstep := hide hstep
      have Hcall := hide hcall
      clear hmem hlt hstep hfr hal hcall
      go_wp2_with fail
      cases hcont : cont (ys ++ (zs ++ [(dir, p)]))
      · refine (unhide Hcall).mono ?_
        rintro e' w2 ⟨rfl, hI2, hK2, hs2⟩
        rw [hcont]
        go_wp2
        go_ret
        refine ⟨zs ++ [(dir, p)], hI2, tree_kp (unhide Hown) (unhide HN) (Nat.le_trans hs (unhide HR1).2.2.2.2.1.2.1) (unhide HR1).2.2.2.1 hK2, (unhide HR1).2.2.2.2.1.trans hK2, .inr ⟨rfl, hcont, later (fl i) dir (seen.push e.born) ++ (kids i).flatMap fun k => Sy nm kids fl n k (jp dir (nm k)), ?_⟩⟩
        have h1 := (unhide Hstep).append_right ((kids i).flatMap fun k => Sy nm kids fl n k (jp dir (nm k)))
        simpa [Sy] using h1
      · refine (unhide Hcall).mono ?_
        rintro e' w2 ⟨rfl, hI2, hK2, hs2⟩
        rw [hcont]
        have RC := (unhide HR1).called (unhide HN) (unhide Hown) hs hK2 hI2 hcont
        have HRC := hide RC
        have Hcont := hide hcont
        have HI2 := hide hI2
        have HK2 := hide hK2
        clear RC hcont hI2 hK2 hs2
        go_wp2
        go_roundw
        case rel => exact ⟨_, _, _, unhide HRC, by have := unhide Hstep; simpa using this⟩
        case measure =>
          rw [unhide Hleft, (unhide HRC).left (unhide HmT)]
          exact unhide Hlt

/-- yieldFiles at every folder: 'ht' bounds how deep the folders go. -/
theorem yield_all (ht : Nat → Nat) (hht : ∀ i, i < 7 → ∀ k, k ∈ kids i → k < 7 ∧ ht k < ht i)
    (eg : ∀ args w, (callFunc g args).run Yba.prog w = .ok (.enter g args) w) (hN : ∀ i, i < 7 → X i + 2 < N0) (hnm : ∀ k, (nm k).size ≤ 8)
    (hown : ∀ b, own b → b < N0 ∧ ∀ i, i < 7 → ∀ j, j < 3 → b ≠ X i + j) (hst : ∀ ys W W', Inv ys W → Below N0 W W' → Inv ys W')
    (hcb : CB g lb N0 own Inv cont All) : ∀ n i, i < 7 → ht i < n → YC X nm kids fl g lb N0 own Inv cont All n i
  | 0, _, _, h => by omega
  | n + 1, i, hi, h => yield_step n i hi (fun k hk => ⟨(hht i hi k hk).1, yield_all ht hht eg hN hnm hown hst hcb n k (hht i hi k hk).1 (by have := (hht i hi k hk).2; omega)⟩) eg hN hnm hown hst hcb

end

end Go.Proofs.Ybulkbkfm
