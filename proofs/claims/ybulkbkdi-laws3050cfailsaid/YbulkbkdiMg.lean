/-
  Seat b3050a: mergeSources.
-/
import Derived.Test.YbulkbkdiWS
import Derived.Laws.MakeOwn
import Derived.Shelf.Abstract
namespace Go.Proofs.Ybulkbkdi
open Go.RowKit Go.Sort

theorem infoS : (Yba.prog.info? 46).map (fun i => (i.zero, i.size, i.bytes)) = some (some .nilIface, 1, 16) := by kernel_rfl
theorem infoS_parts : ∃ i, Yba.prog.info? 46 = some i ∧ i.zero = some .nilIface ∧ i.size = 1 ∧ i.bytes = 16 := by
  have h := infoS
  cases he : Yba.prog.info? 46 with
  | none => rw [he] at h; simp at h
  | some i => rw [he] at h; simp at h; exact ⟨i, rfl, h.1, h.2.1, h.2.2⟩

theorem makeS (W : World) (n : Nat) (hn : n ≤ 256) : (Instr.makeSlice 25 (.int .i64 0) (.int .i64 (n : Int))).run Yba.prog W = .ok (.slice (some ⟨W.heap.size, 0, none⟩) 0 n) (W.alloc (.cells (madeCells #[.nilIface] n) 46)) := by
  obtain ⟨i0, hi, hz, h1, h2⟩ := infoS_parts
  have h := run_make (P := Yba.prog) W 25 46 i0 _ Yba.underlying25 hi hz .i64 .i64 0 n (by omega) (by omega) (by rw [h2]; omega) (by omega)
  rw [h1, show Value.nilIface.cells = #[.nilIface] from rfl] at h
  simpa using h

/-- What mergeSources is given. -/
structure MIn (W : World) (n sb : Nat) (P G : Nat → Nat) (KV : Nat → Value) (K : Nat → List Int) (fa : Nat → Int) (er : Nat → Value) (E : List Rec) (lb mb : Nat) (mo : Obj) : Prop where
  names : Names W.heap.size n P G sb lb mb
  srcs : ∀ j, j < n → W.cell? ⟨sb, j, none⟩ = some (.iface 39 (.pointer (some ⟨P j, 0, none⟩)))
  ms : MS W.heap.size n P G KV K fa er none (fun _ => 0) W
  log : W.heap[lb]? = some (.cells #[.slice none 0 0] 26 (0, 0))
  mbk : W.heap[mb]? = some mo
  len : ∀ j, j < n → (K j).length ≤ 256
  byte : ∀ j, j < n → ∀ x ∈ K j, 0 ≤ x ∧ x < 256
  up : ∀ j, j < n → ∀ t u, t ≤ u → u < (K j).length → (K j).getD t 0 ≤ (K j).getD u 0
  asc : Asc E
  perm : E.Perm (want K n)
  small : E.length < 100000
  fail : ∀ j, j < n → 0 ≤ fa j → ∃ t v, er j = .iface t v

/-- What mergeSources leaves. -/
def MOut (W : World) (n : Nat) (P : Nat → Nat) (KV : Nat → Value) (K : Nat → List Int) (fa : Nat → Int) (er : Nat → Value) (E : List Rec) (lb : Nat) (cont : Nat → Bool) (e : Ending) (w' : World) : Prop :=
  ∃ l lv, LogAt w' (W.heap.size + 1) lb lv l ∧ Step (fun k => k = lb ∨ ∃ j, j < n ∧ k = P j) W w' ∧ (∃ E', E = l ++ E') ∧
   ((e = .returned .nilIface ∧ l = E ∧ (∀ m, 1 ≤ m → m ≤ l.length → cont m = true) ∧ ∀ j, j < n → (∃ key val, RunIs w' (P j) (KV j) j (K j).length ((K j).length + 1 : Nat) (fa j) (er j) key val) ∧ ∀ c, c ≤ (K j).length → (c : Int) ≠ fa j) ∨
    (e = .returned .nilIface ∧ 1 ≤ l.length ∧ cont l.length = false ∧ ∀ m, 1 ≤ m → m < l.length → cont m = true) ∨
    (∃ j, j < n ∧ ∃ f : Nat, fa j = f ∧ f ≤ (K j).length ∧ e = .returned (er j) ∧ ((f = 0 ∧ l = []) ∨ ∃ t, f = t + 1 ∧ 1 ≤ l.length ∧ E[l.length - 1]? = some (head K (j, t)))))

/-- Behind i rounds of the first loop. -/
def cnt1 (i : Nat) : Nat → Nat := fun j => if j < i then 1 else 0
theorem cnt1_zero : cnt1 0 = fun _ => 0 := by funext j; simp [cnt1]
theorem cnt1_self (i : Nat) : cnt1 i i = 0 := by simp [cnt1]
theorem cnt1_succ (i : Nat) : upd (cnt1 i) i 1 = cnt1 (i + 1) := by
  funext j
  unfold upd cnt1
  by_cases e : j = i
  · subst e; simp
  · rw [if_neg e]
    by_cases h : j < i
    · rw [if_pos h, if_pos (by omega)]
    · rw [if_neg h, if_neg (by omega)]

variable {W : World} {n sb : Nat} {P G : Nat → Nat} {KV : Nat → Value} {K : Nat → List Int} {fa : Nat → Int} {er : Nat → Value} {E : List Rec} {lb mb : Nat} {mo : Obj} {cont : Nat → Bool}

theorem MIn.start (h : MIn W n sb P G KV K fa er E lb mb mo) (hn : n ≤ 256) : WS W n P G KV K fa er lb mb mo [] [] (.slice none 0 0) (cnt1 0) (W.alloc (.cells (madeCells #[.nilIface] n) 46)) := by
  have st : Step (fun _ => False) W (W.alloc (.cells (madeCells #[.nilIface] n) 46)) := (Step.refl _ W).alloc _
  rw [cnt1_zero]
  refine ⟨h.ms.keep h.names.lay st (fun k hk => hk.elim) (fun k hk => Or.inl hk), ⟨?_, World.ownsRow_nil _ _ _ _⟩, ?_, ?_, st.mono fun k _ hk => hk.elim⟩
  · rw [st.block lb h.names.lbl (fun h => h)]; exact h.log
  · exact ⟨rfl, Or.inr ⟨W.heap.size, n, madeCells #[.nilIface] n, rfl, Nat.le_refl _, alloc_new _ _, Nat.zero_le _, by unfold maxLen; omega, by simp [size_madeCells], rfl⟩⟩
  · rw [st.block mb h.names.mbl (fun h => h)]; exact h.mbk

theorem MIn.src (h : MIn W n sb P G KV K fa er E lb mb mo) {w : World} (st : Step (fun k => k = lb ∨ ∃ j, j < n ∧ k = P j) W w) {j : Nat} (hj : j < n) : w.cell? ⟨sb, j, none⟩ = some (.iface 39 (.pointer (some ⟨P j, 0, none⟩))) := by
  have hb : w.heap[sb]? = W.heap[sb]? := by
    refine st.block sb h.names.sbl ?_
    rintro (e | ⟨i, hi, e⟩)
    · exact h.names.lbsb e.symm
    · exact (h.names.off i hi).2.2.1 e
  rw [World.cell?_of_block (w := W) hb]
  exact h.srcs j hj

/-- The key at index t of the live ones. -/
def kd (K : Nat → List Int) (Lv : List (Nat × Nat)) (t : Nat) : Int := key K (Lv.getD t (0, 0))
theorem kd_get (K : Nat → List Int) (Lv : List (Nat × Nat)) (t : Nat) (h : t < Lv.length) : kd K Lv t = key K Lv[t] := by simp [kd, h]

/-- Index k is the least of the first i + 1. -/
def Upto (K : Nat → List Int) (Lv : List (Nat × Nat)) (i k : Nat) : Prop := k ≤ i ∧ ∀ t, t ≤ i → kd K Lv k ≤ kd K Lv t ∧ (t < k → kd K Lv k < kd K Lv t)
theorem Upto.zero (K : Nat → List Int) (Lv : List (Nat × Nat)) : Upto K Lv 0 0 := by
  refine ⟨Nat.le_refl _, fun t h => ?_⟩
  have e : t = 0 := by omega
  subst e
  exact ⟨Int.le_refl _, fun h => by omega⟩
theorem Upto.less {i k : Nat} {Lv : List (Nat × Nat)} (h : Upto K Lv i k) (hl : kd K Lv (i + 1) < kd K Lv k) : Upto K Lv (i + 1) (i + 1) :=
  ⟨Nat.le_refl _, fun t ht => by
    by_cases e : t = i + 1
    · subst e; exact ⟨Int.le_refl _, fun h => by omega⟩
    · have := (h.2 t (by omega)).1; exact ⟨by omega, fun _ => by omega⟩⟩
theorem Upto.more {i k : Nat} {Lv : List (Nat × Nat)} (h : Upto K Lv i k) (hl : ¬ kd K Lv (i + 1) < kd K Lv k) : Upto K Lv (i + 1) k :=
  ⟨by have := h.1; omega, fun t ht => by
    by_cases e : t = i + 1
    · subst e; exact ⟨by omega, fun h' => by have := h.1; omega⟩
    · exact h.2 t (by omega)⟩
theorem Upto.least {i k : Nat} {Lv : List (Nat × Nat)} (h : Upto K Lv i k) (hi : i + 1 = Lv.length) : Least K Lv k := fun t ht hm => by
  have := h.2 t (by omega)
  rw [kd_get K Lv k hm, kd_get K Lv t ht] at this
  exact this

theorem kd_byte (H : MIn W n sb P G KV K fa er E lb mb mo) {l : List Rec} {Lv : List (Nat × Nat)} {cnt : Nat → Nat} (hp : Pl K n E l Lv cnt) {t : Nat} (ht : t < Lv.length) : 0 ≤ kd K Lv t ∧ kd K Lv t < 256 := by
  rw [kd_get K Lv t ht]
  obtain ⟨h1, h2, _⟩ := hp.inn Lv[t] (List.getElem_mem ht)
  have : (K Lv[t].1).getD Lv[t].2 0 ∈ K Lv[t].1 := by
    rw [List.getD_eq_getElem?_getD, List.getElem?_eq_getElem h2]; exact List.getElem_mem h2
  exact H.byte _ h1 _ this

/-- The live source t's current record. -/
theorem WS.current {l : List Rec} {lv : Value} {Lv : List (Nat × Nat)} {cnt : Nat → Nat} {w : World} (h : WS W n P G KV K fa er lb mb mo (Lv.map (·.1)) l lv cnt w) (hp : Pl K n E l Lv cnt) {t : Nat} (ht : t < Lv.length) :
    ∃ kb vb, w.heap[kb]? = some (.cells #[.int .u8 (head K Lv[t]).1] 5 (0, 0)) ∧ w.heap[vb]? = some (.cells #[.int .u8 (head K Lv[t]).2.1, .int .u8 (head K Lv[t]).2.2] 5 (0, 0)) ∧ lv.ownBlock ≠ some kb ∧ lv.ownBlock ≠ some vb ∧ w.cell? ⟨kb, 0, none⟩ = some (.int .u8 (kd K Lv t)) ∧
      w.cell? ⟨W.heap.size, t, none⟩ = some (.iface 39 (.pointer (some ⟨P Lv[t].1, 0, none⟩))) ∧
      Calls Yba.prog 60 #[.pointer (some ⟨P Lv[t].1, 0, none⟩)] w fun e w' => e = .returned (.tuple #[.slice (some ⟨kb, 0, none⟩) 1 1, .slice (some ⟨vb, 0, none⟩) 2 2]) ∧ ∃ m, w' = w.drewN m := by
  obtain ⟨h1, h2, h3⟩ := hp.inn Lv[t] (List.getElem_mem ht)
  obtain ⟨kq, vq, hr, hx⟩ := h.ms.src _ h1
  obtain ⟨kb, vb, ⟨_, o1⟩, ⟨_, o2⟩, rfl, rfl, e1, e2⟩ := hx _ h2 h3
  have hk : (K Lv[t].1)[Lv[t].2] = key K Lv[t] := by simp [key, h2]
  rw [hk] at e1
  refine ⟨kb, vb, e1, e2, o1, o2, ?_, ?_, current_walk w _ _ _ _ _ _ _ _ _ _ _ _ _ hr⟩
  · rw [cell_of e1 0, kd_get K Lv t ht]; rfl
  · have := h.cell (t := t) (by simpa using ht)
    simpa using this

theorem WS.delete {l : List Rec} {lv : Value} {Lv : List (Nat × Nat)} {cnt : Nat → Nat} {w : World} (N : Names W.heap.size n P G sb lb mb) (h : WS W n P G KV K fa er lb mb mo (Lv.map (·.1)) l lv cnt w) (hn : n ≤ 256) {m k : Nat} (hm : m = Lv.length) (hk : k < m) :
    Calls Yba.prog 18 #[.slice (some ⟨W.heap.size, 0, none⟩) m n, .int .i64 k, .int .i64 ((k : Int) + 1)] w fun e w' => e = .returned (.slice (some ⟨W.heap.size, 0, none⟩) (m - 1) n) ∧ WS W n P G KV K fa er lb mb mo ((Lv.take k ++ Lv.drop (k + 1)).map (·.1)) l lv cnt w' := by
  have hH : Holds encS w W.heap.size 0 (((Lv.map (·.1)).map fun i => some (P i)).toArray) := fun j hj => by
    have hj2 : j < (Lv.map (·.1)).length := by simpa using hj
    refine ⟨?_, World.ownsRow.frozenAt h.live _⟩
    rw [Nat.zero_add, h.cell hj2, getElem!_pos _ j hj]
    simp [encS]
  have hcap : (((Lv.map (·.1)).map fun i => some (P i)).toArray).size ≤ n := by
    rcases h.live.2 with ⟨e, _⟩ | ⟨g, cap, cur, e, _, _, hc, _⟩
    · cases e
    · cases e; simpa using hc
  have hd := delete_walk w W.heap.size n k _ hH hcap (by omega) (by simp; omega)
  have hsz : (((Lv.map (·.1)).map fun i => some (P i)).toArray).size = m := by simp [hm]
  rw [hsz, show (((k + 1 : Nat) : Int)) = (k : Int) + 1 by omega] at hd
  refine hd.mono ?_
  rintro e w' ⟨rfl, q, rfl⟩
  refine ⟨rfl, ?_⟩
  have hs := h.struck N (m := k) (q := q) (by simp; omega)
  rw [List.map_append, List.map_take, List.map_drop]
  exact hs

theorem WS.logKept {ids : List Nat} {l : List Rec} {lv : Value} {cnt : Nat → Nat} {w w' : World} (N : Names W.heap.size n P G sb lb mb) (h : WS W n P G KV K fa er lb mb mo ids l lv cnt w) {j : Nat} (hj : j < n) (st : Step (· = P j) w w') : LogAt w' (W.heap.size + 1) lb lv l := by
  have hp := N.lay.p j hj
  refine ⟨?_, ownsRow_step h.log.2 st fun k hk e => ?_⟩
  · rw [st.block lb (lt_of h.log.1) (N.off j hj).1]; exact h.log.1
  · have := (h.ob k hk).1; omega

theorem set_ids (Lv : List (Nat × Nat)) (k : Nat) (p : Nat × Nat) (x : Nat) (hk : k < Lv.length) (hp : p = Lv[k]) : (Lv.set k (p.1, x)).map (·.1) = Lv.map (·.1) := by
  rw [List.map_set]
  apply List.ext_getElem?
  intro t
  rw [List.getElem?_set]
  by_cases e : k = t
  · subst e; subst hp; simp [hk]
  · rw [if_neg e]

/-- A method of the interface's value, found by its name. -/
theorem upon_method {o : Oper} {a : Act} {K : Act → World → Prop} {Q : Exit → Act → World → Prop} {v : Value} {nm : String} {w : World} {k : FuncId × Value → World → Result Next} (f : FuncId) (h : (method 204 39 v nm).run Yba.prog w = .ok (f, v) w) (hk : Oper.upon Yba.prog o a K Q (k (f, v) w)) : Oper.upon Yba.prog o a K Q (((method 204 39 v nm).run Yba.prog w).andThen k) := by
  rw [h]; exact hk

set_option maxHeartbeats 6400000 in
set_option maxRecDepth 1000000 in
theorem merge_walk (g : Nat) (bd : Array Value) (H : MIn W n sb P G KV K fa er E lb mb mo) (hn : n ≤ 256) (eg : ∀ args w, (callFunc g args).run Yba.prog w = .ok (.enter g args) w) (hcb : CB g bd (W.heap.size + 1) lb mb mo cont) :
    Calls Yba.prog 7 #[.slice (some ⟨sb, 0, none⟩) n n, .func (.func g) #[] bd] W (MOut W n P KV K fa er E lb cont) := by
  have HI := hide H
  have HCB := hide hcb
  clear H hcb
  have hm1 := fun W => makeS W n hn
  have H0 := hide (HI.out.start hn)
  go_enter Yba.func7, Yba.ntmps7
  go_wp2
  go_loopg [24, 5] n (fun g v24 v5 wr => ∃ (i m : Nat), v24 = .int .i64 i ∧ v5 = .slice (some ⟨W.heap.size, 0, none⟩) m n ∧ i ≤ n ∧ n - i ≤ g ∧ Hid (m = (live0 K i).length) ∧ Hid (WS W n P G KV K fa er lb mb mo ((live0 K i).map (·.1)) [] (.slice none 0 0) (cnt1 i) wr))
  case atStart => exact ⟨0, 0, rfl, rfl, Nat.zero_le _, Nat.le_refl _, hide rfl, H0⟩
  case round =>
    clear H0
    obtain ⟨i, m, rfl, rfl, hin, hg, hm, hws⟩ := hrel
    by_cases hlt : i < n
    · have hsc := HI.out.src hws.out.step hlt
      by_cases hf : (0 : Int) = fa i
      · obtain ⟨ert, erv, her⟩ := HI.out.fail i hlt (by omega)
        have Her := hide her
        have Hf := hide hf
        have hc := ms_fail hws.out.ms hlt (by rw [cnt1_self]; omega) (by rw [cnt1_self]; exact hf) ert erv her
        clear her hf
        go_wp2_with (first | (refine upon_method 61 (by kernel_rfl) ?_) | (go_at_call 61; refine hc.mono ?_; rintro e w1 ⟨rfl, hst⟩))
        go_ret
        have hpi := HI.out.names.off i hlt
        have hws2 := hws.out
        refine ⟨[], .slice none 0 0, ⟨?_, World.ownsRow_nil _ _ _ _⟩, hws2.step.trans hst fun k _ e => Or.inr ⟨i, hlt, e⟩, ⟨E, rfl⟩, Or.inr (Or.inr ⟨i, hlt, 0, Hf.out.symm, Nat.zero_le _, by rw [Her.out]; rfl, Or.inl ⟨rfl, rfl⟩⟩)⟩
        rw [hst.block lb (lt_of hws2.log.1) hpi.1]; exact hws2.log.1
      · have Hf := hide hf
        clear hf
        by_cases hz : (K i).length = 0
        · have hc := ms_end hws.out.ms HI.out.names.lay hlt (by rw [cnt1_self, hz]) (HI.out.len i hlt) (by rw [cnt1_self]; exact Hf.out)
          have Hz := hide hz
          clear hz
          go_wp2_with (first | (refine upon_method 61 (by kernel_rfl) ?_) | (go_at_call 61; refine hc.mono ?_; rintro e w1 ⟨rfl, hst, hms⟩))
          have hws1 := hws.out.moved HI.out.names hlt hst hms
          rw [cnt1_self, cnt1_succ] at hws1
          go_roundg (n - (i + 1))
          case measure => omega
          case rel => exact ⟨i + 1, m, by go_num, rfl, by omega, Nat.le_refl _, hide (by rw [hm.out, live0, Hz.out]; simp), hide (by rw [live0, Hz.out]; simpa using hws1)⟩
        · have hc := ms_rec hws.out.ms HI.out.names.lay hws.out.size (fun k hk => by simp [Value.ownBlock] at hk) hlt (by rw [cnt1_self]; omega) (HI.out.len i hlt) (by rw [cnt1_self]; exact Hf.out)
          have Hz := hide hz
          clear hz
          go_upto_region 9 with (first | (refine upon_method 61 (by kernel_rfl) ?_) | (go_at_call 61; refine hc.mono ?_; rintro e w1 ⟨rfl, hst, hms⟩))
          have hws1 := hws.out.moved HI.out.names hlt hst hms
          rw [cnt1_self, cnt1_succ] at hws1
          have hlen : ((live0 K i).map (·.1)).length = m := by rw [List.length_map, hm.out]
          have OWN : Hid ((w1.alloc (.cells #[.iface 39 (.pointer (some ⟨P i, 0, none⟩))] 46)).ownsRow W.heap.size 46 1 (.slice (some ⟨W.heap.size, 0, none⟩) m n) m (((live0 K i).map (·.1)).map fun i => encS (some (P i)))) := by
            have h1 := hws1.live
            unfold LiveAt at h1
            rw [hlen] at h1
            exact h1.alloc _
          have NEWS : Hid (∀ k u, [Value.iface 39 (.pointer (some ⟨P i, 0, none⟩))][k]? = some u → (w1.alloc (.cells #[.iface 39 (.pointer (some ⟨P i, 0, none⟩))] 46)).cell? ((⟨w1.heap.size, 0, none⟩ : Addr).add k) = some u) :=
            World.news_of_block (cs := #[.iface 39 (.pointer (some ⟨P i, 0, none⟩))]) (alloc_new w1 _)
          have ONE : Hid (∀ u ∈ [Value.iface 39 (.pointer (some ⟨P i, 0, none⟩))], u.oneCell' = true) := by
            intro u hu; simp at hu; subst hu; rfl
          have hmi : m + 1 ≤ n := by
            have := live0_len K i
            have := hm.out
            omega
          obtain ⟨i46, hi46, _, hs46, _⟩ := infoS_parts
          have Hlen := hide hlen
          have Hws1 := hide hws1
          clear hlen hws1 hc hst hms
          go_wp2_with (at_builtin; refine wpList_append_fits _ rfl (.tmp 37) (.tmp 39) 25 rfl W.heap.size 46 i46 1 Yba.underlying25 hi46 hs46 W.heap.size m n _ rfl OWN.out ⟨w1.heap.size, 0, none⟩ 1 1 [.iface 39 (.pointer (some ⟨P i, 0, none⟩))] rfl rfl NEWS.out ONE.out hmi ?_; intro w4 hown4 hgrow4)
          have hws4 := Hws1.out.grown HI.out.names (i := i) hgrow4 (by rw [Hlen.out]; exact hown4)
          have Hws4 := hide hws4
          clear hws4 hown4 hgrow4
          go_wp2_with fail
          go_roundg (n - (i + 1))
          case measure => omega
          case rel =>
            have e : live0 K (i + 1) = live0 K i ++ [(i, 0)] := by rw [live0, if_pos (by have := Hz.out; omega)]
            exact ⟨i + 1, m + 1, by go_num, rfl, by omega, Nat.le_refl _, hide (by rw [e, List.length_append, hm.out]; rfl), hide (by rw [e, List.map_append]; exact Hws4.out)⟩
    · have hie : i = n := by omega
      subst hie
      have hpl : Pl K i E [] (live0 K i) (cnt1 i) := Pl.start HI.out.up HI.out.asc HI.out.perm fun j hj => by simp [cnt1, hj]
      have Hpl := hide hpl
      clear hpl
      go_wp2_with fail
      go_loopg [5] E.length (fun g v5 wr => ∃ (Lv : List (Nat × Nat)) (l : List Rec) (lv : Value) (cnt : Nat → Nat) (m : Nat), v5 = .slice (some ⟨W.heap.size, 0, none⟩) m i ∧ Hid (m = Lv.length) ∧ E.length - l.length ≤ g ∧ Hid (WS W i P G KV K fa er lb mb mo (Lv.map (·.1)) l lv cnt wr) ∧ Hid (Pl K i E l Lv cnt) ∧ Hid (∀ m, 1 ≤ m → m ≤ l.length → cont m = true))
      case atStart => exact ⟨live0 K i, [], _, cnt1 i, m, rfl, hm, by simp, hws, Hpl, hide fun m h1 h2 => absurd h2 (by simp; omega)⟩
      case round =>
        clear Hpl hws hm
        obtain ⟨Lv, l, lv, cnt, m2, rfl, hm2, hgl, hws, hpl, hct⟩ := hrel
        by_cases h0 : 0 < m2
        · obtain ⟨k1, hk1⟩ : ∃ k1, m2 = k1 + 1 := ⟨m2 - 1, by omega⟩
          subst hk1
          have hki : k1 + 1 ≤ i := by
            rcases hws.out.live.2 with ⟨e, _⟩ | ⟨g, cap, cur, e, _, _, hc, _⟩
            · cases e
            · cases e
              have := hm2.out
              simp at hc
              omega
          obtain ⟨kb, vb, hcur⟩ : ∃ kb vb, Hid (wr.cell? ⟨kb, 0, none⟩ = some (.int .u8 (kd K Lv 0))) ∧ ∃ id0, wr.cell? ⟨W.heap.size, 0, none⟩ = some (.iface 39 (.pointer (some ⟨P id0, 0, none⟩))) ∧ Calls Yba.prog 60 #[.pointer (some ⟨P id0, 0, none⟩)] wr fun e w' => e = .returned (.tuple #[.slice (some ⟨kb, 0, none⟩) 1 1, .slice (some ⟨vb, 0, none⟩) 2 2]) ∧ ∃ m, w' = wr.drewN m := by
            obtain ⟨kb, vb, _, _, _, _, b5, b6, hcur⟩ := hws.out.current hpl.out (t := 0) (by have := hm2.out; omega)
            exact ⟨kb, vb, b5, _, b6, hcur⟩
          obtain ⟨hkb, id0, c0, hcur⟩ := hcur
          go_upto_region 14 with (first | (refine upon_method 60 (by kernel_rfl) ?_) | (go_at_call 60; refine hcur.mono ?_; rintro e w1 ⟨rfl, q, rfl⟩))
          go_cut [53, 54, 55] from 52 to 55 (fun v53 v54 v55 wc => ∃ ao, v53 = .slice ao k1 (i - 1) ∧ v54 = .int .i64 k1 ∧ v55 = .int .i64 0 ∧ Hid (0 < k1 → ao = some ⟨W.heap.size, 1, none⟩) ∧ wc = wr.drewN q)
          case first =>
            by_cases hi1 : i = 1
            · go_wp2_with fail
              go_meet
              case rel => exact ⟨some ⟨W.heap.size, 0, none⟩, by rw [hi1], rfl, rfl, hide (fun h => by omega), rfl⟩
            · go_wp2_with fail
              go_meet
              case rel => exact ⟨_, by simp, rfl, rfl, hide (fun h => rfl), rfl⟩
          case rest =>
          obtain ⟨ao, rfl, rfl, rfl, hao, rfl⟩ := hcut
          clear c0 hcur
          have hws' := hide (hws.out.drewN q)
          have hkb' : Hid ((wr.drewN q).cell? ⟨kb, 0, none⟩ = some (.int .u8 (kd K Lv 0))) := hkb
          generalize wr.drewN q = wd at *
          clear hws hkb
          go_wp2_with fail
          go_loopg [55, 10, 11] k1 (fun g v55 v10 v11 wx => ∃ (t k kb : Nat), v55 = .int .i64 t ∧ v10 = .int .i64 k ∧ v11 = .slice (some ⟨kb, 0, none⟩) 1 1 ∧ t ≤ k1 ∧ k ≤ t ∧ k1 - t ≤ g ∧ Hid (Upto K Lv t k) ∧ Hid (wx.cell? ⟨kb, 0, none⟩ = some (.int .u8 (kd K Lv k))) ∧ Hid (WS W i P G KV K fa er lb mb mo (Lv.map (·.1)) l lv cnt wx))
          case atStart => exact ⟨0, 0, kb, rfl, rfl, rfl, Nat.zero_le _, Nat.le_refl _, Nat.le_refl _, hide (Upto.zero K Lv), hkb', hws'⟩
          case round =>
            clear hws' hkb'
            obtain ⟨t, k, kc, rfl, rfl, rfl, htk, hkt, hg3, hup, hkc, hws⟩ := hrel
            by_cases hlt2 : t < k1
            · obtain ⟨kb2, vb2, hcur⟩ : ∃ kb2 vb2, Hid (wr.cell? ⟨kb2, 0, none⟩ = some (.int .u8 (kd K Lv (t + 1)))) ∧ ∃ id0, wr.cell? ⟨W.heap.size, 1 + t, none⟩ = some (.iface 39 (.pointer (some ⟨P id0, 0, none⟩))) ∧ Calls Yba.prog 60 #[.pointer (some ⟨P id0, 0, none⟩)] wr fun e w' => e = .returned (.tuple #[.slice (some ⟨kb2, 0, none⟩) 1 1, .slice (some ⟨vb2, 0, none⟩) 2 2]) ∧ ∃ m, w' = wr.drewN m := by
                obtain ⟨kb, vb, _, _, _, _, b5, b6, hcur⟩ := hws.out.current hpl.out (t := t + 1) (by have := hm2.out; omega)
                exact ⟨kb, vb, b5, _, by rw [Nat.add_comm]; exact b6, hcur⟩
              obtain ⟨hkb2, id2, c2, hcur⟩ := hcur
              have haoe := hao.out (by omega)
              subst haoe
              have hbx := kd_byte HI.out hpl.out (t := t + 1) (by have := hm2.out; omega)
              have hby := kd_byte HI.out hpl.out (t := k) (by have := hm2.out; omega)
              have hcmp := fun q => compare1_walk (wr.drewN q) kb2 kc (kd K Lv (t + 1)) (kd K Lv k) hbx.1 hbx.2 hby.1 hby.2 hkb2.out hkc.out
              clear hbx hby
              go_wp2_with (first | (refine upon_method 60 (by kernel_rfl) ?_) | (go_at_call 60; refine hcur.mono ?_; rintro e w1 ⟨rfl, q, rfl⟩) | (go_at_call 17; refine (hcmp _).mono ?_; rintro e w2 ⟨z, rfl, hz, rfl⟩))
              · go_roundg (k1 - (t + 1))
                case measure => omega
                case rel =>
                  rename_i hz0
                  exact ⟨t + 1, t + 1, kb2, by go_num, by go_num, rfl, by omega, Nat.le_refl _, Nat.le_refl _, hide (hup.out.less (hz.out.1 hz0)), hkb2, hide (hws.out.drewN _)⟩
              · go_roundg (k1 - (t + 1))
                case measure => omega
                case rel =>
                  rename_i hz0
                  exact ⟨t + 1, k, kc, by go_num, rfl, rfl, by omega, by omega, Nat.le_refl _, hide (hup.out.more (fun h => by have := hz.out.2 h; omega)), hkc, hide (hws.out.drewN _)⟩
            · have hte : t = k1 := by omega
              subst hte
              have hkl : k < Lv.length := by have := hm2.out; omega
              have HY := hide (hpl.out.yield hkl (hup.out.least hm2.out))
              obtain ⟨p, Hp⟩ : ∃ p, Hid (p = Lv[k]) := ⟨_, hide rfl⟩
              rw [← Hp.out] at HY
              obtain ⟨kb3, vb3, hcur⟩ : ∃ kb3 vb3, wr.cell? ⟨W.heap.size, k, none⟩ = some (.iface 39 (.pointer (some ⟨P p.1, 0, none⟩))) ∧ Calls Yba.prog 60 #[.pointer (some ⟨P p.1, 0, none⟩)] wr (fun e w' => e = .returned (.tuple #[.slice (some ⟨kb3, 0, none⟩) 1 1, .slice (some ⟨vb3, 0, none⟩) 2 2]) ∧ ∃ m, w' = wr.drewN m) ∧
                  ∀ q, Calls Yba.prog g (#[.slice (some ⟨kb3, 0, none⟩) 1 1, .slice (some ⟨vb3, 0, none⟩) 2 2] ++ bd) (wr.drewN q) fun e w' => e = .returned (.bool (cont (l.length + 1))) ∧ Step (fun k => k = lb ∨ lv.ownBlock = some k) (wr.drewN q) w' ∧ ∃ lv', LogAt w' (W.heap.size + 1) lb lv' (l ++ [head K p]) ∧ ∀ k, lv'.ownBlock = some k → lv.ownBlock = some k ∨ (wr.drewN q).heap.size ≤ k := by
                obtain ⟨kb, vb, b1, b2, b3, b4, _, b6, hcur⟩ := hws.out.current hpl.out hkl
                rw [← Hp.out] at b1 b2 b6 hcur
                refine ⟨kb, vb, b6, hcur, fun q => ?_⟩
                have hw2 := hws.out.drewN q
                have hN := HI.out.names
                refine HCB.out (wr.drewN q) lv l (head K p) kb vb hw2.log hw2.size ?_ (fun e => ?_) (fun e => ?_) hw2.mbk b3 b4 b1 b2
                · have h1 : l.length ≤ E.length := by
                    obtain ⟨E', e, _⟩ := hpl.out.rest
                    rw [e, List.length_append]; omega
                  have := HI.out.small
                  omega
                · have := (hw2.ob _ e).1; have := hN.lbl; omega
                · have := (hw2.ob _ e).1; have := hN.mbl; omega
              obtain ⟨c3, hcur, hcall⟩ := hcur
              have hkr : (k : Int) < (t : Int) + 1 := by omega
              go_wp2_with (first | (refine upon_method 60 (by kernel_rfl) ?_) | (go_at_call 60; refine hcur.mono ?_; rintro e w1 ⟨rfl, q, rfl⟩))
              refine (hcall q).mono ?_
              rintro e w2 ⟨rfl, hst2, lv', hlog2, hob2⟩
              have Hws2 := hide ((hws.out.drewN q).yielded HI.out.names hst2 hlog2 hob2)
              clear hst2 hlog2 hob2 hcall hcur c3 hws hkc hup
              cases hcont : cont (l.length + 1)
              · go_wp2_with fail
                go_ret
                have hw2 := Hws2.out
                exact ⟨l ++ [head K p], lv', hw2.log, hw2.step, HY.out.2.1, Or.inr (Or.inl ⟨rfl, by simp, by rw [List.length_append]; exact hcont, fun m h1 h2 => hct.out m h1 (by simp at h2; omega)⟩)⟩
              · have Hct : Hid (∀ m, 1 ≤ m → m ≤ (l ++ [head K p]).length → cont m = true) := hide fun m h1 h2 => by
                  by_cases e : m = l.length + 1
                  · subst e; exact hcont
                  · exact hct.out m h1 (by simp at h2; omega)
                obtain ⟨hp1, hp2, hp3⟩ := hpl.out.inn p (by rw [Hp.out]; exact List.getElem_mem hkl)
                have hlE : l.length < E.length := (List.getElem?_eq_some_iff.1 HY.out.1).1
                have c4 : w2.cell? ⟨W.heap.size, k, none⟩ = some (.iface 39 (.pointer (some ⟨P p.1, 0, none⟩))) := by
                  have := Hws2.out.cell (t := k) (by simpa using hkl)
                  rw [this, Hp.out]
                  simp
                have hK := HI.out.len p.1 hp1
                have Hp3 := hide hp3
                clear hp3
                by_cases hf : ((p.2 + 1 : Nat) : Int) = fa p.1
                · obtain ⟨ert, erv, her⟩ := HI.out.fail p.1 hp1 (by omega)
                  have hc := ms_fail Hws2.out.ms hp1 (by rw [Hp3.out]; omega) (by rw [Hp3.out]; exact hf) ert erv her
                  have Her := hide her
                  have Hf := hide hf
                  clear her hf
                  go_wp2_with (first | (refine upon_method 61 (by kernel_rfl) ?_) | (go_at_call 61; refine hc.mono ?_; rintro e w3 ⟨rfl, hst3⟩))
                  go_ret
                  refine ⟨l ++ [head K p], lv', Hws2.out.logKept HI.out.names hp1 hst3, Hws2.out.step.trans hst3 fun k _ e => Or.inr ⟨p.1, hp1, e⟩, HY.out.2.1, Or.inr (Or.inr ⟨p.1, hp1, p.2 + 1, Hf.out.symm, by omega, by rw [Her.out]; rfl, Or.inr ⟨p.2, rfl, by simp, ?_⟩⟩)⟩
                  have := HY.out.1
                  simpa using this
                · have Hf := hide hf
                  clear hf
                  by_cases hr : p.2 + 1 < (K p.1).length
                  · have hc := ms_rec Hws2.out.ms HI.out.names.lay Hws2.out.size (fun k hk => (Hws2.out.ob k hk).2) hp1 (by rw [Hp3.out]; exact hr) hK (by rw [Hp3.out]; exact Hf.out)
                    go_wp2_with (first | (refine upon_method 61 (by kernel_rfl) ?_) | (go_at_call 61; refine hc.mono ?_; rintro e w3 ⟨rfl, hst3, hms3⟩))
                    have hws3 := Hws2.out.moved HI.out.names hp1 hst3 hms3
                    rw [Hp3.out] at hws3
                    go_roundg (E.length - (l.length + 1))
                    case measure => omega
                    case rel => exact ⟨Lv.set k (p.1, p.2 + 1), l ++ [head K p], lv', upd cnt p.1 (p.2 + 2), t + 1, rfl, hide (by rw [List.length_set]; exact hm2.out), by simp, hide (by rw [set_ids Lv k p _ hkl Hp.out]; exact hws3), hide (HY.out.2.2.1 hr), Hct⟩
                  · have hc := ms_end Hws2.out.ms HI.out.names.lay hp1 (by rw [Hp3.out]; omega) hK (by rw [Hp3.out]; exact Hf.out)
                    go_upto_region 27 with (first | (refine upon_method 61 (by kernel_rfl) ?_) | (go_at_call 61; refine hc.mono ?_; rintro e w3 ⟨rfl, hst3, hms3⟩))
                    have hws3 := Hws2.out.moved HI.out.names hp1 hst3 hms3
                    rw [Hp3.out] at hws3
                    have hdel := hws3.delete HI.out.names hn hm2.out (k := k) (by omega)
                    clear hws3 hst3 hms3
                    go_wp2_with (go_at_call 18; refine hdel.mono ?_; rintro e w4 ⟨rfl, hws4⟩)
                    go_roundg (E.length - (l.length + 1))
                    case measure => omega
                    case rel => exact ⟨Lv.take k ++ Lv.drop (k + 1), l ++ [head K p], lv', upd cnt p.1 (p.2 + 2), t, by simp, hide (by have := hm2.out; simp; omega), by simp, hide hws4, hide (HY.out.2.2.2 (by omega)), Hct⟩
        · have hL : Lv = [] := List.eq_nil_of_length_eq_zero (by have := hm2.out; omega)
          subst hL
          go_wp2_with fail
          go_ret
          obtain ⟨d1, d2⟩ := hpl.out.done
          have hws2 := hws.out
          refine ⟨l, lv, hws2.log, hws2.step, ⟨[], by rw [d1, List.append_nil]⟩, Or.inl ⟨rfl, d1, hct.out, fun j hj => ?_⟩⟩
          have hc := d2 j hj
          obtain ⟨key, val, hr, _⟩ := hws2.ms.src j hj
          rw [hc] at hr
          refine ⟨⟨key, val, ?_⟩, fun c hcl => hws2.ms.pass j hj c (by omega)⟩
          rw [show (((K j).length + 1 : Nat) : Int) - 1 = ((K j).length : Int) by omega] at hr
          exact hr
end Go.Proofs.Ybulkbkdi
