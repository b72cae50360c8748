/-
  Seat b3050a: slices.Clone off the shelf; slices.Sort of no element.
-/
import Derived.Test.YbulkbkdiPdq
import Derived.Shelf.SlGeneric
import Derived.Shelf.SlicesE.Clone
import Derived.Ground.SlgnProg
namespace Go.Proofs.Ybulkbkdi
open Go.Shelf Go.RowKit Go.Lib Go.Sort

shelf_lay_g SlLaysE0.n41 Slgn 41 at Yba 12 as Yba.lay12

theorem info5 : (Yba.prog.info? 5).map (fun i => (i.zero, i.size, i.bytes)) = some (some (.int .u8 0), 1, 1) := by kernel_rfl
theorem info5_parts : ∃ i, Yba.prog.info? 5 = some i ∧ i.zero = some (.int .u8 0) ∧ i.size = 1 ∧ i.bytes = 1 := by
  have h := info5
  cases hi : Yba.prog.info? 5 with
  | none => rw [hi] at h; simp at h
  | some i => rw [hi] at h; simp at h; exact ⟨i, rfl, h.1, h.2.1, h.2.2⟩

theorem clone_walk (W : World) (q : Option Addr) (c : Nat) (xs : List Int) (hq : q = none → xs = []) (hlen : xs.length < 100000) (hc : ∀ b o s, q = some ⟨b, o, s⟩ → s = none ∧ ∀ t (h : t < xs.length), W.cell? ⟨b, o + t, none⟩ = some (.int .u8 xs[t])) :
    Calls Yba.prog 12 #[.slice q xs.length c] W fun e w' => ∃ v, e = .returned v ∧ w'.ownsRow W.heap.size 5 1 v xs.length (xs.map (Value.int .u8)) ∧ Below W.heap.size W w' := by
  obtain ⟨i5, hi, hz, hs, hb⟩ := info5_parts
  cases q with
  | none =>
    have hx := hq rfl
    subst hx
    have h := AnyE.slices_Clone_nil Yba.lay12 0 c W
    change Calls Yba.prog 12 _ _ _ at h
    refine h.mono ?_
    rintro e w' ⟨rfl, rfl⟩
    exact ⟨_, rfl, World.ownsRow_nil _ _ _ _, Below.refl _ _⟩
  | some a =>
    obtain ⟨b, o, s⟩ := a
    obtain ⟨rfl, hcc⟩ := hc b o s rfl
    have h := AnyE.slices_Clone Yba.lay12 i5 (.int .u8 0) 1 1 hi hz hs hb rfl (by decide) Yba.sizeOf5 b o xs.length c (xs.map (Value.int .u8)) W (by simp) (by unfold maxLen; omega) (by omega)
      (fun j u hj => by
        have hj2 : j < xs.length := by have := (List.getElem?_eq_some_iff.1 hj).1; simpa using this
        rw [hcc j hj2]
        rw [List.getElem?_map, List.getElem?_eq_getElem hj2] at hj
        exact hj) (fun u hu => by obtain ⟨x, _, rfl⟩ := List.mem_map.1 hu; rfl)
    change Calls Yba.prog 12 _ _ _ at h
    refine h.mono ?_
    rintro e w' ⟨v, rfl, h1, _, h3⟩
    exact ⟨v, rfl, h1, h3⟩

set_option maxHeartbeats 1600000 in
set_option maxRecDepth 1000000 in
theorem insertion_none (q : Option Addr) (cap : Nat) (w : World) : Calls Yba.prog 24 #[.slice q 0 cap, .int .i64 0, .int .i64 0] w fun e w' => e = .returned (.tuple #[]) ∧ w' = w := by
  go_enter Yba.func24, Yba.ntmps24
  go_wp2
  refine wp_loop_rounds 1 ?_
  rw [rounds_succ]
  go_wp2
  go_end0
  exact ⟨rfl, rfl⟩

set_option maxHeartbeats 1600000 in
set_option maxRecDepth 1000000 in
theorem pdq_none (q : Option Addr) (cap : Nat) (w : World) : Calls Yba.prog 19 #[.slice q 0 cap, .int .i64 0, .int .i64 0, .int .i64 0] w fun e w' => e = .returned (.tuple #[]) ∧ w' = w := by
  go_enter Yba.func19, Yba.ntmps19
  go_wp2
  refine wp_loop_rounds 1 ?_
  rw [rounds_succ]
  go_wp2_with (go_at_call 24; refine (insertion_none q cap _).mono ?_; rintro e w' ⟨rfl, rfl⟩)
  refine bodyPost_ret (results_none rfl _ _ _) rfl ?_
  exact ⟨rfl, rfl⟩

set_option maxHeartbeats 1600000 in
set_option maxRecDepth 1000000 in
theorem sort_none (q : Option Addr) (cap : Nat) (w : World) : Calls Yba.prog 13 #[.slice q 0 cap] w fun e w' => e = .returned (.tuple #[]) ∧ w' = w := by
  have hLen : ∀ w, Calls Yba.prog 20 #[.int .u64 0] w fun e w' => e = .returned (.int .i64 0) ∧ w' = w := fun w => Yba.bits_Len 0 w (by omega) (by omega)
  go_enter Yba.func13, Yba.ntmps13
  go_wp2_with (first
    | (go_at_call 20; refine (hLen _).mono ?_; rintro e w' ⟨rfl, rfl⟩)
    | (go_at_call 19; refine (pdq_none q cap _).mono ?_; rintro e w' ⟨rfl, rfl⟩))
  go_end0
  exact ⟨rfl, rfl⟩
end Go.Proofs.Ybulkbkdi
