/-
  Seat b3054a: the walks of zzs3054bkey (10) and zzs3054bnew (9).
-/
import Derived.Test.YbulkbkfmParts
import Derived.Laws.BytesArg
import Derived.Laws.AppendOwnNone
import Derived.Outline
namespace Go.Proofs.Ybulkbkfm
open Go.RowKit
set_option linter.unusedVariables false

theorem info5 : (Yba.prog.info? 5).map (fun i => (i.zero, i.size, i.bytes)) = some (some (.int .u8 0), 1, 1) := by kernel_rfl

/-- The number that decimal digits spell. -/
def decI : List Int → Int
  | [] => 0
  | x :: l => (x - 48) * 10 ^ l.length + decI l

/-- The number that a key spells behind its first byte. -/
def keyVal (s : ByteArray) : Int := decI (s.data.toList.tail.map fun c => (c.toNat : Int))

theorem nums_back : ∀ (xs : List Int), (∀ x ∈ xs, 48 ≤ x ∧ x ≤ 57) → (xs.map fun n => UInt8.ofNat n.toNat).map (fun c => (c.toNat : Int)) = xs
  | [], _ => rfl
  | x :: xs, h => by
    have hx := h x (by simp)
    simp only [List.map_cons, nums_back xs (fun y hy => h y (by simp [hy]))]
    congr 1
    rw [UInt8.toNat_ofNat']
    omega

theorem keyVal_of (xs : List Int) (h : ∀ x ∈ xs, 48 ≤ x ∧ x ≤ 57) : keyVal (⟨#[107]⟩ ++ strOfNums xs) = decI xs := by
  have e : (⟨#[107]⟩ ++ strOfNums xs : ByteArray).data.toList = 107 :: (xs.map fun n => UInt8.ofNat n.toNat) := by
    simp [strOfNums]
  rw [keyVal, e, List.tail_cons, nums_back xs h]

theorem dec_step (n i : Nat) (xs : List Int) (h : (n : Int) = i * 10 ^ xs.length + decI xs) : (n : Int) = ((i / 10 : Nat) : Int) * 10 ^ (xs.length + 1) + decI ((48 + (i : Int) % 10) :: xs) := by
  have hq : (i : Int) = 10 * ((i / 10 : Nat) : Int) + (i : Int) % 10 := by omega
  simp only [decI]
  rw [Int.pow_succ]
  generalize (10 : Int) ^ xs.length = p at h ⊢
  generalize decI xs = d at h ⊢
  generalize ((i / 10 : Nat) : Int) = q at hq ⊢
  generalize (i : Int) % 10 = r at hq ⊢
  rw [hq] at h
  have e1 : (10 * q + r) * p = 10 * (q * p) + r * p := by rw [Int.add_mul, Int.mul_assoc]
  have e2 : q * (p * 10) = 10 * (q * p) := by rw [← Int.mul_assoc, Int.mul_comm]
  have e3 : (48 + r - 48) * p = r * p := by rw [show (48 + r - 48 : Int) = r by omega]
  rw [e1] at h
  rw [e2, e3]
  omega

theorem digit_ok (i : Nat) (xs : List Int) (h : ∀ x ∈ xs, 48 ≤ x ∧ x ≤ 57) : ∀ x ∈ (48 + (i : Int) % 10) :: xs, 48 ≤ x ∧ x ≤ 57 := by
  intro x hx
  rcases List.mem_cons.1 hx with rfl | hx
  · omega
  · exact h x hx

set_option maxHeartbeats 1600000 in
theorem key_any (n : Nat) (hn : n ≤ 2000) (w : World) :
    Calls Yba.prog 10 #[.int .i64 n] w fun e w' => ∃ s, e = .returned (.string s) ∧ keyVal s = n ∧ Below w.heap.size w w' := by
  by_cases h0 : n = 0
  · subst h0
    go_enter Yba.func10, Yba.ntmps10
    go_wp2
    go_ret
    exact ⟨_, rfl, by decide +kernel, Below.refl _ _⟩
  · obtain ⟨i5, hi5, hz5, hs5, hb5⟩ := info_parts info5
    have hpos : (0 : Int) < n := by omega
    go_enter Yba.func10, Yba.ntmps10
    go_wp2
    go_loopw [0, 3] (fun t v wr => ∃ (i : Nat) (xs : List Int), t = .int .i64 i ∧ (n : Int) = i * 10 ^ xs.length + decI xs ∧ (∀ x ∈ xs, 48 ≤ x ∧ x ≤ 57) ∧ xs.length + i ≤ 2000 ∧ wr.ownsRow w.heap.size 5 1 v xs.length (xs.map (Value.int .u8)) ∧ Below w.heap.size w wr) (fun t _ _ => (intOf t).toNat)
    case atStart => exact ⟨n, [], rfl, by simp [decI], by simp, by simpa using hn, World.ownsRow_nil _ _ _ _, Below.refl _ _⟩
    case round =>
      obtain ⟨i, xs, rfl, hdec, hdig, hsm, hown, hB⟩ := hrel
      have hbs := hB.size
      have Hdec := hide hdec
      have Hdig := hide hdig
      have Hown := hide hown
      have HB := hide hB
      clear hdec hdig hown hB
      by_cases hi : 0 < (i : Int)
      · have hi10 : 0 ≤ (i : Int) % 10 ∧ (i : Int) % 10 ≤ 9 := by omega
        have hlit := World.ownsRow_lit (base := w.heap.size) (e := 5) (size := 1) wr #[.int .u8 (48 + (i : Int) % 10)] 1 hbs (by decide) rfl
        rcases (unhide Hown).2 with ⟨rfl, hl0⟩ | ⟨g, cap, cur, rfl, hrest⟩
        · have hx0 : xs = [] := List.eq_nil_of_length_eq_zero hl0
          subst hx0
          have Hlit := hide hlit
          clear hlit
          go_wp2_with (at_builtin; refine wpList_append_own_none rfl (.tmp 12) (.tmp 13) 56 rfl w.heap.size 5 i5 1 Yba.underlying56 hi5 _ _ _ rfl (unhide Hlit) rfl ?_)
          go_roundw
          case rel => exact ⟨i / 10, [48 + (i : Int) % 10], by go_num, dec_step n i [] (unhide Hdec), digit_ok i [] (unhide Hdig), by simp; omega, by simpa using unhide Hlit, (unhide HB).alloc hbs _⟩
          case measure => simp [intOf]; omega
        · have Hlit := hide hlit
          clear hlit hrest
          go_wp2_with (at_builtin; refine wpList_append_own _ rfl (.tmp 12) (.tmp 13) 56 rfl w.heap.size 5 i5 (.int .u8 0) 1 1 Yba.underlying56 hi5 hz5 hs5 hb5 rfl (by decide) _ _ _ rfl (unhide Hlit) ⟨g, 0, none⟩ xs.length cap (xs.map (Value.int .u8)) rfl (by simp) ?c1 ?c2 ?c3 ?c4 ?c5 ?_)
          case c1 =>
            intro q u hq
            have hql := (List.getElem?_eq_some_iff.1 hq).1
            rw [((unhide Hown).alloc _).cellAt q (by omega)]
            simp [hq]
          case c2 => intro u _; rfl
          case c3 => unfold maxLen; omega
          case c4 => omega
          case c5 => omega
          · intro v' w1 hown1 hg1 _
            have HB1 : Hid (Below w.heap.size w w1) := ((unhide HB).alloc hbs _).grown hg1 (by simp; omega) (fun k hk => by simp [Value.ownBlock] at hk; omega)
            have Hown1 := hide hown1
            clear hown1 hg1
            go_wp2
            go_roundw
            case rel => exact ⟨i / 10, (48 + (i : Int) % 10) :: xs, by go_num, dec_step n i xs (unhide Hdec), digit_ok i xs (unhide Hdig), by simp; omega, by have h := unhide Hown1; rw [Nat.add_comm] at h; simpa using h, unhide HB1⟩
            case measure => simp [intOf]; omega
      · have hi0 : i = 0 := by omega
        subst hi0
        have hdec := unhide Hdec
        rcases (unhide Hown).2 with ⟨rfl, hl0⟩ | ⟨g, cap, cur, rfl, hrest⟩
        · have hx0 : xs = [] := List.eq_nil_of_length_eq_zero hl0
          subst hx0
          simp [decI] at hdec
          omega
        · have hcv := run_convert_bytes_arg (P := Yba.prog) wr 56 5 Yba.underlying56 Yba.underlying5 g 0 xs.length cap xs rfl (fun j hj => by
            have h := (unhide Hown).cellAt j (by omega)
            rw [Nat.zero_add, h]
            simp [List.getD, hj]) 9 Yba.underlying9
          have hsz := strOfNums_size xs
          have e1 : (⟨#[107]⟩ : ByteArray).size = 1 := rfl
          clear hdec hrest
          go_wp2
          go_ret
          exact ⟨_, rfl, by rw [keyVal_of xs (unhide Hdig)]; have := unhide Hdec; simpa using this.symm, unhide HB⟩

set_option maxHeartbeats 400000 in
/-- zzs3054bnew: two empty maps and the folder's struct. -/
theorem new_any (s : ByteArray) (w : World) :
    Calls Yba.prog 9 #[.string s] w fun e w' => e = .returned (.pointer (some ⟨w.heap.size + 2, 0, none⟩)) ∧
      w' = ((w.alloc (.map #[] 0)).alloc (.map #[] 0)).alloc (.cells #[.string s, .string ⟨#[]⟩, .int .u64 0, .int .i64 0, .pointer none, .int .u64 0, .map (some w.heap.size), .map (some (w.heap.size + 1))] 52) := by
  have hmm := @run_makeMap Yba.prog
  go_enter Yba.func9, Yba.ntmps9
  go_wp2
  go_ret
  exact ⟨rfl, rfl⟩

end Go.Proofs.Ybulkbkfm
