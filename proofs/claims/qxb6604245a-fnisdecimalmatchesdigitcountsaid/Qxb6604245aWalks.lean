import Derived.Test.Qxb6604245aRows
import Derived.Test.Qxb6604245aPlain
import Derived.WalkKit
import Derived.WalkSpells
import Derived.ProofKit
namespace Go.Proofs.Qxb6604245a.W
open Go.ChangeShapes Go.WideShapes Go.ChangeAt Go.RowKit
open Plain

theorem ret_bool {a b : Bool} (h : a = b) : Ending.returned (.bool a) = .returned (.bool b) := by rw [h]

theorem take_snoc (s : ByteArray) (k : Nat) (h : k < s.size) : s.data.toList.take (k + 1) = s.data.toList.take k ++ [s[k]] := by
  rw [List.take_succ_eq_append_getElem (by simpa using h)]; rfl

/-- The bound's test: it only computes. -/
theorem bytes_any (s : ByteArray) (w : World) (hs : s.size ≤ maxLen) :
    Calls Try.prog 4 #[.string s] w fun e w' => e = .returned (.bool (decide (s.size ≤ 1048576))) ∧ w' = w := by
  unfold maxLen at hs
  by_cases h : s.size ≤ 1048576
  · go_enter Try.func4, Try.ntmps4
    go_wp2
    go_ret
    exact ⟨ret_bool (by simp [h]), rfl⟩
  · go_enter Try.func4, Try.ntmps4
    go_wp2
    go_ret
    exact ⟨ret_bool (by simp [h]), rfl⟩

/-- The model's test of a byte, as the walk spells it. -/
theorem dig_yes {c : UInt8} (h : ((c.toNat : Int) - 48) % 256 < 10) : dig c = true := by
  have := c.toNat_lt
  unfold dig; simp; omega
theorem dig_no {c : UInt8} (h : 10 ≤ ((c.toNat : Int) - 48) % 256) : dig c = false := by
  have := c.toNat_lt
  unfold dig; simp; omega

theorem count_yes (l : List UInt8) (n : Nat) (hn : l.length = n) (h : 0 < cnt l) : ((cnt l : Int) == (n : Int)) = isDec l := by
  rw [← count_law, ← hn, Bool.eq_iff_iff]; simp; omega
theorem count_no (l : List UInt8) (h : ¬ 0 < cnt l) : false = isDec l := by
  rw [← count_law]; simp [h]

set_option maxHeartbeats 400000 in
theorem model_any (s : ByteArray) (w : World) (hs : s.size ≤ 1048576) :
    Calls Try.prog 6 #[.string s] w fun e w' => e = .returned (.bool (isDec s.data.toList)) ∧ w' = w := by
  go_enter Try.func6, Try.ntmps6
  go_wp2
  go_loop [3, 4] (fun n i => ∃ k : Nat, k ≤ s.size ∧ i = .int .i64 k ∧ n = .int .i64 (cnt (s.data.toList.take k) : Nat)) (fun _ i => s.size - (intOf i).toNat)
  case atStart => exact ⟨0, Nat.zero_le _, rfl, rfl⟩
  case round =>
    obtain ⟨k, hk, rfl, rfl⟩ := hrel
    have hd := cnt_le (s.data.toList.take k)
    have hl : (s.data.toList.take k).length ≤ k := List.length_take_le _ _
    by_cases hlt : k < s.size
    · have hts := take_snoc s k hlt
      have HS : Hid (cnt (s.data.toList.take (k + 1)) = cnt (s.data.toList.take k) + if dig s[k] = true then 1 else 0) := by rw [hts]; exact cnt_snoc _ _
      clear hts
      go_wp2
      · have hy : dig s[k] = true := dig_yes ‹_›
        go_round
        case rel => exact ⟨k + 1, by omega, by go_num, by rw [HS.out, if_pos hy]; go_num⟩
        case measure => simp [intOf]; omega
      · have hy : dig s[k] = false := dig_no ‹_›
        go_round
        case rel => exact ⟨k + 1, by omega, by go_num, by rw [HS.out, hy]; simp⟩
        case measure => simp [intOf]; omega
    · have ht : s.data.toList.take k = s.data.toList := List.take_of_length_le (by simp; omega)
      have HT : Hid (s.data.toList.take k = s.data.toList) := ht
      clear ht
      go_wp2
      · go_ret
        exact ⟨ret_bool (by rw [HT.out] at *; exact count_yes _ _ (by simp) ‹_›), rfl⟩
      · go_ret
        exact ⟨ret_bool (by rw [HT.out] at *; exact count_no _ ‹_›), rfl⟩

/-- What '[]byte(s)' leaves: the bytes in a new row; what was there stands. -/
theorem bytes_row (s : ByteArray) (w : World) : ∃ C c fr, (convert 9 23 (.string s)).run Try.prog w = .ok (.slice (some ⟨w.heap.size, 0, none⟩) s.size c) ((w.alloc (.cells C 5 fr)).drew) ∧
    (∀ j (h : j < s.size), (w.alloc (.cells C 5 fr)).cell? ⟨w.heap.size, j, none⟩ = some (.int .u8 (s[j].toNat : Int))) := by
  refine ⟨_, _, _, run_bytes_of_string w 9 23 5 s Try.underlying9 Try.underlying23 Try.underlying5, fun j h => ?_⟩
  rw [World.cell?_alloc_mark]
  exact bytesRow_at s _ j h

theorem isDec_no (s : ByteArray) (k : Nat) (h : k < s.size) (hn : dig s[k] = false) : false = isDec s.data.toList := by
  unfold isDec
  have : s.data.toList.all dig = false := by
    rw [List.all_eq_false]
    exact ⟨s[k], List.getElem_mem (l := s.data.toList) (n := k) (by simpa using h), by rw [hn]; decide⟩
  rw [this, Bool.and_false]

set_option maxHeartbeats 400000 in
theorem isDecimal_any (s : ByteArray) (w : World) (hs : s.size ≤ 1048576) :
    Calls Try.prog 7 #[.string s] w fun e w' => e = .returned (.bool (isDec s.data.toList)) ∧ Below w.heap.size w w' := by
  obtain ⟨C, c, fr, hconv, hcell⟩ := bytes_row s w
  go_enter Try.func7, Try.ntmps7
  go_wp2
  go_loop [4, 8] (fun x i => ∃ k : Nat, k ≤ s.size ∧ i = .int .i64 k ∧ (s.data.toList.take k).all dig = true) (fun _ i => s.size - (intOf i).toNat)
  case atStart => exact ⟨0, Nat.zero_le _, rfl, by simp⟩
  case round =>
    obtain ⟨k, hk, rfl, ha⟩ := hrel
    have HA : Hid ((s.data.toList.take k).all dig = true) := ha
    clear ha
    by_cases hlt : k < s.size
    · have hts := take_snoc s k hlt
      have HS : Hid ((s.data.toList.take (k + 1)).all dig = ((s.data.toList.take k).all dig && dig s[k])) := by rw [hts]; exact all_snoc _ _
      have hck := hcell k hlt
      clear hts hcell
      go_wp2
      · have hn : dig s[k] = false := by unfold dig; simp; omega
        go_ret
        exact ⟨ret_bool (isDec_no s k hlt hn), (Below.refl _ _).alloc (Nat.le_refl _) _ |>.drew⟩
      · have hy : dig s[k] = true := by unfold dig; simp; omega
        go_round
        case rel => exact ⟨k + 1, by omega, by go_num, by rw [HS.out, HA.out, hy]; rfl⟩
        case measure => simp [intOf]; omega
      · have hn : dig s[k] = false := by unfold dig; simp; omega
        go_ret
        exact ⟨ret_bool (isDec_no s k hlt hn), (Below.refl _ _).alloc (Nat.le_refl _) _ |>.drew⟩
    · have HT : Hid (s.data.toList.all dig = true) := by
        have := HA.out
        rwa [List.take_of_length_le (by simp; omega)] at this
      clear hcell
      go_wp2
      go_ret
      exact ⟨ret_bool (by rw [isDec, HT.out, ByteArray.toList_eq, Bool.and_true]), (Below.refl _ _).alloc (Nat.le_refl _) _ |>.drew⟩

theorem zzisDecimal_any (s : ByteArray) (w : World) (hs : s.size ≤ 1048576) :
    Calls Try.prog 5 #[.string s] w fun e w' => e = .returned (.bool (isDec s.data.toList)) ∧ Below w.heap.size w w' := by
  go_enter Try.func5, Try.ntmps5
  go_wp2_with (go_at_call 7; refine (isDecimal_any _ _ hs).mono ?_; rintro e w' ⟨rfl, hb⟩)
  go_ret
  exact ⟨rfl, hb⟩

/-- The law. -/
theorem law_any (s : ByteArray) (w : World) (hs : s.size ≤ maxLen) :
    Calls Try.prog 3 #[.string s] w fun e w' => e = .returned (.bool true) ∧ Below w.heap.size w w' := by
  by_cases h : s.size ≤ 1048576
  · have hd : decide (s.size ≤ 1048576) = true := by simp [h]
    go_enter Try.func3, Try.ntmps3
    go_wp2_with (first | (go_at_call 4; refine (bytes_any _ _ hs).mono ?_; rintro e w' ⟨rfl, rfl⟩) | (go_at_call 5; refine (zzisDecimal_any _ _ h).mono ?_; rintro e w' ⟨rfl, hb⟩) | (go_at_call 6; refine (model_any _ _ h).mono ?_; rintro e w' ⟨rfl, rfl⟩))
    go_ret
    exact ⟨ret_bool (by simp), hb⟩
  · have hd : decide (s.size ≤ 1048576) = false := by simp [h]
    go_enter Try.func3, Try.ntmps3
    go_wp2_with (first | (go_at_call 4; refine (bytes_any _ _ hs).mono ?_; rintro e w' ⟨rfl, rfl⟩))
    go_ret
    exact ⟨rfl, Below.refl _ _⟩
end Go.Proofs.Qxb6604245a.W
