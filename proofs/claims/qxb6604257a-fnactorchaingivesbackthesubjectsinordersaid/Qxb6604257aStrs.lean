import Derived.Test.Qxb6604257aRows
import Derived.WalkKit
import Derived.WalkSpells
import Derived.ProofKit
import Derived.Deep.QuietTactic
import Derived.BigQuiet
namespace Go.Proofs.Qxb6604257a.C
open Go.ChangeShapes Go.WideShapes Go.ChangeAt Go.RowKit

theorem ret_bool {a b : Bool} (h : a = b) : Ending.returned (.bool a) = .returned (.bool b) := by rw [h]
theorem ret_int {k : IntKind} {a b : Int} (h : a = b) : Ending.returned (.int k a) = .returned (.int k b) := by rw [h]

/-- A slice of strings that can be read: its elements are ss 0, ss 1, .. -/
structure Strs (w : World) (a : Option Addr) (len : Nat) (ss : Nat → ByteArray) : Prop where
  le : len ≤ maxLen
  nil : a = none → len = 0
  cell : ∀ ad, a = some ad → ∀ j, j < len → w.cell? (ad.add j) = some (.string (ss j))
  small : ∀ j, (ss j).size ≤ maxLen

theorem Strs.lies {w : World} {a : Option Addr} {len : Nat} {ss : Nat → ByteArray} (h : Strs w a len ss) (h0 : 0 < len) :
    ∃ b off, a = some ⟨b, off, none⟩ ∧ b < w.heap.size ∧ ∀ j, j < len → w.cell? ⟨b, off + j, none⟩ = some (.string (ss j)) := by
  cases a with
  | none => have := h.nil rfl; omega
  | some x =>
    have hc := h.cell x rfl
    obtain ⟨b, off, spot⟩ := x
    have hspot : spot = none := by simpa [Addr.add] using World.cell?_spot (hc 0 h0)
    subst hspot
    have hb := World.block_lt_of_cell? w _ (hc 0 h0)
    exact ⟨b, off, rfl, by simpa [Addr.add] using hb, fun j hj => by rw [← add_plain]; exact hc j hj⟩

/-- The same slice in a later world. -/
theorem Strs.later {w w1 : World} {a : Option Addr} {len : Nat} {ss : Nat → ByteArray} (h : Strs w a len ss) {B : Nat} (hB : w.heap.size ≤ B) (hb : Below B w w1) : Strs w1 a len ss := by
  refine ⟨h.le, h.nil, fun ad had j hj => ?_, h.small⟩
  have hc := h.cell ad had j hj
  rw [hb.cell (p := ad.add j) (Nat.lt_of_lt_of_le (World.block_lt_of_cell? w _ hc) hB)]
  exact hc

/-- All strings of the first k are short. -/
def Short (ss : Nat → ByteArray) (k : Nat) : Prop := ∀ j, j < k → (ss j).size ≤ 1048576
theorem Short.next {ss : Nat → ByteArray} {k : Nat} (h : Short ss k) (hk : (ss k).size ≤ 1048576) : Short ss (k + 1) := fun j hj => by
  by_cases e : j = k
  · subst e; exact hk
  · exact h j (by omega)

set_option maxHeartbeats 400000 in
/-- The sum of the lengths, cut off past the cap: some number that is not great; it only computes. -/
theorem stringsBytes_any (a : Option Addr) (len cap : Nat) (ss : Nat → ByteArray) (w : World) (hs : Strs w a len ss) (hl : len ≤ 1048576) (hsh : Short ss len) :
    Calls Try.prog 15 #[.slice a len cap] w fun e w' => (∃ t : Int, e = .returned (.int .i64 t) ∧ 0 ≤ t ∧ t ≤ 4194304) ∧ w = w' := by
  have HS : Hid (Strs w a len ss) := hs
  have HH : Hid (Short ss len) := hsh
  clear hs hsh
  go_enter Try.func15, Try.ntmps15
  go_wp2
  go_loop [3, 4] (fun n i => ∃ k t : Nat, k ≤ len ∧ t ≤ 1048576 ∧ i = .int .i64 k ∧ n = .int .i64 t) (fun _ i => len - (intOf i).toNat)
  case atStart => exact ⟨0, 0, Nat.zero_le _, Nat.zero_le _, rfl, rfl⟩
  case round =>
    obtain ⟨k, t, hk, ht, rfl, rfl⟩ := hrel
    by_cases hlt : k < len
    · obtain ⟨b, off, rfl, hb, hc⟩ := HS.out.lies (by omega)
      have hck := hc k hlt
      have hkk := HH.out k hlt
      clear hc HS HH
      go_wp2
      · go_ret
        exact ⟨⟨_, rfl, by omega, by omega⟩, rfl⟩
      · go_round
        case rel => exact ⟨k + 1, t + (16 + (ss k).size), by omega, by omega, by go_num, by go_num⟩
        case measure => simp [intOf]; omega
    · go_wp2
      go_ret
      exact ⟨⟨t, rfl, by omega, by omega⟩, rfl⟩

/-- What the test on all lengths gives where it says yes. -/
def AllShort (s0 s1 : Nat → ByteArray) (l0 l1 : Nat) : Prop := Short s0 l0 ∧ Short s1 l1 ∧ l0 ≤ 1048576 ∧ l1 ≤ 1048576

/-- It says yes or no; where yes, p. -/
def Gate (e : Ending) (p : Prop) : Prop := ∃ r : Bool, e = .returned (.bool r) ∧ (r = true → p)
theorem Gate.no {p : Prop} : Gate (.returned (.bool false)) p := ⟨false, rfl, fun h => by cases h⟩
theorem Gate.yes {p : Prop} (h : p) : Gate (.returned (.bool true)) p := ⟨true, rfl, fun _ => h⟩

set_option maxHeartbeats 1000000 in
theorem bytes14_any (a0 a1 : Option Addr) (l0 l1 c0 c1 : Nat) (s0 s1 : Nat → ByteArray) (w : World) (hs0 : Strs w a0 l0 s0) (hs1 : Strs w a1 l1 s1) :
    Calls Try.prog 14 #[.slice a0 l0 c0, .slice a1 l1 c1] w fun e w' => Gate e (AllShort s0 s1 l0 l1) ∧ w = w' := by
  have HS0 : Hid (Strs w a0 l0 s0) := hs0
  have HS1 : Hid (Strs w a1 l1 s1) := hs1
  have hm0 := hs0.le
  have hm1 := hs1.le
  unfold maxLen at hm0 hm1
  clear hs0 hs1
  by_cases h0 : l0 ≤ 1048576
  · go_enter Try.func14, Try.ntmps14
    go_wp2
    go_loop [5, 6] (fun n i => ∃ k t : Nat, k ≤ l0 ∧ t ≤ 1048576 ∧ i = .int .i64 k ∧ n = .int .i64 t ∧ Hid (Short s0 k)) (fun _ i => l0 - (intOf i).toNat)
    case atStart => exact ⟨0, l0, Nat.zero_le _, h0, rfl, by go_num, fun j hj => by omega⟩
    case round =>
      obtain ⟨k, t, hk, ht, rfl, rfl, HK⟩ := hrel
      by_cases hlt : k < l0
      · obtain ⟨b, off, rfl, hb, hc⟩ := HS0.out.lies (by omega)
        have hck := hc k hlt
        have hkk := HS0.out.small k
        unfold maxLen at hkk
        clear hc HS0 HS1
        by_cases hkz : (s0 k).size ≤ 1048576
        · have HN : Hid (Short s0 (k + 1)) := HK.out.next hkz
          go_wp2
          · go_ret
            exact ⟨Gate.no, rfl⟩
          · go_round
            case rel => exact ⟨k + 1, t + (s0 k).size, by omega, by omega, by go_num, by go_num, HN⟩
            case measure => simp [intOf]; omega
        · go_wp2
          go_ret
          exact ⟨Gate.no, rfl⟩
      · have H0 : Hid (Short s0 l0) := by
          have : k = l0 := by omega
          subst this; exact HK
        clear HK HS0
        by_cases h1 : l1 ≤ 1048576
        · by_cases htl : t + l1 ≤ 1048576
          · go_wp2
            go_loop [5, 7] (fun n i => ∃ k t : Nat, k ≤ l1 ∧ t ≤ 1048576 ∧ i = .int .i64 k ∧ n = .int .i64 t ∧ Hid (Short s1 k)) (fun _ i => l1 - (intOf i).toNat)
            case atStart => exact ⟨0, t + l1, Nat.zero_le _, htl, rfl, by go_num, fun j hj => by omega⟩
            case round =>
              obtain ⟨k', t', hk', ht', rfl, rfl, HK⟩ := hrel
              by_cases hlt' : k' < l1
              · obtain ⟨b, off, rfl, hb, hc⟩ := HS1.out.lies (by omega)
                have hck := hc k' hlt'
                have hkk := HS1.out.small k'
                unfold maxLen at hkk
                clear hc HS1
                by_cases hkz : (s1 k').size ≤ 1048576
                · have HN : Hid (Short s1 (k' + 1)) := HK.out.next hkz
                  go_wp2
                  · go_ret
                    exact ⟨Gate.no, rfl⟩
                  · go_round
                    case rel => exact ⟨k' + 1, t' + (s1 k').size, by omega, by omega, by go_num, by go_num, HN⟩
                    case measure => simp [intOf]; omega
                · go_wp2
                  go_ret
                  exact ⟨Gate.no, rfl⟩
              · have H1 : Hid (AllShort s0 s1 l0 l1) := by
                  have : k' = l1 := by omega
                  subst this; exact ⟨H0.out, HK.out, h0, h1⟩
                clear HK HS1
                go_wp2
                go_ret
                exact ⟨Gate.yes H1.out, rfl⟩
          · go_wp2
            go_ret
            exact ⟨Gate.no, rfl⟩
        · go_wp2
          go_ret
          exact ⟨Gate.no, rfl⟩
  · go_enter Try.func14, Try.ntmps14
    go_wp2
    go_ret
    exact ⟨Gate.no, rfl⟩

set_option maxHeartbeats 1000000 in
theorem bytes19_any (sub : ByteArray) (hsub : sub.size ≤ maxLen) (a0 a1 : Option Addr) (l0 l1 c0 c1 : Nat) (s0 s1 : Nat → ByteArray) (w : World) (hs0 : Strs w a0 l0 s0) (hs1 : Strs w a1 l1 s1) :
    Calls Try.prog 19 #[.string sub, .slice a0 l0 c0, .slice a1 l1 c1] w fun e w' => Gate e (AllShort s0 s1 l0 l1) ∧ w = w' := by
  have HS0 : Hid (Strs w a0 l0 s0) := hs0
  have HS1 : Hid (Strs w a1 l1 s1) := hs1
  have hm0 := hs0.le
  have hm1 := hs1.le
  unfold maxLen at hm0 hm1 hsub
  clear hs0 hs1
  by_cases h0s : sub.size ≤ 1048576
  rotate_left
  · go_enter Try.func19, Try.ntmps19
    go_wp2
    go_ret
    exact ⟨Gate.no, rfl⟩
  by_cases h0 : l0 ≤ 1048576
  rotate_left
  · go_enter Try.func19, Try.ntmps19
    go_wp2
    go_ret
    exact ⟨Gate.no, rfl⟩
  by_cases h0t : sub.size + l0 ≤ 1048576
  · go_enter Try.func19, Try.ntmps19
    go_wp2
    go_loop [7, 8] (fun n i => ∃ k t : Nat, k ≤ l0 ∧ t ≤ 1048576 ∧ i = .int .i64 k ∧ n = .int .i64 t ∧ Hid (Short s0 k)) (fun _ i => l0 - (intOf i).toNat)
    case atStart => exact ⟨0, sub.size + l0, Nat.zero_le _, by omega, rfl, by go_num, fun j hj => by omega⟩
    case round =>
      obtain ⟨k, t, hk, ht, rfl, rfl, HK⟩ := hrel
      by_cases hlt : k < l0
      · obtain ⟨b, off, rfl, hb, hc⟩ := HS0.out.lies (by omega)
        have hck := hc k hlt
        have hkk := HS0.out.small k
        unfold maxLen at hkk
        clear hc HS0 HS1
        by_cases hkz : (s0 k).size ≤ 1048576
        · have HN : Hid (Short s0 (k + 1)) := HK.out.next hkz
          go_wp2
          · go_ret
            exact ⟨Gate.no, rfl⟩
          · go_round
            case rel => exact ⟨k + 1, t + (s0 k).size, by omega, by omega, by go_num, by go_num, HN⟩
            case measure => simp [intOf]; omega
        · go_wp2
          go_ret
          exact ⟨Gate.no, rfl⟩
      · have H0 : Hid (Short s0 l0) := by
          have : k = l0 := by omega
          subst this; exact HK
        clear HK HS0
        by_cases h1 : l1 ≤ 1048576
        · by_cases htl : t + l1 ≤ 1048576
          · go_wp2
            go_loop [7, 9] (fun n i => ∃ k t : Nat, k ≤ l1 ∧ t ≤ 1048576 ∧ i = .int .i64 k ∧ n = .int .i64 t ∧ Hid (Short s1 k)) (fun _ i => l1 - (intOf i).toNat)
            case atStart => exact ⟨0, t + l1, Nat.zero_le _, htl, rfl, by go_num, fun j hj => by omega⟩
            case round =>
              obtain ⟨k', t', hk', ht', rfl, rfl, HK⟩ := hrel
              by_cases hlt' : k' < l1
              · obtain ⟨b, off, rfl, hb, hc⟩ := HS1.out.lies (by omega)
                have hck := hc k' hlt'
                have hkk := HS1.out.small k'
                unfold maxLen at hkk
                clear hc HS1
                by_cases hkz : (s1 k').size ≤ 1048576
                · have HN : Hid (Short s1 (k' + 1)) := HK.out.next hkz
                  go_wp2
                  · go_ret
                    exact ⟨Gate.no, rfl⟩
                  · go_round
                    case rel => exact ⟨k' + 1, t' + (s1 k').size, by omega, by omega, by go_num, by go_num, HN⟩
                    case measure => simp [intOf]; omega
                · go_wp2
                  go_ret
                  exact ⟨Gate.no, rfl⟩
              · have H1 : Hid (AllShort s0 s1 l0 l1) := by
                  have : k' = l1 := by omega
                  subst this; exact ⟨H0.out, HK.out, h0, h1⟩
                clear HK HS1
                go_wp2
                go_ret
                exact ⟨Gate.yes H1.out, rfl⟩
          · go_wp2
            go_ret
            exact ⟨Gate.no, rfl⟩
        · go_wp2
          go_ret
          exact ⟨Gate.no, rfl⟩
  · go_enter Try.func19, Try.ntmps19
    go_wp2
    go_ret
    exact ⟨Gate.no, rfl⟩
end Go.Proofs.Qxb6604257a.C
