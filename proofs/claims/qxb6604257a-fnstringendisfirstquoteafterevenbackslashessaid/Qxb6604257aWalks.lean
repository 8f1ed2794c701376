import Derived.Test.Qxb6604257aRows
import Derived.Test.Qxb6604257aPlain
import Derived.WalkKit
import Derived.WalkSpells
import Derived.ProofKit
namespace Go.Proofs.Qxb6604257a.W
open Go.ChangeShapes Go.WideShapes Go.ChangeAt Go.RowKit
open Plain

theorem ret_bool {a b : Bool} (h : a = b) : Ending.returned (.bool a) = .returned (.bool b) := by rw [h]
theorem ret_int {k : IntKind} {a b : Int} (h : a = b) : Ending.returned (.int k a) = .returned (.int k b) := by rw [h]

set_option maxHeartbeats 400000 in
/-- stringEnd, over a row of bytes. -/
theorem stringEnd_any (b off len cap s : Nat) (d : Nat → Int) (w : World) (hl : len ≤ 1048576) (hs : s < len)
    (hc : ∀ j, j < len → w.cell? ⟨b, off + j, none⟩ = some (.int .u8 (d j))) :
    Calls Try.prog 20 #[.slice (some ⟨b, off, none⟩) len cap, .int .i64 s] w fun e w' => (∃ E : Nat, e = .returned (.int .i64 E) ∧ IsEnd d s len E) ∧ w = w' := by
  have H0 : Hid (Inv d s (s + 1)) := Inv.first d s
  go_enter Try.func20, Try.ntmps20
  go_wp2
  go_loop [5] (fun i => ∃ k : Nat, k ≤ len + 1 ∧ i = .int .i64 k ∧ Hid (Inv d s k)) (fun i => len + 1 - (intOf i).toNat)
  case atStart => exact ⟨s + 1, by omega, by go_num, H0⟩
  case round =>
    obtain ⟨k, hk, rfl, HI⟩ := hrel
    by_cases hlt : k < len
    · have hck := hc k hlt
      clear hc H0
      go_wp2
      · have h92 : d k = 92 := by simpa using ‹(d k == 92) = true›
        have HN : Hid (Inv d s (k + 2)) := HI.out.back h92
        clear h92
        go_round
        case rel => exact ⟨k + 2, by omega, by go_num, HN⟩
        case measure => simp [intOf]; omega
      · have h34 : d k = 34 := by simpa using ‹(d k == 34) = true›
        have HN : Hid (IsEnd d s len (k + 1)) := HI.out.quote hlt h34
        clear h34
        go_ret
        exact ⟨⟨k + 1, ret_int (by omega), HN⟩, rfl⟩
      · have h92 : d k ≠ 92 := by simpa using ‹(d k == 92) = false›
        have h34 : d k ≠ 34 := by simpa using ‹(d k == 34) = false›
        have HN : Hid (Inv d s (k + 1)) := HI.out.other h92 h34
        clear h92 h34
        go_round
        case rel => exact ⟨k + 1, by omega, by go_num, HN⟩
        case measure => simp [intOf]; omega
    · have HN : Hid (IsEnd d s len len) := HI.out.out (by omega)
      clear hc H0
      go_wp2
      go_ret
      exact ⟨⟨len, rfl, HN⟩, rfl⟩

/-- The function by which the laws reach it: the same. -/
theorem zzStringEnd_any (b off len cap s : Nat) (d : Nat → Int) (w : World) (hl : len ≤ 1048576) (hs : s < len)
    (hc : ∀ j, j < len → w.cell? ⟨b, off + j, none⟩ = some (.int .u8 (d j))) :
    Calls Try.prog 9 #[.slice (some ⟨b, off, none⟩) len cap, .int .i64 s] w fun e w' => (∃ E : Nat, e = .returned (.int .i64 E) ∧ IsEnd d s len E) ∧ w = w' := by
  go_enter Try.func9, Try.ntmps9
  go_wp2_with (go_at_call 20; refine (stringEnd_any _ _ _ _ _ d _ hl hs hc).mono ?_; rintro e w' ⟨⟨E, rfl, hE⟩, rfl⟩)
  go_ret
  exact ⟨⟨E, rfl, hE⟩, rfl⟩

theorem par_even {d : Nat → Int} {s q len j : Nat} (h : ((j : Int) % 2 == 0) = true) (hx : esc d s q = decide (j % 2 = 1)) (hu : Upto d s q) (hq : d q = 34) (h1 : s < q) (h2 : q < len) : IsEnd d s len (q + 1) := by
  have : (j : Int) % 2 = 0 := by simpa using h
  refine .inl ⟨q, h1, h2, hq, ?_, hu, rfl⟩
  rw [hx]; simp; omega
theorem par_odd {d : Nat → Int} {s q j : Nat} (h : ((j : Int) % 2 == 0) = false) (hx : esc d s q = decide (j % 2 = 1)) (hu : Upto d s q) : Upto d s (q + 1) := by
  have : ¬ (j : Int) % 2 = 0 := by simpa using h
  refine hu.next (fun _ => ?_)
  rw [hx]; simp; omega

set_option maxHeartbeats 400000 in
/-- The parity model, over a row of bytes. -/
theorem parity_any (b off len cap s : Nat) (d : Nat → Int) (w : World) (hl : len ≤ 1048576) (hs : s < len)
    (hc : ∀ j, j < len → w.cell? ⟨b, off + j, none⟩ = some (.int .u8 (d j))) :
    Calls Try.prog 10 #[.slice (some ⟨b, off, none⟩) len cap, .int .i64 s] w fun e w' => (∃ E : Nat, e = .returned (.int .i64 E) ∧ IsEnd d s len E) ∧ w = w' := by
  have H0 : Hid (Upto d s (s + 1)) := Upto.first d s
  go_enter Try.func10, Try.ntmps10
  go_wp2
  go_loop [6, 7, 8] (fun q _ _ => ∃ k : Nat, s < k ∧ k ≤ len ∧ q = .int .i64 k ∧ Hid (Upto d s k)) (fun q _ _ => len - (intOf q).toNat)
  case atStart => exact ⟨s + 1, by omega, by omega, by go_num, H0⟩
  case round =>
    obtain ⟨q, hsq, hq, rfl, HI⟩ := hrel
    by_cases hlt : q < len
    · have hcq := hc q hlt
      clear H0
      by_cases h34 : d q = 34
      · have hb34 : (d q != 34) = false := by simp [h34]
        have H34 : Hid (d q = 34) := h34
        clear h34
        go_wp2
        go_loop [7, 8] (fun c p => ∃ j r : Nat, r + j + 1 ≤ q ∧ q ≤ r + j + 1 ∧ s ≤ r ∧ c = .int .i64 j ∧ p = .int .i64 r ∧ Hid (∀ t, q - j ≤ t → t < q → d t = 92)) (fun c _ => q - (intOf c).toNat)
        case atStart => exact ⟨0, q - 1, by omega, by omega, by omega, rfl, by go_num, fun t _ _ => by omega⟩
        case round =>
          obtain ⟨j, r, hr1, hr2, hsr, rfl, rfl, HR⟩ := hrel
          by_cases hsl : s < r
          · have hcr := hc r (by omega)
            clear hc
            by_cases h92 : d r = 92
            · have hb92 : (d r == 92) = true := by simp [h92]
              have HN : Hid (∀ t, q - (j + 1) ≤ t → t < q → d t = 92) := fun t h1 h2 => by
                by_cases e : t = r
                · subst e; exact h92
                · exact HR t (by omega) h2
              clear h92
              go_wp2
              go_round
              case rel => exact ⟨j + 1, r - 1, by omega, by omega, by omega, by go_num, by go_num, HN⟩
              case measure => simp [intOf]; omega
            · have hb92 : (d r == 92) = false := by simp [h92]
              have HX : Hid (esc d s q = decide (j % 2 = 1)) := esc_run d s j q (by omega) HR.out (.inr (by rw [show q - j - 1 = r by omega]; exact h92))
              clear h92
              go_wp2
              · have HE : Hid (IsEnd d s len (q + 1)) := par_even ‹_› HX.out HI.out H34.out hsq hlt
                go_ret
                exact ⟨⟨q + 1, ret_int (by omega), HE⟩, rfl⟩
              · have HN : Hid (Upto d s (q + 1)) := par_odd ‹_› HX.out HI.out
                go_round
                case rel => exact ⟨q + 1, by omega, by omega, by go_num, HN⟩
                case measure => simp [intOf]; omega
          · have HX : Hid (esc d s q = decide (j % 2 = 1)) := esc_run d s j q (by omega) HR.out (.inl (by omega))
            clear hc
            go_wp2
            · have HE : Hid (IsEnd d s len (q + 1)) := par_even ‹_› HX.out HI.out H34.out hsq hlt
              go_ret
              exact ⟨⟨q + 1, ret_int (by omega), HE⟩, rfl⟩
            · have HN : Hid (Upto d s (q + 1)) := par_odd ‹_› HX.out HI.out
              go_round
              case rel => exact ⟨q + 1, by omega, by omega, by go_num, HN⟩
              case measure => simp [intOf]; omega
      · have hb34 : (d q != 34) = true := by simp [h34]
        have HN : Hid (Upto d s (q + 1)) := HI.out.next (fun h => absurd h h34)
        clear h34 hc
        go_wp2
        go_round
        case rel => exact ⟨q + 1, by omega, by omega, by go_num, HN⟩
        case measure => simp [intOf]; omega
    · have HN : Hid (IsEnd d s len len) := .inr ⟨rfl, HI.out.less (by omega)⟩
      clear hc H0
      go_wp2
      go_ret
      exact ⟨⟨len, rfl, HN⟩, rfl⟩

/-- The bounds' tests: they only compute. -/
theorem bytes8_any (a : Option Addr) (len cap : Nat) (x : Int) (w : World) (hl : len ≤ maxLen) :
    Calls Try.prog 8 #[.slice a len cap, .int .i64 x] w fun e w' => e = .returned (.bool (decide (len ≤ 1048576))) ∧ w = w' := by
  unfold maxLen at hl
  by_cases h : len ≤ 1048576
  all_goals
    go_enter Try.func8, Try.ntmps8
    go_wp2
    go_ret
    exact ⟨ret_bool (by simp [h]), rfl⟩
theorem bytes11_any (a : Option Addr) (len cap : Nat) (x : Int) (w : World) (hl : len ≤ maxLen) :
    Calls Try.prog 11 #[.slice a len cap, .int .i64 x] w fun e w' => e = .returned (.bool (decide (len ≤ 1048576))) ∧ w = w' := by
  unfold maxLen at hl
  by_cases h : len ≤ 1048576
  all_goals
    go_enter Try.func11, Try.ntmps11
    go_wp2
    go_ret
    exact ⟨ret_bool (by simp [h]), rfl⟩
end Go.Proofs.Qxb6604257a.W
