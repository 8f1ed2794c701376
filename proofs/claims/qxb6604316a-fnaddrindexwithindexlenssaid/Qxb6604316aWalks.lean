import Derived.Test.Qxb6604316aRows
import Derived.Test.Qxb6604316aPlain
import Derived.WalkKit
import Derived.WalkSpells
import Derived.ProofKit
import Derived.Deep.QuietTactic
import Derived.BigQuiet
namespace Go.Proofs.Qxb6604316a.W
open Go.ChangeShapes Go.WideShapes Go.ChangeAt Go.RowKit

theorem ret_bool {a b : Bool} (h : a = b) : Ending.returned (.bool a) = .returned (.bool b) := by rw [h]
theorem ret_int {k : IntKind} {a b : Int} (h : a = b) : Ending.returned (.int k a) = .returned (.int k b) := by rw [h]

/-- An address as a value. -/
abbrev A3 (a b c : Int) : Value := .agg #[.int .u8 a, .int .u8 b, .int .u8 c]

/-- What Index reads, and what WithIndex leaves of each field. -/
def ix (a b c d : Int) : Int := if d = 1 then a else if d = 2 then b else c
def wa (a d i : Int) : Int := if d = 1 then i else a
def wb (b d i : Int) : Int := if d = 2 then i else b
def wc (c d i : Int) : Int := if d = 1 then c else if d = 2 then c else i

theorem index_any (a b c d : Int) (w : World) :
    Calls Try.prog 6 #[A3 a b c, .int .u8 d] w fun e w' => e = .returned (.int .u8 (ix a b c d)) ∧ Below w.heap.size w w' := by
  by_cases h1 : d = 1
  · have hb : (d == 1) = true := by simp [h1]
    have H : Hid (ix a b c d = a) := by show _ = _; simp [ix, h1]
    clear h1
    go_enter Try.func6, Try.ntmps6
    go_wp2
    go_ret
    exact ⟨ret_int H.out.symm, (Below.refl _ _).alloc (Nat.le_refl _) _⟩
  · by_cases h2 : d = 2
    · have hb : (d == 1) = false := by simp [h1]
      have hb2 : (d == 2) = true := by simp [h2]
      have H : Hid (ix a b c d = b) := by show _ = _; simp [ix, h2]
      clear h1 h2
      go_enter Try.func6, Try.ntmps6
      go_wp2
      go_ret
      exact ⟨ret_int H.out.symm, (Below.refl _ _).alloc (Nat.le_refl _) _⟩
    · have hb : (d == 1) = false := by simp [h1]
      have hb2 : (d == 2) = false := by simp [h2]
      have H : Hid (ix a b c d = c) := by show _ = _; simp [ix, h1, h2]
      clear h1 h2
      go_enter Try.func6, Try.ntmps6
      go_wp2
      go_ret
      exact ⟨ret_int H.out.symm, (Below.refl _ _).alloc (Nat.le_refl _) _⟩

theorem with_any (a b c d i : Int) (w : World) :
    Calls Try.prog 10 #[A3 a b c, .int .u8 d, .int .u8 i] w fun e w' => e = .returned (A3 (wa a d i) (wb b d i) (wc c d i)) ∧ Below w.heap.size w w' := by
  by_cases h1 : d = 1
  · have hb : (d == 1) = true := by simp [h1]
    have H : Hid (wa a d i = i ∧ wb b d i = b ∧ wc c d i = c) := by show _ ∧ _; simp [wa, wb, wc, h1]
    clear h1
    go_enter Try.func10, Try.ntmps10
    go_wp2
    obtain ⟨e1, e2, e3⟩ := H.out
    rw [e1, e2, e3]
    refine bodyPost_ret (v := A3 i b c) (by simp [results, Try.results10, go_sem]) rfl ⟨rfl, ?_⟩
    exact ((Below.refl _ _).alloc (Nat.le_refl _) _).alloc (by simp) _
  · by_cases h2 : d = 2
    · have hb : (d == 1) = false := by simp [h1]
      have hb2 : (d == 2) = true := by simp [h2]
      have H : Hid (wa a d i = a ∧ wb b d i = i ∧ wc c d i = c) := by show _ ∧ _; simp [wa, wb, wc, h2]
      clear h1 h2
      go_enter Try.func10, Try.ntmps10
      go_wp2
      obtain ⟨e1, e2, e3⟩ := H.out
      rw [e1, e2, e3]
      refine bodyPost_ret (v := A3 a i c) (by simp [results, Try.results10, go_sem]) rfl ⟨rfl, ?_⟩
      exact ((Below.refl _ _).alloc (Nat.le_refl _) _).alloc (by simp) _
    · have hb : (d == 1) = false := by simp [h1]
      have hb2 : (d == 2) = false := by simp [h2]
      have H : Hid (wa a d i = a ∧ wb b d i = b ∧ wc c d i = i) := by show _ ∧ _; simp [wa, wb, wc, h1, h2]
      clear h1 h2
      go_enter Try.func10, Try.ntmps10
      go_wp2
      obtain ⟨e1, e2, e3⟩ := H.out
      rw [e1, e2, e3]
      refine bodyPost_ret (v := A3 a b i) (by simp [results, Try.results10, go_sem]) rfl ⟨rfl, ?_⟩
      exact ((Below.refl _ _).alloc (Nat.le_refl _) _).alloc (by simp) _

theorem pack_any (a b c : Int) (ha : 0 ≤ a ∧ a ≤ 255) (hb : 0 ≤ b ∧ b ≤ 255) (hc : 0 ≤ c ∧ c ≤ 255) (w : World) :
    Calls Try.prog 7 #[.int .u8 a, .int .u8 b, .int .u8 c] w fun e w' => e = .returned (.int .u32 (a * 65536 + b * 256 + c)) ∧ w = w' := by
  obtain ⟨ha0, ha1⟩ := ha
  obtain ⟨hb0, hb1⟩ := hb
  obtain ⟨hc0, hc1⟩ := hc
  go_enter Try.func7, Try.ntmps7
  go_wp2
  go_ret
  refine ⟨ret_int ?_, rfl⟩
  obtain ⟨a, rfl⟩ := Int.eq_ofNat_of_zero_le ha0
  obtain ⟨b, rfl⟩ := Int.eq_ofNat_of_zero_le hb0
  obtain ⟨c, rfl⟩ := Int.eq_ofNat_of_zero_le hc0
  have e1 := u32_or_nat (a * 65536) (b * 256) (by omega) (by omega)
  have hlt : a * 65536 ||| b * 256 < 2 ^ 32 := Nat.or_lt_two_pow (by omega) (by omega)
  have e2 := u32_or_nat (a * 65536 ||| b * 256) c (by omega) (by omega)
  rw [Plain.pack_or a b c (by omega) (by omega)] at e2
  simp only [Int.natCast_mul, Int.natCast_add] at e1 e2
  rw [show ((65536 : Nat) : Int) = 65536 from rfl, show ((256 : Nat) : Int) = 256 from rfl] at e1 e2
  rw [e1]
  exact e2

/-- Which octet. -/
def oct (d : Int) : Int := if 1 ≤ d ∧ d ≤ 3 then d else 3
theorem oct_any (d : Int) (h0 : 0 ≤ d) (h1 : d ≤ 255) (w : World) :
    Calls Try.prog 9 #[.int .u8 d] w fun e w' => e = .returned (.int .u32 (oct d)) ∧ w = w' := by
  by_cases h : 1 ≤ d ∧ d ≤ 3
  · have H : Hid (oct d = d) := by show _ = _; simp [oct, h]
    obtain ⟨h2, h3⟩ := h
    go_enter Try.func9, Try.ntmps9
    go_wp2
    go_ret
    exact ⟨ret_int H.out.symm, rfl⟩
  · have H : Hid (oct d = 3) := by show _ = _; simp [oct, h]
    by_cases h2 : 1 ≤ d
    · have h3 : 3 < d := by omega
      clear h
      go_enter Try.func9, Try.ntmps9
      go_wp2
      go_ret
      exact ⟨ret_int H.out.symm, rfl⟩
    · have h3 : decide (1 ≤ d) = false := by simpa using h2
      clear h
      go_enter Try.func9, Try.ntmps9
      go_wp2
      go_ret
      exact ⟨ret_int H.out.symm, rfl⟩


theorem nat_of (x : Int) (h : 0 ≤ x ∧ x ≤ 255) : ∃ n : Nat, x = (n : Int) ∧ n < 256 := by
  obtain ⟨n, rfl⟩ := Int.eq_ofNat_of_zero_le h.1
  exact ⟨n, rfl, by omega⟩

theorem want1 (a b c i : Int) (ha : 0 ≤ a ∧ a ≤ 255) (hb : 0 ≤ b ∧ b ≤ 255) (hc : 0 ≤ c ∧ c ≤ 255) (hi : 0 ≤ i ∧ i ≤ 255) :
    bits .or .u32 (bits .andNot .u32 (a * 65536 + b * 256 + c) 16711680) (i * 65536) = i * 65536 + b * 256 + c := by
  obtain ⟨a, rfl, ka⟩ := nat_of a ha
  obtain ⟨b, rfl, kb⟩ := nat_of b hb
  obtain ⟨c, rfl, kc⟩ := nat_of c hc
  obtain ⟨i, rfl, ki⟩ := nat_of i hi
  have e1 := u32_andNot_nat (a * 65536 + b * 256 + c) 16711680 (by omega) (by omega)
  rw [show 4294967295 - 16711680 = 4278255615 from rfl, Plain.strike1 a b c ka kb kc] at e1
  have e2 := u32_or_nat (b * 256 + c) (i * 65536) (by omega) (by omega)
  rw [Plain.or1 b c i kb kc] at e2
  simp only [Int.natCast_mul, Int.natCast_add, Int.cast_ofNat_Int] at e1 e2
  rw [e1, e2]
theorem want2 (a b c i : Int) (ha : 0 ≤ a ∧ a ≤ 255) (hb : 0 ≤ b ∧ b ≤ 255) (hc : 0 ≤ c ∧ c ≤ 255) (hi : 0 ≤ i ∧ i ≤ 255) :
    bits .or .u32 (bits .andNot .u32 (a * 65536 + b * 256 + c) 65280) (i * 256) = a * 65536 + i * 256 + c := by
  obtain ⟨a, rfl, ka⟩ := nat_of a ha
  obtain ⟨b, rfl, kb⟩ := nat_of b hb
  obtain ⟨c, rfl, kc⟩ := nat_of c hc
  obtain ⟨i, rfl, ki⟩ := nat_of i hi
  have e1 := u32_andNot_nat (a * 65536 + b * 256 + c) 65280 (by omega) (by omega)
  rw [show 4294967295 - 65280 = 4294902015 from rfl, Plain.strike2 a b c (by omega) kb kc] at e1
  have e2 := u32_or_nat (a * 65536 + c) (i * 256) (by omega) (by omega)
  rw [Plain.or2 a c i ki kc] at e2
  simp only [Int.natCast_mul, Int.natCast_add, Int.cast_ofNat_Int] at e1 e2
  rw [e1, e2]
theorem want3 (a b c i : Int) (ha : 0 ≤ a ∧ a ≤ 255) (hb : 0 ≤ b ∧ b ≤ 255) (hc : 0 ≤ c ∧ c ≤ 255) (hi : 0 ≤ i ∧ i ≤ 255) :
    bits .or .u32 (bits .andNot .u32 (a * 65536 + b * 256 + c) 255) i = a * 65536 + b * 256 + i := by
  obtain ⟨a, rfl, ka⟩ := nat_of a ha
  obtain ⟨b, rfl, kb⟩ := nat_of b hb
  obtain ⟨c, rfl, kc⟩ := nat_of c hc
  obtain ⟨i, rfl, ki⟩ := nat_of i hi
  have e1 := u32_andNot_nat ((a * 256 + b) * 256 + c) 255 (by omega) (by omega)
  rw [show 4294967295 - 255 = 4294967040 from rfl, Plain.strike3 (a * 256 + b) c (by omega) kc] at e1
  have e2 := u32_or_nat ((a * 256 + b) * 256) i (by omega) (by omega)
  rw [Plain.or3 (a * 256 + b) i ki] at e2
  simp only [Int.natCast_mul, Int.natCast_add, Int.cast_ofNat_Int] at e1 e2
  rw [show (a : Int) * 65536 + b * 256 + c = ((a : Int) * 256 + b) * 256 + c by omega, e1, e2]
  omega

set_option maxHeartbeats 400000 in
theorem octet_1 (a b c d i : Int) (ha : 0 ≤ a ∧ a ≤ 255) (hb : 0 ≤ b ∧ b ≤ 255) (hc : 0 ≤ c ∧ c ≤ 255) (hi : 0 ≤ i ∧ i ≤ 255) (hd0 : 0 ≤ d) (hd1 : d ≤ 255) (h1 : d = 1) (w : World) :
    Calls Try.prog 4 #[.int .u8 a, .int .u8 b, .int .u8 c, .int .u8 d, .int .u8 i] w fun e w' => e = .returned (.bool true) ∧ Below w.heap.size w w' := by
  have H : Hid (wa a d i = i ∧ wb b d i = b ∧ wc c d i = c) := by show _ ∧ _; simp [wa, wb, wc, h1]
  have ho : oct d = 1 := by simp [oct, h1]
  clear h1
  go_enter Try.func4, Try.ntmps4
  go_wp2_with fail
  refine (with_any a b c d i _).mono ?_
  rintro e w1 ⟨rfl, hb1⟩
  obtain ⟨e1, e2, e3⟩ := H.out
  rw [e1, e2, e3]
  clear e1 e2 e3
  go_wp2_with fail
  refine (pack_any a b c ha hb hc _).mono ?_
  rintro e w' ⟨rfl, rfl⟩
  go_wp2_with fail
  refine (oct_any d hd0 hd1 _).mono ?_
  rintro e w' ⟨rfl, rfl⟩
  go_wp2_with fail
  refine (pack_any i b c hi hb hc _).mono ?_
  rintro e w' ⟨rfl, rfl⟩
  go_wp2
  go_ret
  refine ⟨ret_bool (by rw [want1 a b c i ha hb hc hi]; simp), ?_⟩
  have hz := hb1.size
  exact ((((Below.refl _ _).alloc (Nat.le_refl _) _).trans (hb1.mono (by simp))).alloc (by simp at hz; omega) _)

set_option maxHeartbeats 400000 in
theorem octet_2 (a b c d i : Int) (ha : 0 ≤ a ∧ a ≤ 255) (hb : 0 ≤ b ∧ b ≤ 255) (hc : 0 ≤ c ∧ c ≤ 255) (hi : 0 ≤ i ∧ i ≤ 255) (hd0 : 0 ≤ d) (hd1 : d ≤ 255) (h1 : d = 2) (w : World) :
    Calls Try.prog 4 #[.int .u8 a, .int .u8 b, .int .u8 c, .int .u8 d, .int .u8 i] w fun e w' => e = .returned (.bool true) ∧ Below w.heap.size w w' := by
  have H : Hid (wa a d i = a ∧ wb b d i = i ∧ wc c d i = c) := by show _ ∧ _; simp [wa, wb, wc, h1]
  have ho : oct d = 2 := by simp [oct, h1]
  clear h1
  go_enter Try.func4, Try.ntmps4
  go_wp2_with fail
  refine (with_any a b c d i _).mono ?_
  rintro e w1 ⟨rfl, hb1⟩
  obtain ⟨e1, e2, e3⟩ := H.out
  rw [e1, e2, e3]
  clear e1 e2 e3
  go_wp2_with fail
  refine (pack_any a b c ha hb hc _).mono ?_
  rintro e w' ⟨rfl, rfl⟩
  go_wp2_with fail
  refine (oct_any d hd0 hd1 _).mono ?_
  rintro e w' ⟨rfl, rfl⟩
  go_wp2_with fail
  refine (pack_any a i c ha hi hc _).mono ?_
  rintro e w' ⟨rfl, rfl⟩
  go_wp2
  go_ret
  refine ⟨ret_bool (by rw [want2 a b c i ha hb hc hi]; simp), ?_⟩
  have hz := hb1.size
  exact ((((Below.refl _ _).alloc (Nat.le_refl _) _).trans (hb1.mono (by simp))).alloc (by simp at hz; omega) _)

set_option maxHeartbeats 400000 in
theorem octet_3 (a b c d i : Int) (ha : 0 ≤ a ∧ a ≤ 255) (hb : 0 ≤ b ∧ b ≤ 255) (hc : 0 ≤ c ∧ c ≤ 255) (hi : 0 ≤ i ∧ i ≤ 255) (hd0 : 0 ≤ d) (hd1 : d ≤ 255) (h1 : ¬ d = 1 ∧ ¬ d = 2) (w : World) :
    Calls Try.prog 4 #[.int .u8 a, .int .u8 b, .int .u8 c, .int .u8 d, .int .u8 i] w fun e w' => e = .returned (.bool true) ∧ Below w.heap.size w w' := by
  have H : Hid (wa a d i = a ∧ wb b d i = b ∧ wc c d i = i) := by show _ ∧ _; simp [wa, wb, wc, h1]
  have ho : oct d = 3 := by unfold oct; split <;> omega
  clear h1
  go_enter Try.func4, Try.ntmps4
  go_wp2_with fail
  refine (with_any a b c d i _).mono ?_
  rintro e w1 ⟨rfl, hb1⟩
  obtain ⟨e1, e2, e3⟩ := H.out
  rw [e1, e2, e3]
  clear e1 e2 e3
  go_wp2_with fail
  refine (pack_any a b c ha hb hc _).mono ?_
  rintro e w' ⟨rfl, rfl⟩
  go_wp2_with fail
  refine (oct_any d hd0 hd1 _).mono ?_
  rintro e w' ⟨rfl, rfl⟩
  go_wp2_with fail
  refine (pack_any a b i ha hb hi _).mono ?_
  rintro e w' ⟨rfl, rfl⟩
  go_wp2
  go_ret
  refine ⟨ret_bool (by rw [want3 a b c i ha hb hc hi]; simp), ?_⟩
  have hz := hb1.size
  exact ((((Below.refl _ _).alloc (Nat.le_refl _) _).trans (hb1.mono (by simp))).alloc (by simp at hz; omega) _)

/-- The law on the octets. -/
theorem octet_any (a b c d i : Int) (ha : 0 ≤ a ∧ a ≤ 255) (hb : 0 ≤ b ∧ b ≤ 255) (hc : 0 ≤ c ∧ c ≤ 255) (hd : 0 ≤ d ∧ d ≤ 255) (hi : 0 ≤ i ∧ i ≤ 255) (w : World) :
    Calls Try.prog 4 #[.int .u8 a, .int .u8 b, .int .u8 c, .int .u8 d, .int .u8 i] w fun e w' => e = .returned (.bool true) ∧ Below w.heap.size w w' := by
  by_cases h1 : d = 1
  · exact octet_1 a b c d i ha hb hc hi hd.1 hd.2 h1 w
  · by_cases h2 : d = 2
    · exact octet_2 a b c d i ha hb hc hi hd.1 hd.2 h2 w
    · exact octet_3 a b c d i ha hb hc hi hd.1 hd.2 ⟨h1, h2⟩ w
end Go.Proofs.Qxb6604316a.W
