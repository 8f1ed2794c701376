namespace Go.Proofs.Qxb6604316a.Plain

theorem and_split (k x y m n : Nat) (hy : y < 2 ^ k) (hn : n < 2 ^ k) : (2 ^ k * x + y) &&& (2 ^ k * m + n) = 2 ^ k * (x &&& m) + (y &&& n) := by
  have hyn : y &&& n < 2 ^ k := Nat.and_lt_two_pow _ hn
  apply Nat.eq_of_testBit_eq
  intro j
  rw [Nat.testBit_and, Nat.testBit_two_pow_mul_add _ hy, Nat.testBit_two_pow_mul_add _ hn, Nat.testBit_two_pow_mul_add _ hyn]
  split
  · rw [Nat.testBit_and]
  · rw [Nat.testBit_and]

theorem pack_or (a b c : Nat) (hb : b < 256) (hc : c < 256) : (a * 65536 ||| b * 256) ||| c = a * 65536 + b * 256 + c := by
  have h1 : a * 65536 ||| b * 256 = a * 65536 + b * 256 := by
    have := Nat.two_pow_add_eq_or_of_lt (i := 16) (b := b * 256) (by omega) a
    rw [show a * 65536 = 2 ^ 16 * a by omega, this]
  rw [h1]
  have := Nat.two_pow_add_eq_or_of_lt (i := 8) (b := c) (by omega) (a * 256 + b)
  rw [show a * 65536 + b * 256 = 2 ^ 8 * (a * 256 + b) by omega, this]

theorem small_and_hi (x m : Nat) (hx : x < 256) : x &&& (256 * m) = 0 := by
  have := and_split 8 0 x m 0 (by omega) (by omega)
  simpa using this

/-- The word with its first octet struck. -/
theorem strike1 (a b c : Nat) (ha : a < 256) (hb : b < 256) (hc : c < 256) : (a * 65536 + b * 256 + c) &&& 4278255615 = b * 256 + c := by
  have h := and_split 16 a (b * 256 + c) 65280 65535 (by omega) (by omega)
  have e1 : a &&& 65280 = 0 := small_and_hi a 255 ha
  have e2 : (b * 256 + c) &&& 65535 = b * 256 + c := by
    have := Nat.and_two_pow_sub_one_of_lt_two_pow (n := 16) (x := b * 256 + c) (by omega)
    simpa using this
  rw [e1, e2] at h
  rw [show a * 65536 + b * 256 + c = 2 ^ 16 * a + (b * 256 + c) by omega, show 4278255615 = 2 ^ 16 * 65280 + 65535 by rfl, h]
  omega
theorem strike2 (a b c : Nat) (ha : a < 65536) (hb : b < 256) (hc : c < 256) : (a * 65536 + b * 256 + c) &&& 4294902015 = a * 65536 + c := by
  have h := and_split 16 a (2 ^ 8 * b + c) 65535 255 (by omega) (by omega)
  have e1 : a &&& 65535 = a := by
    have := Nat.and_two_pow_sub_one_of_lt_two_pow (n := 16) (x := a) (by omega)
    simpa using this
  have h2 := and_split 8 b c 0 255 (by omega) (by omega)
  have e3 : c &&& 255 = c := by
    have := Nat.and_two_pow_sub_one_of_lt_two_pow (n := 8) (x := c) (by omega)
    simpa using this
  rw [e3] at h2
  simp only [Nat.mul_zero, Nat.and_zero, Nat.zero_add] at h2
  rw [e1, h2] at h
  rw [show a * 65536 + b * 256 + c = 2 ^ 16 * a + (2 ^ 8 * b + c) by omega, show 4294902015 = 2 ^ 16 * 65535 + 255 by rfl, h]
  omega
theorem strike3 (x c : Nat) (hx : x < 16777216) (hc : c < 256) : (x * 256 + c) &&& 4294967040 = x * 256 := by
  have h := and_split 8 x c 16777215 0 (by omega) (by omega)
  have e1 : x &&& 16777215 = x := by
    have := Nat.and_two_pow_sub_one_of_lt_two_pow (n := 24) (x := x) (by omega)
    simpa using this
  rw [e1] at h
  simp only [Nat.and_zero, Nat.add_zero] at h
  rw [show x * 256 + c = 2 ^ 8 * x + c by omega, show 4294967040 = 2 ^ 8 * 16777215 by rfl, h]
  omega

theorem or1 (b c i : Nat) (hb : b < 256) (hc : c < 256) : (b * 256 + c) ||| i * 65536 = i * 65536 + b * 256 + c := by
  have := Nat.two_pow_add_eq_or_of_lt (i := 16) (b := b * 256 + c) (by omega) i
  rw [Nat.or_comm, show i * 65536 = 2 ^ 16 * i by omega, ← this]
  omega
theorem or2 (a c i : Nat) (hi : i < 256) (hc : c < 256) : (a * 65536 + c) ||| i * 256 = a * 65536 + i * 256 + c := by
  have h1 : a * 65536 + c = a * 65536 ||| c := by
    have := Nat.two_pow_add_eq_or_of_lt (i := 16) (b := c) (by omega) a
    rw [show a * 65536 = 2 ^ 16 * a by omega, this]
  rw [h1, Nat.or_assoc, Nat.or_comm c, ← Nat.or_assoc]
  exact pack_or a i c hi hc
theorem or3 (x i : Nat) (hi : i < 256) : x * 256 ||| i = x * 256 + i := by
  have := Nat.two_pow_add_eq_or_of_lt (i := 8) (b := i) (by omega) x
  rw [show x * 256 = 2 ^ 8 * x by omega, this]
end Go.Proofs.Qxb6604316a.Plain
