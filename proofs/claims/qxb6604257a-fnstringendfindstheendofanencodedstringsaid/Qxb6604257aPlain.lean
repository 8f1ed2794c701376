namespace Go.Proofs.Qxb6604257a.Plain

/-- Does the byte at p stand behind a backslash that counts (one inside the string that opens at s)? -/
def esc (d : Nat → Int) (s : Nat) : Nat → Bool
  | 0 => false
  | p + 1 => if p ≤ s then false else !esc d s p && d p == 92

/-- Between s and k every quote stands behind a backslash that counts. -/
def Upto (d : Nat → Int) (s k : Nat) : Prop := ∀ p, s < p → p < k → d p = 34 → esc d s p = true

/-- The string that opens at s ends at e: just past the first quote that counts, or at the end n. -/
def IsEnd (d : Nat → Int) (s n e : Nat) : Prop :=
  (∃ q, s < q ∧ q < n ∧ d q = 34 ∧ esc d s q = false ∧ Upto d s q ∧ e = q + 1) ∨ (e = n ∧ Upto d s n)

/-- What holds at the head of each round of stringEnd. -/
def Inv (d : Nat → Int) (s k : Nat) : Prop := s < k ∧ Upto d s k ∧ esc d s k = false

theorem esc_next (d : Nat → Int) (s p : Nat) (h : s < p) : esc d s (p + 1) = (!esc d s p && d p == 92) := by
  rw [esc, if_neg (by omega)]
theorem esc_first (d : Nat → Int) (s : Nat) : esc d s (s + 1) = false := by rw [esc, if_pos (Nat.le_refl _)]

theorem Upto.first (d : Nat → Int) (s : Nat) : Upto d s (s + 1) := fun p h1 h2 => by omega
theorem Upto.next {d : Nat → Int} {s k : Nat} (h : Upto d s k) (hk : d k = 34 → esc d s k = true) : Upto d s (k + 1) := fun p h1 h2 h3 => by
  by_cases e : p = k
  · subst e; exact hk h3
  · exact h p h1 (by omega) h3
theorem Upto.less {d : Nat → Int} {s k j : Nat} (h : Upto d s k) (hj : j ≤ k) : Upto d s j := fun p h1 h2 h3 => h p h1 (by omega) h3

theorem Inv.first (d : Nat → Int) (s : Nat) : Inv d s (s + 1) := ⟨by omega, Upto.first d s, esc_first d s⟩
theorem Inv.back {d : Nat → Int} {s k : Nat} (h : Inv d s k) (hk : d k = 92) : Inv d s (k + 2) := by
  obtain ⟨h1, h2, h3⟩ := h
  have e1 : esc d s (k + 1) = true := by rw [esc_next d s k h1, h3, hk]; rfl
  have e2 : esc d s (k + 2) = false := by rw [esc_next d s (k + 1) (by omega), e1]; rfl
  exact ⟨by omega, (h2.next (fun h => by omega)).next (fun _ => e1), e2⟩
theorem Inv.other {d : Nat → Int} {s k : Nat} (h : Inv d s k) (hk : d k ≠ 92) (hq : d k ≠ 34) : Inv d s (k + 1) := by
  obtain ⟨h1, h2, h3⟩ := h
  have e1 : esc d s (k + 1) = false := by rw [esc_next d s k h1]; simp [hk]
  exact ⟨by omega, h2.next (fun h => absurd h hq), e1⟩
theorem Inv.quote {d : Nat → Int} {s k n : Nat} (h : Inv d s k) (hn : k < n) (hk : d k = 34) : IsEnd d s n (k + 1) :=
  .inl ⟨k, h.1, hn, hk, h.2.2, h.2.1, rfl⟩
theorem Inv.out {d : Nat → Int} {s k n : Nat} (h : Inv d s k) (hn : n ≤ k) : IsEnd d s n n := .inr ⟨rfl, h.2.1.less hn⟩

/-- There is one end. -/
theorem IsEnd.one {d : Nat → Int} {s n e e' : Nat} (h : IsEnd d s n e) (h' : IsEnd d s n e') : e = e' := by
  rcases h with ⟨q, a1, a2, a3, a4, a5, rfl⟩ | ⟨rfl, a⟩ <;> rcases h' with ⟨r, b1, b2, b3, b4, b5, rfl⟩ | ⟨rfl, b⟩
  · have h1 : ¬ q < r := fun h => by have := b5 q a1 h a3; rw [a4] at this; exact absurd this (by decide)
    have h2 : ¬ r < q := fun h => by have := a5 r b1 h b3; rw [b4] at this; exact absurd this (by decide)
    omega
  · have := b q a1 a2 a3; rw [a4] at this; exact absurd this (by decide)
  · have := a r b1 b2 b3; rw [b4] at this; exact absurd this (by decide)
  · rfl

/-- The first law. -/
theorem IsEnd.lands {d : Nat → Int} {s n e : Nat} (h : IsEnd d s n e) (hs : s < n) : s < e ∧ e ≤ n ∧ (e = n ∨ d (e - 1) = 34) := by
  rcases h with ⟨q, a1, a2, a3, a4, a5, rfl⟩ | ⟨rfl, a⟩
  · exact ⟨by omega, by omega, .inr (by simpa using a3)⟩
  · exact ⟨hs, Nat.le_refl _, .inl rfl⟩

/-- A run of j backslashes ahead of q, and no more: q stands behind a backslash that counts just where j is odd. -/
theorem esc_run (d : Nat → Int) (s : Nat) : ∀ j q, s + j < q → (∀ t, q - j ≤ t → t < q → d t = 92) → (q - j - 1 = s ∨ d (q - j - 1) ≠ 92) → esc d s q = decide (j % 2 = 1)
  | 0, q, hq, _, hb => by
    obtain ⟨r, rfl⟩ : ∃ r, q = r + 1 := ⟨q - 1, by omega⟩
    rcases hb with hb | hb
    · have : r = s := by simpa using hb
      subst this; rw [esc_first]; rfl
    · by_cases h : r ≤ s
      · rw [esc, if_pos h]; rfl
      · rw [esc_next d s r (by omega)]
        have : d r ≠ 92 := by simpa using hb
        simp [this]
  | j + 1, q, hq, hr, hb => by
    obtain ⟨r, rfl⟩ : ∃ r, q = r + 1 := ⟨q - 1, by omega⟩
    rw [esc_next d s r (by omega), hr r (by omega) (by omega)]
    have e : r + 1 - (j + 1) = r - j := by omega
    rw [e] at hb
    rw [esc_run d s j r (by omega) (fun t h1 h2 => hr t (by omega) (by omega)) hb]
    by_cases h : j % 2 = 1
    · simp [h]; omega
    · have h' : (j + 1) % 2 = 1 := by omega
      simp [h']; omega

/-! ### The third law: what an encoder wrote -/
def hex (n : Int) : Int := if n < 10 then 48 + n else 87 + n
def enc (c : Int) : List Int := if c = 34 ∨ c = 92 then [92, c] else if c < 32 then [92, 117, 48, 48, hex (c / 16), hex (c % 16)] else [c]
def encL : List Int → List Int
  | [] => []
  | c :: r => enc c ++ encL r

theorem encL_snoc (l : List Int) (c : Int) : encL (l ++ [c]) = encL l ++ enc c := by
  induction l with
  | nil => simp [encL]
  | cons a l ih => simp [encL, ih]

theorem enc_length (c : Int) : 1 ≤ (enc c).length ∧ (enc c).length ≤ 6 := by
  unfold enc; split
  · simp
  · split <;> simp
theorem encL_length (l : List Int) : (encL l).length ≤ 6 * l.length := by
  induction l with
  | nil => simp [encL]
  | cons a l ih => have := enc_length a; simp [encL]; omega

theorem hex_ok (n : Int) (h0 : 0 ≤ n) (h : n < 16) : hex n ≠ 92 ∧ hex n ≠ 34 := by unfold hex; split <;> omega

theorem at_mid (A B : List Int) (x : Int) : (A ++ x :: B).getD A.length 0 = x := by simp [List.getD]

theorem Inv.other_of {d : Nat → Int} {s k k' : Nat} {x : Int} (h : Inv d s k) (hx : d k = x) (h1 : x ≠ 92) (h2 : x ≠ 34) (hk : k' = k + 1) : Inv d s k' := by
  subst hx; subst hk; exact h.other h1 h2

theorem Inv.enc {A B : List Int} {c : Int} {s : Nat} {L : List Int} (hL : L = A ++ (Plain.enc c ++ B)) (h0 : 0 ≤ c) (h : Inv (fun i => L.getD i 0) s A.length) :
    Inv (fun i => L.getD i 0) s (A ++ Plain.enc c).length := by
  subst hL
  revert h
  have at_ : ∀ (X : List Int) (x : Int) (Y : List Int), (A ++ (X ++ x :: Y)).getD (A.length + X.length) 0 = x := fun X x Y => by
    have := at_mid (A ++ X) Y x
    rwa [List.append_assoc, List.length_append] at this
  unfold Plain.enc
  split
  · intro h
    have h1 := h.back (at_ [] 92 (c :: B))
    simpa using h1
  · rename_i hc
    split
    · rename_i hl
      have x1 := hex_ok (c / 16) (by omega) (by omega)
      have x2 := hex_ok (c % 16) (by omega) (by omega)
      intro h
      have h1 := h.back (at_ [] 92 (117 :: 48 :: 48 :: hex (c / 16) :: hex (c % 16) :: B))
      have h2 := h1.other_of (at_ [92, 117] 48 (48 :: hex (c / 16) :: hex (c % 16) :: B)) (by decide) (by decide) rfl
      have h3 := h2.other_of (at_ [92, 117, 48] 48 (hex (c / 16) :: hex (c % 16) :: B)) (by decide) (by decide) rfl
      have h4 := h3.other_of (at_ [92, 117, 48, 48] (hex (c / 16)) (hex (c % 16) :: B)) x1.1 x1.2 rfl
      have h5 := h4.other_of (at_ [92, 117, 48, 48, hex (c / 16)] (hex (c % 16)) B) x2.1 x2.2 rfl
      simpa using h5
    · intro h
      have h1 := h.other_of (at_ [] c B) (by omega) (by omega) rfl
      simpa using h1

theorem Inv.encL : ∀ (l : List Int) {A B : List Int} {s : Nat} {L : List Int}, L = A ++ (Plain.encL l ++ B) → (∀ c ∈ l, 0 ≤ c) → Inv (fun i => L.getD i 0) s A.length →
    Inv (fun i => L.getD i 0) s (A ++ Plain.encL l).length
  | [], A, B, s, L, _, _, h => by simpa [Plain.encL] using h
  | c :: r, A, B, s, L, hL, h0, h => by
    have h1 : Inv (fun i => L.getD i 0) s (A ++ Plain.enc c).length := Inv.enc (B := Plain.encL r ++ B) (by rw [hL]; simp [Plain.encL]) (h0 c (by simp)) h
    have h2 := Inv.encL r (A := A ++ Plain.enc c) (B := B) (by rw [hL]; simp [Plain.encL]) (fun x hx => h0 x (by simp [hx])) h1
    simpa [Plain.encL] using h2

/-- The third law. -/
theorem encoded (pre l tail : List Int) (h0 : ∀ c ∈ l, 0 ≤ c) :
    IsEnd (fun i => (pre ++ 34 :: (encL l ++ 34 :: tail)).getD i 0) pre.length (pre ++ 34 :: (encL l ++ 34 :: tail)).length (pre.length + 1 + (encL l).length + 1) := by
  generalize hL : pre ++ 34 :: (encL l ++ 34 :: tail) = L
  have h1 : Inv (fun i => L.getD i 0) pre.length (pre ++ [34]).length := by simpa using Inv.first (fun i => L.getD i 0) pre.length
  have h2 := Inv.encL l (A := pre ++ [34]) (B := 34 :: tail) (by rw [← hL]; simp) h0 h1
  have h3 := h2.quote (n := L.length) (by rw [← hL]; simp) (by
    have := at_mid (pre ++ [34] ++ encL l) tail 34
    rw [← this, ← hL]; simp)
  have e : (pre ++ [34] ++ encL l).length + 1 = pre.length + 1 + (encL l).length + 1 := by simp; omega
  rw [e] at h3
  exact h3

end Go.Proofs.Qxb6604257a.Plain
