import Derived.Test.Qxb6604257aChain
namespace Go.Proofs.Qxb6604257a.C
open Go.ChangeShapes Go.WideShapes Go.ChangeAt Go.RowKit

theorem suf_length (ss : Nat → ByteArray) (n : Nat) : ∀ k, (suf ss n k).length = k
  | 0 => rfl
  | k + 1 => by simp [suf, suf_length ss n k]
theorem suf_at (ss : Nat → ByteArray) (n : Nat) : ∀ k j, k ≤ n → j < k → (suf ss n k)[j]? = some (ss (n - k + j))
  | 0, j, _, h => by omega
  | k + 1, 0, _, _ => by simp [suf]
  | k + 1, j + 1, h1, h2 => by
    have := suf_at ss n k j (by omega) (by omega)
    rw [suf, List.getElem?_cons_succ, this, show n - k + j = n - (k + 1) + (j + 1) by omega]
theorem suf_whole (ss : Nat → ByteArray) (n j : Nat) (h : j < n) : (suf ss n n)[j]? = some (ss j) := by
  have := suf_at ss n n j (Nat.le_refl _) h
  simpa using this

/-- A row of strings of the call's own, read as a slice. -/
theorem own_strs {w : World} {B n : Nat} {v : Value} {l : List ByteArray} {ss : Nat → ByteArray} (h : w.ownsRow B 9 1 v n (l.map Value.string)) (hn : l.length = n) (hl : ∀ j, j < n → l[j]? = some (ss j)) (hs : ∀ j, (ss j).size ≤ maxLen) :
    ∃ a c, v = .slice a n c ∧ n ≤ c ∧ Strs w a n ss ∧ (0 < n → ∃ g, a = some ⟨g, 0, none⟩ ∧ g < w.heap.size) := by
  rcases h.2 with ⟨rfl, rfl⟩ | ⟨g, cap, cur, rfl, hg, hh, hnc, hcm, hcs, ht⟩
  · exact ⟨none, 0, rfl, Nat.le_refl _, ⟨Nat.zero_le _, fun _ => rfl, fun _ h => (by cases h), hs⟩, fun h => by omega⟩
  · have hlt : g < w.heap.size := (h.lt g rfl).2
    refine ⟨some ⟨g, 0, none⟩, cap, rfl, hnc, ⟨Nat.le_trans hnc hcm, fun h => (by cases h), fun ad had j hj => ?_, hs⟩, fun _ => ⟨g, rfl, hlt⟩⟩
    cases had
    refine h.cells (g := g) rfl j _ ?_
    rw [List.getElem?_map, hl j hj]; rfl

set_option maxHeartbeats 1000000 in
/-- The first law on chains, behind its tests. -/
theorem gives_any (a0 a1 : Option Addr) (l0 l1 c0 c1 : Nat) (s0 s1 : Nat → ByteArray) (w : World) (hs0 : Strs w a0 l0 s0) (hs1 : Strs w a1 l1 s1) :
    Calls Try.prog 6 #[.slice a0 l0 c0, .slice a1 l1 c1] w fun e w' => e = .returned (.bool true) ∧ Below w.heap.size w w' := by
  have hm0 := hs0.le
  have hm1 := hs1.le
  unfold maxLen at hm0 hm1
  have hnil := fun w => Lib.run_eql_slice_nil (P := Try.prog) w 27 9 none 0 0 0 0 Try.underlying27
  go_enter Try.func6, Try.ntmps6
  go_wp2_with fail
  refine (bytes14_any a0 a1 l0 l1 c0 c1 s0 s1 _ hs0 hs1).mono ?_
  rintro e w' ⟨⟨r, rfl, hr⟩, rfl⟩
  cases r with
  | false =>
    clear hr
    go_wp2
    go_ret
    exact ⟨rfl, Below.refl _ _⟩
  | true =>
    obtain ⟨hh0, hh1, hk0, hk1⟩ := hr rfl
    clear hr
    by_cases hg0 : l0 ≤ 65536
    rotate_left
    · go_wp2
      go_ret
      exact ⟨rfl, Below.refl _ _⟩
    have hd0 : decide ((65536 : Int) < (l0 : Int)) = false := by simp; omega
    by_cases hg1 : l1 ≤ 65536
    rotate_left
    · go_wp2
      go_ret
      exact ⟨rfl, Below.refl _ _⟩
    go_wp2_with fail
    refine (stringsBytes_any a0 l0 c0 s0 _ hs0 hk0 hh0).mono ?_
    rintro e w' ⟨⟨t0, rfl, ht0, ht0'⟩, rfl⟩
    go_wp2_with fail
    refine (stringsBytes_any a1 l1 c1 s1 _ hs1 hk1 hh1).mono ?_
    rintro e w' ⟨⟨t1, rfl, ht1, ht1'⟩, rfl⟩
    by_cases hsum : decide ((1048576 : Int) < t0 + t1) = true
    · go_wp2
      go_ret
      exact ⟨rfl, Below.refl _ _⟩
    have hsum' : decide ((1048576 : Int) < t0 + t1) = false := by simpa using hsum
    clear hsum
    go_wp2_with fail
    refine (build_any a0 a1 l0 l1 c0 c1 s0 s1 _ hs0 hs1 hg0 hg1).mono ?_
    rintro e w1 ⟨p, rfl, hch, hb1⟩
    go_wp2_with fail
    refine (chain_any _ p _ hch (by rw [suf_length]; omega)).mono ?_
    rintro e w2 ⟨v, rfl, hown, hb2, hv⟩
    rw [suf_length] at hown
    have hb12 : Below w.heap.size w w2 := hb1.trans (hb2.mono hb1.size)
    clear hch
    by_cases hz : l0 = 0
    · have hv0 : v = .slice none 0 0 := hv.2 (by subst hz; rfl)
      subst hv0
      have hz1 : ((l0 : Int) == 0) = true := by simp [hz]
      clear hz hv hown
      go_wp2
      go_ret
      exact ⟨rfl, hb12⟩
    · have hz1 : ((l0 : Int) == 0) = false := by simp; omega
      obtain ⟨a2, c2, rfl, hnc, hs2, _⟩ := own_strs hown (suf_length _ _ _) (fun j hj => suf_whole s0 l0 j hj) hs0.small
      have hs3 := hs0.later (Nat.le_refl _) hb12
      clear hz hv hown
      go_wp2_with fail
      refine (equal_any a2 a0 l0 c2 c0 s0 _ hs2 hs3).mono ?_
      rintro e w3 ⟨rfl, hb3⟩
      go_wp2
      go_ret
      exact ⟨rfl, hb12.trans (hb3.mono hb12.size)⟩

theorem below_cell {B b o : Nat} {w w' : World} {v : Value} (hb : Below B w w') (h : b < B) (hc : w.cell? ⟨b, o, none⟩ = some v) : w'.cell? ⟨b, o, none⟩ = some v :=
  (hb.cell (p := ⟨b, o, none⟩) h).trans hc

/-- A string in front of others. -/
def headed (x : ByteArray) (ss : Nat → ByteArray) : Nat → ByteArray
  | 0 => x
  | j + 1 => ss j
theorem headed_at (x : ByteArray) (ss : Nat → ByteArray) (n : Nat) : ∀ j, j < n + 1 → (x :: suf ss n n)[j]? = some (headed x ss j)
  | 0, _ => rfl
  | j + 1, h => by
    rw [List.getElem?_cons_succ, suf_whole ss n j (by omega)]; rfl
theorem headed_small {x : ByteArray} {ss : Nat → ByteArray} (hx : x.size ≤ maxLen) (hs : ∀ j, (ss j).size ≤ maxLen) : ∀ j, (headed x ss j).size ≤ maxLen
  | 0 => hx
  | j + 1 => hs j

set_option maxHeartbeats 1000000 in
/-- The second law on chains, behind its tests. -/
theorem first_any (sub : ByteArray) (hsub : sub.size ≤ maxLen) (a0 a1 : Option Addr) (l0 l1 c0 c1 : Nat) (s0 s1 : Nat → ByteArray) (w : World) (hs0 : Strs w a0 l0 s0) (hs1 : Strs w a1 l1 s1) :
    Calls Try.prog 7 #[.string sub, .slice a0 l0 c0, .slice a1 l1 c1] w fun e w' => e = .returned (.bool true) ∧ Below w.heap.size w w' := by
  have hm0 := hs0.le
  have hm1 := hs1.le
  unfold maxLen at hm0 hm1
  have hmS : sub.size ≤ 9223372036854775807 := by unfold maxLen at hsub; omega
  go_enter Try.func7, Try.ntmps7
  go_wp2_with fail
  refine (bytes19_any sub hsub a0 a1 l0 l1 c0 c1 s0 s1 _ hs0 hs1).mono ?_
  rintro e w' ⟨⟨r, rfl, hr⟩, rfl⟩
  cases r with
  | false =>
    clear hr
    go_wp2
    go_ret
    exact ⟨rfl, Below.refl _ _⟩
  | true =>
    obtain ⟨hh0, hh1, hk0, hk1⟩ := hr rfl
    clear hr
    by_cases hgs : sub.size ≤ 1048576
    rotate_left
    · go_wp2
      go_ret
      exact ⟨rfl, Below.refl _ _⟩
    have hds : decide ((1048576 : Int) < (sub.size : Int)) = false := by simp; omega
    by_cases hg0 : l0 ≤ 65536
    rotate_left
    · go_wp2
      go_ret
      exact ⟨rfl, Below.refl _ _⟩
    have hd0 : decide ((65536 : Int) < (l0 : Int)) = false := by simp; omega
    by_cases hg1 : l1 ≤ 65536
    rotate_left
    · go_wp2
      go_ret
      exact ⟨rfl, Below.refl _ _⟩
    go_wp2_with fail
    refine (stringsBytes_any a0 l0 c0 s0 _ hs0 hk0 hh0).mono ?_
    rintro e w' ⟨⟨t0, rfl, ht0, ht0'⟩, rfl⟩
    go_wp2_with fail
    refine (stringsBytes_any a1 l1 c1 s1 _ hs1 hk1 hh1).mono ?_
    rintro e w' ⟨⟨t1, rfl, ht1, ht1'⟩, rfl⟩
    by_cases hsum : decide ((1048576 : Int) < (sub.size : Int) + t0 + t1) = true
    · go_wp2
      go_ret
      exact ⟨rfl, Below.refl _ _⟩
    have hsum' : decide ((1048576 : Int) < (sub.size : Int) + t0 + t1) = false := by simpa using hsum
    clear hsum
    go_wp2_with fail
    refine (build_any a0 a1 l0 l1 c0 c1 s0 s1 _ hs0 hs1 hg0 hg1).mono ?_
    rintro e w1 ⟨p, rfl, hch, hb1⟩
    have hB1 := hb1.size
    go_wp2_with fail
    have hA : Below w1.heap.size w1 (w1.alloc (.cells #[.string sub, .pointer none, .pointer p] 36)) := (Below.refl _ _).alloc (Nat.le_refl _) _
    have hch1 : ChainAt (w1.alloc (.cells #[.string sub, .pointer none, .pointer p] 36)) (sub :: suf s0 l0 l0) (some ⟨w1.heap.size, 0, none⟩) :=
      chain_next hA (by rw [World.cell?_alloc_mark]; rfl) (by rw [World.cell?_alloc_mark]; rfl) hch
    have hch2 := hch.later (Nat.le_refl _) hA
    have hbA : Below w.heap.size w (w1.alloc (.cells #[.string sub, .pointer none, .pointer p] 36)) := hb1.alloc hB1 _
    refine (chain_any _ _ _ hch1 (by simp [suf_length]; omega)).mono ?_
    generalize w1.alloc (.cells #[.string sub, .pointer none, .pointer p] 36) = wa at hch1 hch2 hbA
    rintro e w2 ⟨v, rfl, hown1, hb2, hv1⟩
    have hb02 : Below w.heap.size w w2 := hbA.trans (hb2.mono hbA.size)
    have hch3 := hch2.later (Nat.le_refl _) hb2
    obtain ⟨a2, c2, rfl, hnc, hsA, hg⟩ := own_strs (n := l0 + 1) (ss := headed sub s0) (by simpa [suf_length] using hown1) (by simp [suf_length]) (fun j hj => headed_at sub s0 l0 j hj) (headed_small hsub hs0.small)
    obtain ⟨g, rfl, hgl⟩ := hg (by omega)
    clear hch hch1 hch2 hA hown1 hv1 hb1 hB1 hb2 hbA
    go_wp2_with fail
    refine (chain_any _ p _ hch3 (by rw [suf_length]; omega)).mono ?_
    rintro e w3 ⟨v2, rfl, hown2, hb3, hv2⟩
    rw [suf_length] at hown2
    obtain ⟨a3, c3, rfl, hnc3, hs3, _⟩ := own_strs hown2 (suf_length _ _ _) (fun j hj => suf_whole s0 l0 j hj) hs0.small
    have hb03 : Below w.heap.size w w3 := hb02.trans (hb3.mono hb02.size)
    have hsB := hsA.later (Nat.le_refl _) hb3
    have hc0 : w3.cell? ⟨g, 0, none⟩ = some (.string sub) := hsB.cell _ rfl 0 (by omega)
    clear hch3 hown2 hv2 hsA
    go_wp2_with fail
    · have hsC : Strs w3 (some ⟨g, 0, none⟩) l0 s0 := ⟨hs0.le, fun h => (by cases h), fun ad had j hj => (by omega), hs0.small⟩
      refine (equal_any (some ⟨g, 0, none⟩) a3 l0 0 c3 s0 _ hsC hs3).mono ?_
      rintro e w4 ⟨rfl, hb4⟩
      go_wp2
      go_ret
      exact ⟨rfl, hb03.trans (hb4.mono hb03.size)⟩
    · have hsC : Strs w3 (some ⟨g, 1, none⟩) l0 s0 := ⟨hs0.le, fun h => (by cases h), fun ad had j hj => (by
        cases had
        have := hsB.cell _ rfl (j + 1) (by omega)
        rw [Addr.add_lit] at this ⊢
        rw [show 1 + j = 0 + (j + 1) by omega]
        exact this), hs0.small⟩
      refine (equal_any (some ⟨g, 1, none⟩) a3 l0 (c2 - 1) c3 s0 _ hsC hs3).mono ?_
      rintro e w4 ⟨rfl, hb4⟩
      go_wp2
      go_ret
      exact ⟨rfl, hb03.trans (hb4.mono hb03.size)⟩
end Go.Proofs.Qxb6604257a.C
