import Derived.Test.Qxb6604257aEnc
import Derived.OpenShut
namespace Go.Proofs.Qxb6604257a.W
open Go.ChangeShapes Go.WideShapes Go.ChangeAt Go.RowKit
open Plain

/-- A slice of bytes that can be read: its elements L. -/
structure Src (B : Nat) (w : World) (a : Option Addr) (len cap : Nat) (L : List Int) : Prop where
  size : L.length = len
  nil : a = none → len = 0 ∧ cap = 0
  cell : ∀ ad, a = some ad → ∀ j u, (L.map (Value.int .u8))[j]? = some u → w.cell? (ad.add j) = some u
  low : ∀ ad, a = some ad → 0 < len → ad.block < B
  byte : ∀ c ∈ L, 0 ≤ c ∧ c ≤ 255

theorem add_block (ad : Addr) (j : Nat) : (ad.add j).block = ad.block := by
  unfold Addr.add; split <;> rfl

theorem IsRow.src {w : World} {a : Option Addr} {len cap : Nat} {zs : List Int} (h : IsRow .u8 w a len cap zs) : Src w.heap.size w a len cap (zs.take len) := by
  rcases h with ⟨rfl, rfl, rfl, rfl⟩ | ⟨x, rfl, h1, h2, h3, h4, h5⟩
  · exact ⟨rfl, fun _ => ⟨rfl, rfl⟩, fun _ h => (by cases h), fun _ h => (by cases h), fun c hc => (by simp at hc)⟩
  · refine ⟨by simp; omega, fun h => (by cases h), fun ad had j u hu => ?_, fun ad had h0 => ?_, fun c hc => ?_⟩
    · cases had
      have hj : j < len := by have := (List.getElem?_eq_some_iff.1 hu).1; simp at this; omega
      rw [h4 j (by omega)]
      rw [← hu]
      simp [List.getD, hj, List.getElem?_eq_getElem (show j < zs.length by omega)]
    · cases had
      have := World.block_lt_of_cell? w _ (h4 0 (by omega))
      rwa [add_block] at this
    · have hw := h5 c (List.mem_of_mem_take hc)
      exact bounds_u8 hw

theorem Src.later {B : Nat} {w w1 : World} {a : Option Addr} {len cap : Nat} {L : List Int} (h : Src B w a len cap L) (hb : Below B w w1) : Src B w1 a len cap L := by
  refine ⟨h.size, h.nil, fun ad had j u hu => ?_, h.low, h.byte⟩
  have hj : j < len := by have := (List.getElem?_eq_some_iff.1 hu).1; rw [← h.size]; simpa using this
  rw [hb.cell (p := ad.add j) (by rw [add_block]; exact h.low ad had (by omega))]
  exact h.cell ad had j u hu

theorem Src.lies {B : Nat} {w : World} {a : Option Addr} {len cap : Nat} {L : List Int} (h : Src B w a len cap L) (h0 : 0 < len) :
    ∃ b off, a = some ⟨b, off, none⟩ ∧ b < B ∧ ∀ j, j < len → w.cell? ⟨b, off + j, none⟩ = some (.int .u8 (L.getD j 0)) := by
  cases a with
  | none => have := (h.nil rfl).1; omega
  | some x =>
    have hc : ∀ j, j < len → w.cell? (x.add j) = some (.int .u8 (L.getD j 0)) := fun j hj => h.cell x rfl j _ (by
      have hs := h.size
      simp [List.getD, List.getElem?_eq_getElem (show j < L.length by omega)])
    have hlow := h.low x rfl h0
    obtain ⟨b, off, spot⟩ := x
    have hspot : spot = none := by simpa [Addr.add] using World.cell?_spot (hc 0 h0)
    subst hspot
    exact ⟨b, off, rfl, hlow, fun j hj => by rw [← add_plain]; exact hc j hj⟩

theorem range_getD (L : List Int) : (List.range L.length).map (fun j => L.getD j 0) = L := by
  apply List.ext_getElem
  · simp
  · intro j h1 h2
    simp [List.getD, List.getElem?_eq_getElem h2]

/-- Nothing to escape. -/
theorem escaped_empty (a : Option Addr) (g k cap c : Nat) (w : World) :
    Calls Try.prog 13 #[.slice (some ⟨g, 0, none⟩) k cap, .slice a 0 c] w fun e w' => e = .returned (.slice (some ⟨g, 0, none⟩) k cap) ∧ w = w' := by
  go_enter Try.func13, Try.ntmps13
  go_wp2
  go_loop [0, 5] (fun s n => s = .slice (some ⟨g, 0, none⟩) k cap ∧ n = .int .i64 0) (fun _ _ => 0)
  case atStart => exact ⟨rfl, rfl⟩
  case round =>
    obtain ⟨rfl, rfl⟩ := hrel
    go_wp2
    go_ret
    exact ⟨rfl, rfl⟩

theorem escaped_src (B g k cap len c : Nat) (a : Option Addr) (xs L : List Int) (w : World) (hs : Src B w a len c L) (hB : B ≤ w.heap.size) (hl : len ≤ 1048576) (hxk : xs.length = k) (hroom : k + 6 * len ≤ cap)
    (hown : w.ownsRow B 5 1 (.slice (some ⟨g, 0, none⟩) k cap) k (xs.map (Value.int .u8))) :
    Calls Try.prog 13 #[.slice (some ⟨g, 0, none⟩) k cap, .slice a len c] w fun e w' => ∃ (m : Nat) (ys : List Int), e = .returned (.slice (some ⟨g, 0, none⟩) m cap) ∧ ys = xs ++ encL L ∧ ys.length = m ∧
      w'.ownsRow B 5 1 (.slice (some ⟨g, 0, none⟩) m cap) m (ys.map (Value.int .u8)) ∧ Below B w w' := by
  by_cases h0 : len = 0
  · subst h0
    have hL : L = [] := List.eq_nil_of_length_eq_zero hs.size
    refine (escaped_empty a g k cap c w).mono ?_
    rintro e w' ⟨rfl, rfl⟩
    exact ⟨k, xs, rfl, by rw [hL]; simp [encL], hxk, hown, Below.refl _ _⟩
  · obtain ⟨b, off, rfl, hb, hc⟩ := hs.lies (by omega)
    have hr := escaped_any B g k cap b off len c xs (fun j => L.getD j 0) w hB hb hl hxk hroom hown hc (fun j => by
      by_cases hj : j < L.length
      · have := hs.byte L[j] (List.getElem_mem hj)
        simpa [List.getD, List.getElem?_eq_getElem hj] using this
      · simp [List.getD, List.getElem?_eq_none (show L.length ≤ j by omega)])
    rw [← hs.size, range_getD] at hr
    rw [← hs.size]
    exact hr

theorem bytes12_any (a0 a1 a2 : Option Addr) (l0 l1 l2 c0 c1 c2 : Nat) (w : World) (h0 : l0 ≤ maxLen) (h1 : l1 ≤ maxLen) (h2 : l2 ≤ maxLen) :
    Calls Try.prog 12 #[.slice a0 l0 c0, .slice a1 l1 c1, .slice a2 l2 c2] w fun e w' => e = .returned (.bool (decide (l0 + l1 + l2 ≤ 1048576))) ∧ w = w' := by
  unfold maxLen at h0 h1 h2
  by_cases h : l0 + l1 + l2 ≤ 1048576
  · go_enter Try.func12, Try.ntmps12
    go_wp2
    go_ret
    exact ⟨ret_bool (by simp [h]), rfl⟩
  · go_enter Try.func12, Try.ntmps12
    go_wp2
    all_goals
      go_ret
      exact ⟨ret_bool (by simp [h]), rfl⟩

/-- The cells of a row of the call's own. -/
theorem own_cells {w : World} {B g n cap : Nat} {ys : List Int} (h : w.ownsRow B 5 1 (.slice (some ⟨g, 0, none⟩) n cap) n (ys.map (Value.int .u8))) (hn : ys.length = n) :
    ∀ j, j < n → w.cell? ⟨g, j, none⟩ = some (.int .u8 (ys.getD j 0)) := by
  intro j hj
  rw [h.cellAt j (by omega)]
  simp [List.getD, List.getElem?_eq_getElem (show j < ys.length by omega)]

set_option maxHeartbeats 1000000 in
/-- The third law, where there is something to look at. -/
theorem enc_in (a0 a1 a2 : Option Addr) (l0 l1 l2 c0 c1 c2 : Nat) (P S T : List Int) (w : World) (h0 : Src w.heap.size w a0 l0 c0 P) (h1 : Src w.heap.size w a1 l1 c1 S) (h2 : Src w.heap.size w a2 l2 c2 T)
    (hsum : l0 + 6 * l1 + l2 + 2 ≤ 1048576) :
    Calls Try.prog 5 #[.slice a0 l0 c0, .slice a1 l1 c1, .slice a2 l2 c2] w fun e w' => e = .returned (.bool true) ∧ Below w.heap.size w w' := by
  have hd : decide (l0 + l1 + l2 ≤ 1048576) = true := by simp; omega
  have hm0 : l0 ≤ maxLen := by unfold maxLen; omega
  have hm1 : l1 ≤ maxLen := by unfold maxLen; omega
  have hm2 : l2 ≤ maxLen := by unfold maxLen; omega
  have hg0 : decide ((1048576 : Int) < (l0 : Int)) = false := by simp; omega
  have hg1 : decide ((1048576 : Int) < (l1 : Int)) = false := by simp; omega
  have hgs : decide ((1048576 : Int) < (l0 : Int) + 6 * (l1 : Int) + (l2 : Int) + 2) = false := by simp; omega
  obtain ⟨N, hN1, hN2⟩ : ∃ N : Nat, l0 + 6 * l1 + l2 + 2 ≤ N ∧ N ≤ l0 + 6 * l1 + l2 + 2 := ⟨_, Nat.le_refl _, Nat.le_refl _⟩
  obtain ⟨i, hi, hz0, hz1, hz2⟩ := info_parts info5
  go_enter Try.func5, Try.ntmps5
  go_wp2_with (first | (go_at_call 12; refine (bytes12_any _ _ _ _ _ _ _ _ _ _ hm0 hm1 hm2).mono ?_; rintro e w' ⟨rfl, rfl⟩) | (at_make; refine wpList_make_own _ rfl _ _ 22 rfl w.heap.size 5 i (.int .u8 0) 1 Try.underlying22 hi hz0 hz1 _ _ _ N rfl rfl ?hC ?b2 ?b3 (Nat.le_refl _) ?_))
  case hC => omega
  case b2 => rw [hz2]; omega
  case b3 => unfold maxLen; omega
  intro w1 hown1 hgrow1
  have hb1 : Below w.heap.size w w1 := (Below.refl _ _).grown hgrow1 (Nat.le_refl _) (fun k hk => by cases hk)
  have hge := own_ge hown1
  clear hgrow1 hg0 hg1 hd hgs
  have hs1 := h0.later hb1
  go_wp2_with (at_builtin; refine wpList_append_fits_any _ rfl _ _ 22 rfl w.heap.size 5 i 1 Try.underlying22 hi hz1 w.heap.size 0 N [] rfl hown1 a0 l0 c0 (P.map (Value.int .u8)) rfl ?hn hs1.nil hs1.cell (ints_oneCell _ _) ?b1 ?_)
  case hn => simp [h0.size]
  case b1 => omega
  intro w2 hown2 hgrow2
  have hb2 : Below w.heap.size w w2 := hb1.grown hgrow2 hb1.size hge
  have hB2 := hb2.size
  clear hgrow2 hs1 hb1 hown1
  go_wp2_with (at_builtin; refine wpList_append_fits _ rfl _ _ 22 rfl w.heap.size 5 i 1 Try.underlying22 hi hz1 w.heap.size l0 N (P.map (Value.int .u8)) rfl (hown2.alloc _) ⟨w2.heap.size, 0, none⟩ 1 1 _ rfl rfl (cells_new _ _ _) (one1 34) ?b1 ?_)
  case b1 => omega
  intro w3 hown3' hgrow3
  have hb3 : Below w.heap.size w w3 := (hb2.alloc hB2 _).grown hgrow3 (by simp; omega) hge
  have hB3 := hb3.size
  have hown3 := own_next (zs := [34]) hown3' rfl
  have hs3 := h1.later hb3
  clear hgrow3 hown3' hown2 hb2
  go_wp2_with fail
  refine (escaped_src w.heap.size w.heap.size (l0 + 1) N l1 c1 a1 (P ++ [34]) S w3 hs3 hB3 (by omega) (by simp [h0.size]) (by omega) hown3).mono ?_
  rintro e w4 ⟨m, ys, rfl, hy, hm, hown4, hb4'⟩
  have hle := encL_length S
  have hmle : m ≤ l0 + 1 + 6 * l1 := by rw [← hm, hy]; simp [h0.size]; rw [h1.size] at hle; omega
  have hmge : l0 + 1 ≤ m := by rw [← hm, hy]; simp [h0.size]
  have HY : Hid (ys = P ++ [34] ++ encL S) := hy
  have HM : Hid (ys.length = m) := hm
  have hb4 := hb3.trans hb4'
  have hB4 := hb4.size
  clear hy hm hle hown3 hs3 hb3 hb4'
  go_wp2_with (at_builtin; refine wpList_append_fits _ rfl _ _ 22 rfl w.heap.size 5 i 1 Try.underlying22 hi hz1 w.heap.size m N (ys.map (Value.int .u8)) rfl (hown4.alloc _) ⟨w4.heap.size, 0, none⟩ 1 1 _ rfl rfl (cells_new _ _ _) (one1 34) ?b1 ?_)
  case b1 => omega
  intro w5 hown5' hgrow5
  have hb5 : Below w.heap.size w w5 := (hb4.alloc hB4 _).grown hgrow5 (by simp; omega) hge
  have hB5 := hb5.size
  have hown5 := own_next (zs := [34]) hown5' rfl
  have hs5 := h2.later hb5
  clear hgrow5 hown5' hown4 hb4
  go_wp2_with (at_builtin; refine wpList_append_fits_any _ rfl _ _ 22 rfl w.heap.size 5 i 1 Try.underlying22 hi hz1 w.heap.size (m + 1) N ((ys ++ [34]).map (Value.int .u8)) rfl hown5 a2 l2 c2 (T.map (Value.int .u8)) rfl ?hn hs5.nil hs5.cell (ints_oneCell _ _) ?b1 ?_)
  case hn => simp [h2.size]
  case b1 => omega
  intro w6 hown6' hgrow6
  have hb6 : Below w.heap.size w w6 := hb5.grown hgrow6 hB5 hge
  have hown6 := own_next (zs := 34 :: T) hown6' rfl
  have hc6 := own_cells hown6 (by simp [HM.out, h2.size]; omega)
  clear hgrow6 hown6' hown5 hs5 hb5 hown6 hi hz0 hz1 hz2 hge
  go_wp2_with fail
  refine (zzStringEnd_any _ 0 _ _ l0 (fun j => (ys ++ 34 :: T).getD j 0) _ (by omega) (by omega) (by simpa using hc6)).mono ?_
  rintro e w' ⟨⟨E, rfl, hE⟩, rfl⟩
  have hmE : E = m + 1 := by
    have hen := encoded P S T (fun c hc => (h1.byte c hc).1)
    have e1 : ys ++ 34 :: T = P ++ 34 :: (encL S ++ 34 :: T) := by rw [HY.out]; simp
    have e2 : (P ++ 34 :: (encL S ++ 34 :: T)).length = m + 1 + l2 := by rw [← e1]; simp [HM.out, h2.size]; omega
    have e3 : P.length + 1 + (encL S).length + 1 = m + 1 := by rw [← HM.out, HY.out]; simp; omega
    rw [e2, e3, h0.size, ← e1] at hen
    exact hE.one hen
  subst hmE
  clear hE hc6 h0 h1 h2 HY HM
  go_wp2
  go_ret
  exact ⟨ret_bool (by simp), hb6⟩

/-- Where the third law does not look: too much in all. -/
theorem enc_out (a0 a1 a2 : Option Addr) (l0 l1 l2 c0 c1 c2 : Nat) (w : World) (hm0 : l0 ≤ maxLen) (hm1 : l1 ≤ maxLen) (hm2 : l2 ≤ maxLen) (hsum : ¬ l0 + 6 * l1 + l2 + 2 ≤ 1048576) :
    Calls Try.prog 5 #[.slice a0 l0 c0, .slice a1 l1 c1, .slice a2 l2 c2] w fun e w' => e = .returned (.bool true) ∧ Below w.heap.size w w' := by
  by_cases h : l0 + l1 + l2 ≤ 1048576
  · have hd : decide (l0 + l1 + l2 ≤ 1048576) = true := by simp; omega
    have hg0 : decide ((1048576 : Int) < (l0 : Int)) = false := by simp; omega
    have hg1 : decide ((1048576 : Int) < (l1 : Int)) = false := by simp; omega
    have hgs : decide ((1048576 : Int) < (l0 : Int) + 6 * (l1 : Int) + (l2 : Int) + 2) = true := by simp; omega
    go_enter Try.func5, Try.ntmps5
    go_wp2_with (go_at_call 12; refine (bytes12_any _ _ _ _ _ _ _ _ _ _ hm0 hm1 hm2).mono ?_; rintro e w' ⟨rfl, rfl⟩)
    go_ret
    exact ⟨rfl, Below.refl _ _⟩
  · have hd : decide (l0 + l1 + l2 ≤ 1048576) = false := by simp; omega
    go_enter Try.func5, Try.ntmps5
    go_wp2_with (go_at_call 12; refine (bytes12_any _ _ _ _ _ _ _ _ _ _ hm0 hm1 hm2).mono ?_; rintro e w' ⟨rfl, rfl⟩)
    go_ret
    exact ⟨rfl, Below.refl _ _⟩

theorem enc_any (a0 a1 a2 : Option Addr) (l0 l1 l2 c0 c1 c2 : Nat) (z0 z1 z2 : List Int) (w : World) (h0 : IsRow .u8 w a0 l0 c0 z0) (h1 : IsRow .u8 w a1 l1 c1 z1) (h2 : IsRow .u8 w a2 l2 c2 z2) :
    Calls Try.prog 5 #[.slice a0 l0 c0, .slice a1 l1 c1, .slice a2 l2 c2] w fun e w' => e = .returned (.bool true) ∧ Below w.heap.size w w' := by
  by_cases h : l0 + 6 * l1 + l2 + 2 ≤ 1048576
  · exact enc_in a0 a1 a2 l0 l1 l2 c0 c1 c2 _ _ _ w h0.src h1.src h2.src h
  · exact enc_out a0 a1 a2 l0 l1 l2 c0 c1 c2 w h0.le h1.le h2.le h
end Go.Proofs.Qxb6604257a.W
