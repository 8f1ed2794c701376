import Derived.Test.Qxb6604257aLaws
import Derived.Deep.RegionLaw
import Derived.Maps.AppendAt
namespace Go.Proofs.Qxb6604257a.W
open Go.ChangeShapes Go.WideShapes Go.ChangeAt Go.RowKit
open Plain

/-- 'append' within the capacity of a row of the call's own, as one step of a region that draws. -/
theorem step_append_fits {P : Program} {ops : Array Oper} {o : Oper} {a : Act} {w : World} {K : Act → World → Prop} {Q : Exit → Act → World → Prop} {E : Prop}
    (hg : o.guard = none) (s x : Operand) (t : TypeId) (hop : o.op = Op.call { callee := Callee.builtin Builtin.append, args := #[s, x], argTypes := #[t, t] })
    (base : Nat) (e : TypeId) (i : TypeInfo) (size : Nat) (h1 : P.underlying t = some (.slice e)) (h2 : P.info? e = some i) (h4 : i.size = size)
    (g k cap : Nat) (xs : List Value) (hs : a.eval s = .slice (some ⟨g, 0, none⟩) k cap) (hown : w.ownsRow base e size (.slice (some ⟨g, 0, none⟩) k cap) k xs) (ad : Addr) (m c : Nat) (news : List Value) (hx : a.eval x = .slice (some ad) m c) (hn : news.length = m * size)
    (hc : ∀ j u, news[j]? = some u → w.cell? (ad.add j) = some u) (h1c : ∀ u ∈ news, u.oneCell' = true) (b1 : k + m ≤ cap)
    (hK : ∀ w', w'.ownsRow base e size (.slice (some ⟨g, 0, none⟩) (k + m) cap) (k + m) (xs ++ news) → w.grownBy w' (some g) → K (a.put o.dst (.slice (some ⟨g, 0, none⟩) (k + m) cap)) w') :
    if Region.wanted o (yielded ops a.tmps) = true then Oper.wp P o a w K Q else E := by
  have hw : Region.wanted o (yielded ops a.tmps) = true := by simp [Region.wanted, hg]
  rw [if_pos hw]
  obtain ⟨w', hrun, r1, r2⟩ := run_append_fits (P := P) w base t o.type e i size h1 h2 h4 g k cap xs hown ad m c news hn hc h1c b1
  unfold Oper.wp
  simp [execOp, hop, resolve, invoke, builtin, hs, hx, hrun, Result.andThen]
  exact hK w' r1 r2

/-- The cells of a literal that was just laid. -/
theorem cells_new (w : World) (l : List Value) (t : TypeId) : ∀ j u, l[j]? = some u → (w.alloc (.cells l.toArray t)).cell? ((⟨w.heap.size, 0, none⟩ : Addr).add j) = some u := by
  intro j u h
  rw [Addr.add_lit, Nat.zero_add, World.cell?_alloc_mark]
  simpa using h

/-- A digit of the constant. -/
theorem hexS_all : ∀ m : Fin 16, (((⟨#[48, 49, 50, 51, 52, 53, 54, 55, 56, 57, 97, 98, 99, 100, 101, 102]⟩ : ByteArray)[m.val]'m.isLt).toNat : Int) = hex (m.val : Int) := by decide
theorem hexS_at (n : Int) (h0 : 0 ≤ n) (h : n < 16) (hp : n.toNat < (⟨#[48, 49, 50, 51, 52, 53, 54, 55, 56, 57, 97, 98, 99, 100, 101, 102]⟩ : ByteArray).size) :
    (((⟨#[48, 49, 50, 51, 52, 53, 54, 55, 56, 57, 97, 98, 99, 100, 101, 102]⟩ : ByteArray)[n.toNat]'hp).toNat : Int) = hex n := by
  obtain ⟨m, rfl⟩ := Int.eq_ofNat_of_zero_le h0
  exact hexS_all ⟨m, by omega⟩
theorem and15 (x : Int) (h0 : 0 ≤ x) (h : x ≤ 255) : bits .and .u8 x 15 = x % 16 := by
  obtain ⟨n, rfl⟩ := Int.eq_ofNat_of_zero_le h0
  have e := u8_and_nat n 15 (by omega) (by omega)
  have e2 := Nat.and_two_pow_sub_one_eq_mod n 4
  simp only [Nat.reducePow, Nat.reduceSub] at e2
  rw [e2] at e
  exact e
theorem one1 (a : Int) : ∀ u ∈ [Value.int .u8 a], u.oneCell' = true := by
  intro u hu
  simp at hu
  rw [hu]; rfl
theorem one2 (a b : Int) : ∀ u ∈ [Value.int .u8 a, .int .u8 b], u.oneCell' = true := by
  intro u hu
  simp at hu
  rcases hu with rfl | rfl <;> rfl
theorem one6 (a b c d e f : Int) : ∀ u ∈ [Value.int .u8 a, .int .u8 b, .int .u8 c, .int .u8 d, .int .u8 e, .int .u8 f], u.oneCell' = true := by
  intro u hu
  simp at hu
  rcases hu with rfl | rfl | rfl | rfl | rfl | rfl <;> rfl
theorem R_succ (d : Nat → Int) (j : Nat) : encL ((List.range (j + 1)).map d) = encL ((List.range j).map d) ++ enc (d j) := by
  rw [List.range_succ, List.map_append, List.map_singleton, encL_snoc]

/-- The row behind an append, said of the numbers. -/
theorem own_next {w : World} {B g m n cap : Nat} {ys zs : List Int} {news : List Value} (h : w.ownsRow B 5 1 (.slice (some ⟨g, 0, none⟩) (m + n) cap) (m + n) (ys.map (Value.int .u8) ++ news)) (hn : news = zs.map (Value.int .u8)) :
    w.ownsRow B 5 1 (.slice (some ⟨g, 0, none⟩) (m + n) cap) (m + n) ((ys ++ zs).map (Value.int .u8)) := by
  rw [List.map_append, ← hn]; exact h
theorem own_ge {w : World} {B g m n cap : Nat} {xs : List Value} (h : w.ownsRow B 5 1 (.slice (some ⟨g, 0, none⟩) m cap) n xs) : ∀ k, some g = some k → B ≤ k := by
  intro k hk
  cases hk
  exact (h.lt g rfl).1
theorem next_eq {xs ys : List Int} {d : Nat → Int} {j : Nat} (h : ys = xs ++ encL ((List.range j).map d)) : ys ++ enc (d j) = xs ++ encL ((List.range (j + 1)).map d) := by
  rw [R_succ, h, List.append_assoc]
theorem next_len {ys : List Int} {c : Int} {m n : Nat} (h : ys.length = m) (hn : (enc c).length = n) : (ys ++ enc c).length = m + n := by
  rw [List.length_append, h, hn]

set_option maxHeartbeats 1000000 in
theorem escaped_any (B g k cap b off len c : Nat) (xs : List Int) (d : Nat → Int) (w : World) (hB : B ≤ w.heap.size) (hbB : b < B) (hl : len ≤ 1048576) (hxk : xs.length = k) (hroom : k + 6 * len ≤ cap)
    (hown : w.ownsRow B 5 1 (.slice (some ⟨g, 0, none⟩) k cap) k (xs.map (Value.int .u8)))
    (hc : ∀ j, j < len → w.cell? ⟨b, off + j, none⟩ = some (.int .u8 (d j))) (hd : ∀ j, 0 ≤ d j ∧ d j ≤ 255) :
    Calls Try.prog 13 #[.slice (some ⟨g, 0, none⟩) k cap, .slice (some ⟨b, off, none⟩) len c] w fun e w' => ∃ (m : Nat) (ys : List Int), e = .returned (.slice (some ⟨g, 0, none⟩) m cap) ∧ ys = xs ++ encL ((List.range len).map d) ∧ ys.length = m ∧
      w'.ownsRow B 5 1 (.slice (some ⟨g, 0, none⟩) m cap) m (ys.map (Value.int .u8)) ∧ Below B w w' := by
  obtain ⟨i, hi, hz0, hz1, hz2⟩ := info_parts info5
  have HX : Hid (xs.length = k) := hxk
  have HO : Hid (w.ownsRow B 5 1 (.slice (some ⟨g, 0, none⟩) k cap) k (xs.map (Value.int .u8))) := hown
  have HD : Hid (∀ j, 0 ≤ d j ∧ d j ≤ 255) := hd
  have HC : Hid (∀ j, j < len → w.cell? ⟨b, off + j, none⟩ = some (.int .u8 (d j))) := hc
  clear hxk hown hd hc
  go_enter Try.func13, Try.ntmps13
  go_wp2
  go_loopw [0, 5, 6] (fun s n _ wr => ∃ (j m : Nat) (ys : List Int), j ≤ len ∧ n = .int .i64 j ∧ s = .slice (some ⟨g, 0, none⟩) m cap ∧ m + 6 * (len - j) ≤ cap ∧ Hid (ys = xs ++ encL ((List.range j).map d)) ∧ Hid (ys.length = m) ∧
      wr.ownsRow B 5 1 (.slice (some ⟨g, 0, none⟩) m cap) m (ys.map (Value.int .u8)) ∧ Below B w wr) (fun _ n _ _ => len - (intOf n).toNat)
  case atStart => exact ⟨0, k, xs, Nat.zero_le _, rfl, rfl, by omega, (show xs = _ by simp [encL]), HX, HO, Below.refl _ _⟩
  case round =>
    obtain ⟨j, m, ys, hj, rfl, rfl, hm, HY, HL, hown, hbel⟩ := hrel
    rename_i wr _
    by_cases hlt : j < len
    · have hck : wr.cell? ⟨b, off + j, none⟩ = some (.int .u8 (d j)) := (hbel.cell (p := ⟨b, off + j, none⟩) hbB).trans (HC.out j hlt)
      have hdj := HD.out j
      obtain ⟨hd0, hd1⟩ := hdj
      have hBr : B ≤ wr.heap.size := Nat.le_trans hB hbel.size
      have hge := own_ge hown
      by_cases h34 : d j = 34 ∨ d j = 92
      · have HE : Hid (enc (d j) = [92, d j]) := by show _ = _; simp [enc, h34]
        by_cases h1 : d j = 34
        · have h34' : (d j == 34) = true := by simpa using h1
          clear h1
          clear h34
          go_wp2_with (at_builtin; refine wpList_append_fits _ rfl _ _ 22 rfl B 5 i 1 Try.underlying22 hi hz1 g m cap (ys.map (Value.int .u8)) rfl (hown.alloc _) ⟨wr.heap.size, 0, none⟩ 2 2 _ rfl rfl (cells_new _ _ _) (one2 _ _) (by omega) ?_; intro w2 hown2 hgrow2)
          have hown3 := own_next (zs := enc (d j)) hown2 (by rw [HE.out]; rfl)
          have hbel3 : Below B w w2 := (hbel.alloc hBr _).grown hgrow2 (by simp; omega) hge
          go_roundw
          case rel => exact ⟨j + 1, m + 2, ys ++ enc (d j), by omega, by go_num, rfl, by omega, next_eq HY.out, next_len HL.out (by rw [HE.out]; rfl), hown3, hbel3⟩
          case measure => simp [intOf]; omega
        · have h34' : (d j == 34) = false := by simpa using h1
          have h92' : (d j == 92) = true := by simp; omega
          clear h1
          clear h34
          go_wp2_with (at_builtin; refine wpList_append_fits _ rfl _ _ 22 rfl B 5 i 1 Try.underlying22 hi hz1 g m cap (ys.map (Value.int .u8)) rfl (hown.alloc _) ⟨wr.heap.size, 0, none⟩ 2 2 _ rfl rfl (cells_new _ _ _) (one2 _ _) (by omega) ?_; intro w2 hown2 hgrow2)
          have hown3 := own_next (zs := enc (d j)) hown2 (by rw [HE.out]; rfl)
          have hbel3 : Below B w w2 := (hbel.alloc hBr _).grown hgrow2 (by simp; omega) hge
          go_roundw
          case rel => exact ⟨j + 1, m + 2, ys ++ enc (d j), by omega, by go_num, rfl, by omega, next_eq HY.out, next_len HL.out (by rw [HE.out]; rfl), hown3, hbel3⟩
          case measure => simp [intOf]; omega
      · have h34' : (d j == 34) = false := by simp; omega
        have h92' : (d j == 92) = false := by simp; omega
        by_cases h32 : d j < 32
        · have HE : Hid (enc (d j) = [92, 117, 48, 48, hex (d j / 16), hex (d j % 16)]) := by show _ = _; simp [enc, h34, h32]
          clear h34
          go_wp2
          have hq1 : 0 ≤ d j / 16 := by omega
          have hq2 : d j / 16 < 16 := by omega
          have hq3 : 0 ≤ d j % 16 := by omega
          have hq4 : d j % 16 < 16 := by omega
          have hand := and15 (d j) hd0 hd1
          go_region_law ((refine step_append_fits (by rfl) (.tmp 29) (.tmp 36) 22 (by rfl) B 5 i 1 Try.underlying22 hi hz1 g m cap (ys.map (Value.int .u8)) (by rfl) (hown.drew.alloc _) ⟨wr.heap.size, 0, none⟩ 6 6 _ (by rfl) (by rfl) (cells_new _ _ _) (one6 _ _ _ _ _ _) (by omega) ?_; intro w2 hown2 hgrow2))
          all_goals
            have hown3 := own_next (zs := enc (d j)) hown2 (by rw [HE.out]; simp only [List.map_cons, List.map_nil]; rw [hexS_at _ hq1 hq2, hexS_at _ hq3 hq4])
            have hbel3 : Below B w w2 := (hbel.alloc hBr _).drew.grown hgrow2 (by simp; omega) hge
            clear hand hown2 hgrow2
            go_wp2
            go_roundw
            case rel => exact ⟨j + 1, m + 6, ys ++ enc (d j), by omega, by go_num, rfl, by omega, next_eq HY.out, next_len HL.out (by rw [HE.out]; rfl), hown3, hbel3⟩
            case measure => simp [intOf]; omega
        · have HE : Hid (enc (d j) = [d j]) := by show _ = _; simp [enc, h34, h32]
          clear h34
          go_wp2_with (at_builtin; refine wpList_append_fits _ rfl _ _ 22 rfl B 5 i 1 Try.underlying22 hi hz1 g m cap (ys.map (Value.int .u8)) rfl (hown.alloc _) ⟨wr.heap.size, 0, none⟩ 1 1 _ rfl rfl (cells_new _ _ _) (one1 _) (by omega) ?_; intro w2 hown2 hgrow2)
          have hown3 := own_next (zs := enc (d j)) hown2 (by rw [HE.out]; rfl)
          have hbel3 : Below B w w2 := (hbel.alloc hBr _).grown hgrow2 (by simp; omega) hge
          go_roundw
          case rel => exact ⟨j + 1, m + 1, ys ++ enc (d j), by omega, by go_num, rfl, by omega, next_eq HY.out, next_len HL.out (by rw [HE.out]; rfl), hown3, hbel3⟩
          case measure => simp [intOf]; omega
    · obtain rfl : j = len := by omega
      go_wp2
      go_ret
      exact ⟨m, ys, rfl, HY.out, HL.out, hown, hbel⟩
end Go.Proofs.Qxb6604257a.W
