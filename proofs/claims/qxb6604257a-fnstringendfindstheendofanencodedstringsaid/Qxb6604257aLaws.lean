import Derived.Test.Qxb6604257aWalks
import Derived.Laws.CopyOwn
namespace Go.Proofs.Qxb6604257a.W
open Go.ChangeShapes Go.WideShapes Go.ChangeAt Go.RowKit
open Plain

theorem info5 : (Try.prog.info? 5).map (fun i => (i.zero, i.size, i.bytes)) = some (some (.int .u8 0), 1, 1) := by kernel_rfl
theorem size5 : (Try.prog.info? 5).map (·.size) = some 1 := by kernel_rfl

/-- A row that the call made, known whole. -/
theorem own_full {w : World} {B g n : Nat} {xs : List Value} (h : w.ownsRow B 5 1 (.slice (some ⟨g, 0, none⟩) n n) n xs) : ∃ cur : List Value, w.heap[g]? = some (.cells cur.toArray 5 (0, 0)) ∧ cur.length = n := by
  rcases h.2 with ⟨h1, _⟩ | ⟨g', c', cur, hv, _, hh, _, _, hs, _⟩
  · cases h1
  · cases hv
    exact ⟨cur.toList, by simpa using hh, by simpa using hs⟩
theorem row_src {w : World} {b off len : Nat} {d : Nat → Int} (hc : ∀ j, j < len → w.cell? ⟨b, off + j, none⟩ = some (.int .u8 (d j))) :
    ∀ j v, ((List.range len).map (fun j => Value.int .u8 (d j)))[j]? = some v → w.cell? ((⟨b, off, none⟩ : Addr).add j) = some v := by
  intro j v hv
  have hj : j < len := by have := (List.getElem?_eq_some_iff.1 hv).1; simpa using this
  rw [Addr.add_lit, hc j hj]
  simpa [hj] using hv
theorem row_one (d : Nat → Int) (len : Nat) : ∀ v ∈ (List.range len).map (fun j => Value.int .u8 (d j)), v.oneCell' = true := by
  intro v hv
  obtain ⟨_, _, rfl⟩ := List.mem_map.1 hv
  rfl
theorem row_cells {w : World} {g len : Nat} {d : Nat → Int} {cur : List Value} (h : Hid (w.heap[g]? = some (.cells (splice cur 0 ((List.range len).map (fun j => Value.int .u8 (d j)))).toArray 5 (0, 0)))) (hl : cur.length = len) :
    ∀ j, j < len → w.cell? ⟨g, j, none⟩ = some (.int .u8 (d j)) := by
  intro j hj
  unfold World.cell?
  rw [h.out]
  simp [splice, hl, hj]

set_option maxHeartbeats 400000 in
/-- The first law, where there is something to look at. -/
theorem lands_in (b off len cap s : Nat) (d : Nat → Int) (w : World) (hl : len ≤ 1048576) (hs : s < len)
    (hc : ∀ j, j < len → w.cell? ⟨b, off + j, none⟩ = some (.int .u8 (d j))) :
    Calls Try.prog 4 #[.slice (some ⟨b, off, none⟩) len cap, .int .i64 s] w fun e w' => e = .returned (.bool true) ∧ Below w.heap.size w w' := by
  have hd : decide (len ≤ 1048576) = true := by simp [hl]
  have hm : len ≤ maxLen := by unfold maxLen; omega
  have hnil := fun w => run_neq_slice_nil_any (P := Try.prog) w 22 5 (some ⟨b, off, none⟩) len cap 0 0 Try.underlying22
  obtain ⟨i, hi, hz0, hz1, hz2⟩ := info_parts info5
  go_enter Try.func4, Try.ntmps4
  go_wp2_with (first | (go_at_call 11; refine (bytes11_any _ _ _ _ _ hm).mono ?_; rintro e w' ⟨rfl, rfl⟩) | (at_make; go_loud (refine wpList_make_full _ rfl _ _ 22 rfl w.heap.size 5 i (.int .u8 0) 1 Try.underlying22 hi hz0 hz1 _ _ _ _ len rfl rfl rfl rfl ?b2 hm (Nat.le_refl _) ?_)))
  case b2 => rw [hz2]; omega
  intro w1 hown1 hgrow1
  have hb1 : Below w.heap.size w w1 := (Below.refl _ _).grown hgrow1 (Nat.le_refl _) (fun k hk => by cases hk)
  obtain ⟨cur1, hg1, hl1⟩ := own_full hown1
  have hc1 : ∀ j, j < len → w1.cell? ⟨b, off + j, none⟩ = some (.int .u8 (d j)) := fun j hj => hgrow1.cell (hc j hj) (by simp)
  clear hc hown1
  go_wp2_with (refine wpList_copy_splice rfl (.tmp 27) (.tmp 28) 22 22 rfl 5 Try.underlying22 size5 _ _ _ _ _ _ rfl rfl w.heap.size 0 cur1 5 hg1 ((List.range len).map (fun j => Value.int .u8 (d j))) (by simp) (fun _ => ⟨rfl, _, rfl, row_src hc1⟩) (by simp [hl1]) (row_one d len) w.heap.size w hb1 (Nat.le_refl _) ?_)
  intro w2 hg2 hb2
  have hc2 := row_cells hg2 hl1
  clear hg2 hg1 hc1 hnil hz0 hz1 hz2 hi hgrow1
  go_wp2_with fail
  refine (zzStringEnd_any _ 0 _ _ _ d _ hl hs (by simpa using hc2)).mono ?_
  rintro e w' ⟨⟨E, rfl, hE⟩, rfl⟩
  obtain ⟨hE1, hE2, hE3⟩ := hE.lands hs
  clear hE
  by_cases hEl : E = len
  · have h1 : ((E : Int) == (len : Int)) = true := by simp [hEl]
    have hd1 : decide (E ≤ s) = false := by simp; omega
    clear hE3 hEl hc2
    go_wp2
    go_ret
    exact ⟨rfl, hb2⟩
  · have h1 : ((E : Int) == (len : Int)) = false := by simp; omega
    have hd1 : decide (E ≤ s) = false := by simp; omega
    have hce := hc2 (E - 1) (by omega)
    have h34 : d (E - 1) = 34 := hE3.resolve_left hEl
    rw [h34] at hce
    clear hE3 hEl hc2 h34
    go_wp2
    go_ret
    exact ⟨rfl, hb2⟩

/-- Where the first law does not look: too long, or the start outside. -/
theorem lands_out (a : Option Addr) (len cap : Nat) (x : Int) (w : World) (hm : len ≤ maxLen) (h : ¬ len ≤ 1048576 ∨ x < 0 ∨ (len : Int) ≤ x) :
    Calls Try.prog 4 #[.slice a len cap, .int .i64 x] w fun e w' => e = .returned (.bool true) ∧ Below w.heap.size w w' := by
  by_cases hl : len ≤ 1048576
  · have hd : decide (len ≤ 1048576) = true := by simp [hl]
    by_cases hx : x < 0
    · go_enter Try.func4, Try.ntmps4
      go_wp2_with (go_at_call 11; refine (bytes11_any _ _ _ _ _ hm).mono ?_; rintro e w' ⟨rfl, rfl⟩)
      go_ret
      exact ⟨rfl, Below.refl _ _⟩
    · have hx2 : (len : Int) ≤ x := by omega
      have hx0 : decide (x < 0) = false := by simp; omega
      clear h
      go_enter Try.func4, Try.ntmps4
      go_wp2_with (go_at_call 11; refine (bytes11_any _ _ _ _ _ hm).mono ?_; rintro e w' ⟨rfl, rfl⟩)
      go_ret
      exact ⟨rfl, Below.refl _ _⟩
  · have hd : decide (len ≤ 1048576) = false := by simp [hl]
    clear h
    go_enter Try.func4, Try.ntmps4
    go_wp2_with (go_at_call 11; refine (bytes11_any _ _ _ _ _ hm).mono ?_; rintro e w' ⟨rfl, rfl⟩)
    go_ret
    exact ⟨rfl, Below.refl _ _⟩

theorem equals_out (a : Option Addr) (len cap : Nat) (x : Int) (w : World) (hm : len ≤ maxLen) (h : ¬ len ≤ 1048576 ∨ x < 0 ∨ (len : Int) ≤ x) :
    Calls Try.prog 3 #[.slice a len cap, .int .i64 x] w fun e w' => e = .returned (.bool true) ∧ Below w.heap.size w w' := by
  by_cases hl : len ≤ 1048576
  · have hd : decide (len ≤ 1048576) = true := by simp [hl]
    by_cases hx : x < 0
    · go_enter Try.func3, Try.ntmps3
      go_wp2_with (go_at_call 8; refine (bytes8_any _ _ _ _ _ hm).mono ?_; rintro e w' ⟨rfl, rfl⟩)
      go_ret
      exact ⟨rfl, Below.refl _ _⟩
    · have hx2 : (len : Int) ≤ x := by omega
      have hx0 : decide (x < 0) = false := by simp; omega
      clear h
      go_enter Try.func3, Try.ntmps3
      go_wp2_with (go_at_call 8; refine (bytes8_any _ _ _ _ _ hm).mono ?_; rintro e w' ⟨rfl, rfl⟩)
      go_ret
      exact ⟨rfl, Below.refl _ _⟩
  · have hd : decide (len ≤ 1048576) = false := by simp [hl]
    clear h
    go_enter Try.func3, Try.ntmps3
    go_wp2_with (go_at_call 8; refine (bytes8_any _ _ _ _ _ hm).mono ?_; rintro e w' ⟨rfl, rfl⟩)
    go_ret
    exact ⟨rfl, Below.refl _ _⟩

set_option maxHeartbeats 400000 in
/-- The second law, where there is something to look at. -/
theorem equals_in (b off len cap s : Nat) (d : Nat → Int) (w : World) (hl : len ≤ 1048576) (hs : s < len)
    (hc : ∀ j, j < len → w.cell? ⟨b, off + j, none⟩ = some (.int .u8 (d j))) :
    Calls Try.prog 3 #[.slice (some ⟨b, off, none⟩) len cap, .int .i64 s] w fun e w' => e = .returned (.bool true) ∧ Below w.heap.size w w' := by
  have hd : decide (len ≤ 1048576) = true := by simp [hl]
  have hm : len ≤ maxLen := by unfold maxLen; omega
  have hnil := fun w => run_neq_slice_nil_any (P := Try.prog) w 22 5 (some ⟨b, off, none⟩) len cap 0 0 Try.underlying22
  obtain ⟨i, hi, hz0, hz1, hz2⟩ := info_parts info5
  go_enter Try.func3, Try.ntmps3
  go_wp2_with (first | (go_at_call 8; refine (bytes8_any _ _ _ _ _ hm).mono ?_; rintro e w' ⟨rfl, rfl⟩) | (at_make; refine wpList_make_full _ rfl _ _ 22 rfl w.heap.size 5 i (.int .u8 0) 1 Try.underlying22 hi hz0 hz1 _ _ _ _ len rfl rfl rfl rfl ?b2 hm (Nat.le_refl _) ?_))
  case b2 => rw [hz2]; omega
  intro w1 hown1 hgrow1
  have hb1 : Below w.heap.size w w1 := (Below.refl _ _).grown hgrow1 (Nat.le_refl _) (fun k hk => by cases hk)
  obtain ⟨cur1, hg1, hl1⟩ := own_full hown1
  have hc1 : ∀ j, j < len → w1.cell? ⟨b, off + j, none⟩ = some (.int .u8 (d j)) := fun j hj => hgrow1.cell (hc j hj) (by simp)
  clear hc hown1
  go_wp2_with (refine wpList_copy_splice rfl (.tmp 26) (.tmp 27) 22 22 rfl 5 Try.underlying22 size5 _ _ _ _ _ _ rfl rfl w.heap.size 0 cur1 5 hg1 ((List.range len).map (fun j => Value.int .u8 (d j))) (by simp) (fun _ => ⟨rfl, _, rfl, row_src hc1⟩) (by simp [hl1]) (row_one d len) w.heap.size w hb1 (Nat.le_refl _) ?_)
  intro w2 hg2 hb2
  have hc2 := row_cells hg2 hl1
  clear hg2 hg1 hc1 hnil hz0 hz1 hz2 hi hgrow1
  go_wp2_with fail
  refine (zzStringEnd_any _ 0 _ _ _ d _ hl hs (by simpa using hc2)).mono ?_
  rintro e w' ⟨⟨E, rfl, hE⟩, rfl⟩
  have HE : Hid (IsEnd d s len E) := hE
  clear hE
  go_wp2_with fail
  refine (parity_any _ 0 _ _ _ d _ hl hs (by simpa using hc2)).mono ?_
  rintro e w' ⟨⟨F, rfl, hF⟩, rfl⟩
  have hEF : E = F := HE.out.one hF
  subst hEF
  clear hF hc2
  go_wp2
  go_ret
  exact ⟨ret_bool (by simp), hb2⟩

/-- WHAT THE WALK IS TOLD OF A SLICE OF INTEGERS THAT CAME IN (after the guide's shell): it is nil; or it leads to a row of 'cap' cells, the numbers 'zs' (the first 'len' are its elements, the rest its spare room), each fitting its kind. -/
def IsRow (k : IntKind) (w : World) (a : Option Addr) (len cap : Nat) (zs : List Int) : Prop :=
  (a = none ∧ len = 0 ∧ cap = 0 ∧ zs = []) ∨
  ∃ x, a = some x ∧ len ≤ cap ∧ cap ≤ maxLen ∧ zs.length = cap ∧ (∀ i, i < zs.length → w.cell? (x.add i) = some (.int k (zs.getD i 0))) ∧ ∀ n ∈ zs, (Lit.int k n).wf = true

theorem IsRow.le {k : IntKind} {w : World} {a : Option Addr} {len cap : Nat} {zs : List Int} (h : IsRow k w a len cap zs) : len ≤ maxLen := by
  rcases h with ⟨_, rfl, _⟩ | ⟨x, _, h1, h2, _⟩
  · exact Nat.zero_le _
  · exact Nat.le_trans h1 h2

/-- Where there is an element, the row lies in a block. -/
theorem IsRow.lies {k : IntKind} {w : World} {a : Option Addr} {len cap : Nat} {zs : List Int} (h : IsRow k w a len cap zs) (h0 : 0 < len) :
    ∃ b off, a = some ⟨b, off, none⟩ ∧ ∀ j, j < len → w.cell? ⟨b, off + j, none⟩ = some (.int k (zs.getD j 0)) := by
  rcases h with ⟨_, rfl, _⟩ | ⟨x, rfl, h1, h2, h3, h4, _⟩
  · omega
  · obtain ⟨b, off, spot⟩ := x
    have hspot : spot = none := by simpa [Addr.add] using World.cell?_spot (h4 0 (by omega))
    subst hspot
    exact ⟨b, off, rfl, fun j hj => by rw [← add_plain]; exact h4 j (by omega)⟩

theorem lands_any (a : Option Addr) (len cap : Nat) (zs : List Int) (x : Int) (w : World) (hr : IsRow .u8 w a len cap zs) :
    Calls Try.prog 4 #[.slice a len cap, .int .i64 x] w fun e w' => e = .returned (.bool true) ∧ Below w.heap.size w w' := by
  by_cases h : ¬ len ≤ 1048576 ∨ x < 0 ∨ (len : Int) ≤ x
  · exact lands_out a len cap x w hr.le h
  · obtain ⟨s, rfl⟩ := Int.eq_ofNat_of_zero_le (show 0 ≤ x by omega)
    obtain ⟨b, off, rfl, hc⟩ := hr.lies (by omega)
    exact lands_in b off len cap s (fun j => zs.getD j 0) w (by omega) (by omega) hc

theorem equals_any (a : Option Addr) (len cap : Nat) (zs : List Int) (x : Int) (w : World) (hr : IsRow .u8 w a len cap zs) :
    Calls Try.prog 3 #[.slice a len cap, .int .i64 x] w fun e w' => e = .returned (.bool true) ∧ Below w.heap.size w w' := by
  by_cases h : ¬ len ≤ 1048576 ∨ x < 0 ∨ (len : Int) ≤ x
  · exact equals_out a len cap x w hr.le h
  · obtain ⟨s, rfl⟩ := Int.eq_ofNat_of_zero_le (show 0 ≤ x by omega)
    obtain ⟨b, off, rfl, hc⟩ := hr.lies (by omega)
    exact equals_in b off len cap s (fun j => zs.getD j 0) w (by omega) (by omega) hc
end Go.Proofs.Qxb6604257a.W
