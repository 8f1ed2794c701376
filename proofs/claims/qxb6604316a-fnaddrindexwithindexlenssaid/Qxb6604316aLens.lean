import Derived.Test.Qxb6604316aWalks
import Derived.Deep.RegionHeld3
namespace Go.Proofs.Qxb6604316a.W
open Go.ChangeShapes Go.WideShapes Go.ChangeAt Go.RowKit

/-- What is held through the law: nothing old has turned; the two addresses lie where they lie. -/
def S6 (w0 : World) (ga gb : Nat) (a b c x y z : Int) (W : World) : Prop :=
  Below w0.heap.size w0 W ∧ (W.cell? ⟨ga, 0, none⟩ = some (.int .u8 a) ∧ W.cell? ⟨ga, 1, none⟩ = some (.int .u8 b) ∧ W.cell? ⟨ga, 2, none⟩ = some (.int .u8 c)) ∧
    (W.cell? ⟨gb, 0, none⟩ = some (.int .u8 x) ∧ W.cell? ⟨gb, 1, none⟩ = some (.int .u8 y) ∧ W.cell? ⟨gb, 2, none⟩ = some (.int .u8 z))

theorem kept {W W' : World} {g o : Nat} {v : Value} (hb : Below W.heap.size W W') (h : W.cell? ⟨g, o, none⟩ = some v) : W'.cell? ⟨g, o, none⟩ = some v :=
  (hb.cell (p := ⟨g, o, none⟩) (World.block_lt_of_cell? W _ h)).trans h

theorem S6.step {w0 : World} {ga gb : Nat} {a b c x y z : Int} {W W' : World} (h : S6 w0 ga gb a b c x y z W) (hb : Below W.heap.size W W') : S6 w0 ga gb a b c x y z W' := by
  obtain ⟨h0, ⟨h1, h2, h3⟩, h4, h5, h6⟩ := h
  exact ⟨h0.trans (hb.mono h0.size), ⟨kept hb h1, kept hb h2, kept hb h3⟩, kept hb h4, kept hb h5, kept hb h6⟩

theorem S6.drewed {w0 : World} {ga gb : Nat} {a b c x y z : Int} {W : World} (h : S6 w0 ga gb a b c x y z W) : S6 w0 ga gb a b c x y z W.drew := by
  obtain ⟨h0, ⟨h1, h2, h3⟩, h4, h5, h6⟩ := h
  exact ⟨h0.drew, ⟨h1, h2, h3⟩, h4, h5, h6⟩

theorem index_held (w0 : World) (ga gb : Nat) (a b c x y z p q r d : Int) (W : World) (h : S6 w0 ga gb a b c x y z W) :
    Calls Try.prog 6 #[A3 p q r, .int .u8 d] W fun e w' => e = .returned (.int .u8 (ix p q r d)) ∧ S6 w0 ga gb a b c x y z w' :=
  (index_any p q r d W).mono fun _ _ ⟨he, hb⟩ => ⟨he, h.step hb⟩
theorem with_held (w0 : World) (ga gb : Nat) (a b c x y z p q r d i : Int) (W : World) (h : S6 w0 ga gb a b c x y z W) :
    Calls Try.prog 10 #[A3 p q r, .int .u8 d, .int .u8 i] W fun e w' => e = .returned (A3 (wa p d i) (wb q d i) (wc r d i)) ∧ S6 w0 ga gb a b c x y z w' :=
  (with_any p q r d i W).mono fun _ _ ⟨he, hb⟩ => ⟨he, h.step hb⟩

/-! ### The plain laws of a lens -/
theorem put_get (a b c d i : Int) : ix (wa a d i) (wb b d i) (wc c d i) d = i := by
  unfold ix wa wb wc
  by_cases h1 : d = 1
  · simp [h1]
  · by_cases h2 : d = 2
    · simp [h2]
    · simp [h1, h2]
theorem get_put (a b c d : Int) : wa a d (ix a b c d) = a ∧ wb b d (ix a b c d) = b ∧ wc c d (ix a b c d) = c := by
  unfold ix wa wb wc
  by_cases h1 : d = 1
  · simp [h1]
  · by_cases h2 : d = 2
    · simp [h2]
    · simp [h1, h2]
theorem put_put (a b c d i j : Int) : wa (wa a d i) d j = wa a d j ∧ wb (wb b d i) d j = wb b d j ∧ wc (wc c d i) d j = wc c d j := by
  unfold wa wb wc
  by_cases h1 : d = 1
  · simp [h1]
  · by_cases h2 : d = 2
    · simp [h2]
    · simp [h1, h2]
theorem apart_get (a b c d e i : Int) (hd : 1 ≤ d) (hd' : d ≤ 3) (he : 1 ≤ e) (he' : e ≤ 3) (hde : d ≠ e) : ix (wa a d i) (wb b d i) (wc c d i) e = ix a b c e := by
  unfold ix wa wb wc
  have h1 : d = 1 ∨ d = 2 ∨ d = 3 := by omega
  have h2 : e = 1 ∨ e = 2 ∨ e = 3 := by omega
  rcases h1 with rfl | rfl | rfl <;> rcases h2 with rfl | rfl | rfl <;> simp at hde ⊢
theorem apart_put (a b c d e i j : Int) (hd : 1 ≤ d) (hd' : d ≤ 3) (he : 1 ≤ e) (he' : e ≤ 3) (hde : d ≠ e) :
    wa (wa a d i) e j = wa (wa a e j) d i ∧ wb (wb b d i) e j = wb (wb b e j) d i ∧ wc (wc c d i) e j = wc (wc c e j) d i := by
  unfold wa wb wc
  have h1 : d = 1 ∨ d = 2 ∨ d = 3 := by omega
  have h2 : e = 1 ∨ e = 2 ∨ e = 3 := by omega
  rcases h1 with rfl | rfl | rfl <;> rcases h2 with rfl | rfl | rfl <;> simp at hde ⊢

theorem start_held {w w1 : World} {a b c x y z : Int} (hb : Below (w.alloc (.cells #[.int .u8 a, .int .u8 b, .int .u8 c] 23)).heap.size (w.alloc (.cells #[.int .u8 a, .int .u8 b, .int .u8 c] 23)) w1) :
    S6 w w.heap.size w1.heap.size a b c x y z (w1.alloc (.cells #[.int .u8 x, .int .u8 y, .int .u8 z] 23)) := by
  have hA : Below w.heap.size w (w.alloc (.cells #[.int .u8 a, .int .u8 b, .int .u8 c] 23)) := (Below.refl _ _).alloc (Nat.le_refl _) _
  have hAB := hA.trans (hb.mono hA.size)
  have hC : Below w1.heap.size w1 (w1.alloc (.cells #[.int .u8 x, .int .u8 y, .int .u8 z] 23)) := (Below.refl _ _).alloc (Nat.le_refl _) _
  refine ⟨hAB.alloc hAB.size _, ⟨kept hC (kept hb ?_), kept hC (kept hb ?_), kept hC (kept hb ?_)⟩, ?_, ?_, ?_⟩ <;> (rw [World.cell?_alloc_mark]; rfl)

set_option maxHeartbeats 1000000 in
theorem lens_any (a b c d e i j : Int) (w : World) :
    Calls Try.prog 5 #[.int .u8 a, .int .u8 b, .int .u8 c, .int .u8 d, .int .u8 e, .int .u8 i, .int .u8 j] w fun e w' => e = .returned (.bool true) ∧ Below w.heap.size w w' := by
  have L1 : Hid (ix (wa a d i) (wb b d i) (wc c d i) d = i) := put_get a b c d i
  have L2 : Hid (wa a d (ix a b c d) = a ∧ wb b d (ix a b c d) = b ∧ wc c d (ix a b c d) = c) := get_put a b c d
  have L3 : Hid (wa (wa a d i) d j = wa a d j ∧ wb (wb b d i) d j = wb b d j ∧ wc (wc c d i) d j = wc c d j) := put_put a b c d i j
  have L4 : Hid (1 ≤ d → d ≤ 3 → 1 ≤ e → e ≤ 3 → d ≠ e → ix (wa a d i) (wb b d i) (wc c d i) e = ix a b c e) := fun h1 h2 h3 h4 h5 => apart_get a b c d e i h1 h2 h3 h4 h5
  have L5 : Hid (1 ≤ d → d ≤ 3 → 1 ≤ e → e ≤ 3 → d ≠ e → wa (wa a d i) e j = wa (wa a e j) d i ∧ wb (wb b d i) e j = wb (wb b e j) d i ∧ wc (wc c d i) e j = wc (wc c e j) d i) := fun h1 h2 h3 h4 h5 => apart_put a b c d e i j h1 h2 h3 h4 h5
  go_enter Try.func5, Try.ntmps5
  go_wp2_with fail
  refine (with_any a b c d i _).mono ?_
  rintro e1 w1 ⟨rfl, hb1⟩
  generalize hx : wa a d i = x at L1 L3 L4 L5
  generalize hy : wb b d i = y at L1 L3 L4 L5
  generalize hz : wc c d i = z at L1 L3 L4 L5
  clear hx hy hz
  have hS : S6 w w.heap.size w1.heap.size a b c x y z (w1.alloc (.cells #[.int .u8 x, .int .u8 y, .int .u8 z] 23)) := start_held hb1
  go_wp2_with fail
  generalize w1.alloc (.cells #[.int .u8 x, .int .u8 y, .int .u8 z] 23) = W at hS
  refine (index_held w w.heap.size w1.heap.size a b c x y z x y z d _ hS).mono ?_
  rintro e1 w2 ⟨rfl, hS2⟩
  rw [L1.out]
  obtain ⟨hB, ⟨h1, h2, h3⟩, h4, h5, h6⟩ := hS2
  have hS2 : S6 w w.heap.size w1.heap.size a b c x y z w2 := ⟨hB, ⟨h1, h2, h3⟩, h4, h5, h6⟩
  go_wp2_with fail
  clear hb1 hS
  obtain ⟨l2a, l2b, l2c⟩ := L2.out
  go_region_held3 (fun w' => w'.cell? ⟨w.heap.size, 0, none⟩ = some (.int .u8 a) ∧ w'.cell? ⟨w.heap.size, 1, none⟩ = some (.int .u8 b) ∧ w'.cell? ⟨w.heap.size, 2, none⟩ = some (.int .u8 c)) (go_keep)
    (first
      | (go_at_call 6; refine (index_held w w.heap.size w1.heap.size a b c x y z _ _ _ _ _ ?_).mono ?_; (first | assumption | exact S6.drewed (by assumption)); rintro e3 w3 ⟨rfl, hS3⟩; obtain ⟨g0, ⟨g1, g2, g3⟩, g4, g5, g6⟩ := id hS3)
      | (go_at_call 10; refine (with_held w w.heap.size w1.heap.size a b c x y z _ _ _ _ _ _ ?_).mono ?_; (first | assumption | exact S6.drewed (by assumption)); rintro e3 w3 ⟨rfl, hS3⟩; obtain ⟨g0, ⟨g1, g2, g3⟩, g4, g5, g6⟩ := id hS3))
  clear l2a l2b l2c
  obtain ⟨l3a, l3b, l3c⟩ := L3.out
  go_wp2_with fail
  go_region_held3 (fun w' => w'.cell? ⟨w.heap.size, 0, none⟩ = some (.int .u8 a) ∧ w'.cell? ⟨w.heap.size, 1, none⟩ = some (.int .u8 b) ∧ w'.cell? ⟨w.heap.size, 2, none⟩ = some (.int .u8 c) ∧ w'.cell? ⟨w1.heap.size, 0, none⟩ = some (.int .u8 x) ∧ w'.cell? ⟨w1.heap.size, 1, none⟩ = some (.int .u8 y) ∧ w'.cell? ⟨w1.heap.size, 2, none⟩ = some (.int .u8 z)) (go_keep)
    (first
      | (go_at_call 6; refine (index_held w w.heap.size w1.heap.size a b c x y z _ _ _ _ _ ?_).mono ?_; (first | assumption | exact S6.drewed (by assumption)); rintro e3 w3 ⟨rfl, hS3⟩; obtain ⟨g0, ⟨g1, g2, g3⟩, g4, g5, g6⟩ := id hS3)
      | (go_at_call 10; refine (with_held w w.heap.size w1.heap.size a b c x y z _ _ _ _ _ _ ?_).mono ?_; (first | assumption | exact S6.drewed (by assumption)); rintro e3 w3 ⟨rfl, hS3⟩; obtain ⟨g0, ⟨g1, g2, g3⟩, g4, g5, g6⟩ := id hS3))
  clear l3a l3b l3c
  by_cases k1 : 1 ≤ d
  rotate_left
  · have k1' : decide (1 ≤ d) = false := by simpa using k1
    go_wp2
    go_ret
    exact ⟨rfl, g0⟩
  by_cases k2 : d ≤ 3
  rotate_left
  · have k2' : decide (d ≤ 3) = false := by simpa using k2
    go_wp2
    go_ret
    exact ⟨rfl, g0⟩
  by_cases k3 : 1 ≤ e
  rotate_left
  · have k3' : decide (1 ≤ e) = false := by simpa using k3
    go_wp2
    go_ret
    exact ⟨rfl, g0⟩
  by_cases k4 : e ≤ 3
  rotate_left
  · have k4' : decide (e ≤ 3) = false := by simpa using k4
    go_wp2
    go_ret
    exact ⟨rfl, g0⟩
  by_cases k5 : d = e
  · have k5' : (d != e) = false := by simp [k5]
    clear k5
    go_wp2
    go_ret
    exact ⟨rfl, g0⟩
  have k5' : (d != e) = true := by simp [k5]
  have l4 := L4.out k1 k2 k3 k4 k5
  obtain ⟨l5a, l5b, l5c⟩ := L5.out k1 k2 k3 k4 k5
  go_wp2_with fail
  go_region_held3 (fun w' => w'.cell? ⟨w.heap.size, 0, none⟩ = some (.int .u8 a) ∧ w'.cell? ⟨w.heap.size, 1, none⟩ = some (.int .u8 b) ∧ w'.cell? ⟨w.heap.size, 2, none⟩ = some (.int .u8 c) ∧ w'.cell? ⟨w1.heap.size, 0, none⟩ = some (.int .u8 x) ∧ w'.cell? ⟨w1.heap.size, 1, none⟩ = some (.int .u8 y) ∧ w'.cell? ⟨w1.heap.size, 2, none⟩ = some (.int .u8 z)) (go_keep)
    (first
      | (go_at_call 6; refine (index_held w w.heap.size w1.heap.size a b c x y z _ _ _ _ _ ?_).mono ?_; (first | assumption | exact S6.drewed (by assumption)); rintro e3 w3 ⟨rfl, hS3⟩; obtain ⟨g0, ⟨g1, g2, g3⟩, g4, g5, g6⟩ := id hS3)
      | (go_at_call 10; refine (with_held w w.heap.size w1.heap.size a b c x y z _ _ _ _ _ _ ?_).mono ?_; (first | assumption | exact S6.drewed (by assumption)); rintro e3 w3 ⟨rfl, hS3⟩; obtain ⟨g0, ⟨g1, g2, g3⟩, g4, g5, g6⟩ := id hS3))
  clear l4
  go_wp2_with fail
  go_region_held3 (fun w' => w'.cell? ⟨w.heap.size, 0, none⟩ = some (.int .u8 a) ∧ w'.cell? ⟨w.heap.size, 1, none⟩ = some (.int .u8 b) ∧ w'.cell? ⟨w.heap.size, 2, none⟩ = some (.int .u8 c) ∧ w'.cell? ⟨w1.heap.size, 0, none⟩ = some (.int .u8 x) ∧ w'.cell? ⟨w1.heap.size, 1, none⟩ = some (.int .u8 y) ∧ w'.cell? ⟨w1.heap.size, 2, none⟩ = some (.int .u8 z)) (go_keep)
    (first
      | (go_at_call 6; refine (index_held w w.heap.size w1.heap.size a b c x y z _ _ _ _ _ ?_).mono ?_; (first | assumption | exact S6.drewed (by assumption)); rintro e3 w3 ⟨rfl, hS3⟩; obtain ⟨g0, ⟨g1, g2, g3⟩, g4, g5, g6⟩ := id hS3)
      | (go_at_call 10; refine (with_held w w.heap.size w1.heap.size a b c x y z _ _ _ _ _ _ ?_).mono ?_; (first | assumption | exact S6.drewed (by assumption)); rintro e3 w3 ⟨rfl, hS3⟩; obtain ⟨g0, ⟨g1, g2, g3⟩, g4, g5, g6⟩ := id hS3))
  go_wp2
  go_ret
  exact ⟨rfl, g0⟩
end Go.Proofs.Qxb6604316a.W
