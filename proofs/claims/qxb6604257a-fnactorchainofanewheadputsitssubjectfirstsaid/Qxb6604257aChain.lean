import Derived.Test.Qxb6604257aStrs
import Derived.Deep.LoopGhost
import Derived.Maps.AppendAt
import Derived.WalkSmall
namespace Go.Proofs.Qxb6604257a.C
open Go.ChangeShapes Go.WideShapes Go.ChangeAt Go.RowKit

set_option maxHeartbeats 400000 in
/-- Two slices that hold the same strings. -/
theorem equal_any (a0 a1 : Option Addr) (len c0 c1 : Nat) (ss : Nat → ByteArray) (w : World) (hs0 : Strs w a0 len ss) (hs1 : Strs w a1 len ss) :
    Calls Try.prog 18 #[.slice a0 len c0, .slice a1 len c1] w fun e w' => e = .returned (.bool true) ∧ Below w.heap.size w w' := by
  have HS0 : Hid (Strs w a0 len ss) := hs0
  have HS1 : Hid (Strs w a1 len ss) := hs1
  have hm := hs0.le
  unfold maxLen at hm
  clear hs0 hs1
  go_enter Try.func18, Try.ntmps18
  go_wp2
  go_loopw [5] (fun i wr => ∃ k : Nat, k ≤ len ∧ i = .int .i64 k ∧ Below w.heap.size w wr) (fun i _ => len - (intOf i).toNat)
  case atStart => exact ⟨0, Nat.zero_le _, rfl, Below.refl _ _⟩
  case round =>
    obtain ⟨k, hk, rfl, hbel⟩ := hrel
    rename_i wr _
    by_cases hlt : k < len
    · obtain ⟨b0, off0, rfl, hb0, hc0⟩ := (HS0.out.later (Nat.le_refl _) hbel).lies (by omega)
      obtain ⟨b1, off1, rfl, hb1, hc1⟩ := (HS1.out.later (Nat.le_refl _) hbel).lies (by omega)
      have h0 := hc0 k hlt
      have h1 := hc1 k hlt
      have hki : (k : Int) < (len : Int) := by omega
      have hk0 : (0 : Int) ≤ (k : Int) := by omega
      clear hc0 hc1 HS0 HS1
      go_wp2
      go_quiet (fail)
      go_wp2
      go_roundw
      case rel => exact ⟨k + 1, by omega, by go_num, below_drewN hbel _⟩
      case measure => simp [intOf]; omega
    · go_wp2
      go_ret
      exact ⟨rfl, hbel⟩

/-- A chain of actors in memory whose subjects are l. -/
def ChainAt (w : World) : List ByteArray → Option Addr → Prop
  | [], p => p = none
  | s :: r, p => ∃ b q, p = some ⟨b, 0, none⟩ ∧ w.cell? ⟨b, 0, none⟩ = some (.string s) ∧ w.cell? ⟨b, 2, none⟩ = some (.pointer q) ∧ ChainAt w r q

theorem ChainAt.later {w w1 : World} {B : Nat} (hB : w.heap.size ≤ B) (hb : Below B w w1) : ∀ {l : List ByteArray} {p : Option Addr}, ChainAt w l p → ChainAt w1 l p
  | [], _, h => h
  | s :: r, p, h => by
    obtain ⟨b, q, h1, h2, h3, h4⟩ := h
    have hlt : b < B := Nat.lt_of_lt_of_le (World.block_lt_of_cell? w _ h2) hB
    exact ⟨b, q, h1, (hb.cell (p := ⟨b, 0, none⟩) hlt).trans h2, (hb.cell (p := ⟨b, 2, none⟩) hlt).trans h3, ChainAt.later hB hb h4⟩

theorem info9 : (Try.prog.info? 9).map (fun i => (i.zero, i.size, i.bytes)) = some (some (.string ByteArray.empty), 1, 16) := by kernel_rfl

theorem one_str (s : ByteArray) : ∀ u ∈ [Value.string s], u.oneCell' = true := by
  intro u hu
  simp at hu
  rw [hu]; rfl

set_option maxHeartbeats 1000000 in
theorem chain_any (l : List ByteArray) (p : Option Addr) (w : World) (h : ChainAt w l p) (hl : l.length ≤ 65537) :
    Calls Try.prog 17 #[.pointer p] w fun e w' => ∃ v, e = .returned v ∧ w'.ownsRow w.heap.size 9 1 v l.length (l.map Value.string) ∧ Below w.heap.size w w' ∧ (v = .slice none 0 0 ↔ l = []) := by
  obtain ⟨i, hi, hz0, hz1, hz2⟩ := info_parts info9
  have H : Hid (ChainAt w l p) := h
  have HL : Hid (l.length ≤ 65537) := hl
  clear h hl
  go_enter Try.func17, Try.ntmps17
  go_wp2
  go_loopg [0, 3] l.length (fun n q v wr => ∃ (done rest : List ByteArray) (q' : Option Addr) (m : Nat), Hid (rest.length = n ∧ done ++ rest = l ∧ done.length = m ∧ ChainAt w rest q' ∧ (v = .slice none 0 0 ↔ done = [])) ∧ m ≤ 65537 ∧ q = .pointer q' ∧
      wr.ownsRow w.heap.size 9 1 v m (done.map Value.string) ∧ Below w.heap.size w wr)
  case atStart => exact ⟨[], l, p, 0, ⟨rfl, rfl, rfl, H.out, by simp⟩, by omega, rfl, World.ownsRow_nil _ _ _ _, Below.refl _ _⟩
  case round =>
    obtain ⟨done, rest, q', m, HH, hm, rfl, hown, hbel⟩ := hrel
    cases rest with
    | nil =>
      obtain ⟨h1, h2, h3, h4, h5⟩ := HH.out
      have h4' : q' = none := h4
      subst h4'
      have HF : Hid (done = l ∧ l.length = m ∧ (u3 = .slice none 0 0 ↔ l = [])) := by
        rw [List.append_nil] at h2
        subst h2
        exact ⟨rfl, h3, h5⟩
      clear h1 h2 h3 h4 h5
      go_wp2
      go_ret
      obtain ⟨rfl, rfl, h5⟩ := HF.out
      exact ⟨u3, rfl, hown, hbel, h5⟩
    | cons s r =>
      obtain ⟨h1, h2, h3, ⟨b, q2, rfl, hc0, hc2, h4⟩, h5⟩ := HH.out
      have hb : b < w.heap.size := World.block_lt_of_cell? w _ hc0
      have hk0 : wr.cell? ⟨b, 0, none⟩ = some (.string s) := (hbel.cell (p := ⟨b, 0, none⟩) hb).trans hc0
      have hk2 : wr.cell? ⟨b, 2, none⟩ = some (.pointer q2) := (hbel.cell (p := ⟨b, 2, none⟩) hb).trans hc2
      have hmlt : m + 1 ≤ 65537 := by
        have := HL.out
        rw [← h2, List.length_append, h3] at this
        simp at this; omega
      have hbr : w.heap.size ≤ wr.heap.size := hbel.size
      have HN : Hid (r.length + 1 = gk ∧ (done ++ [s]) ++ r = l ∧ (done ++ [s]).length = m + 1 ∧ ChainAt w r q2) := ⟨by simpa using h1, by simpa using h2, by simp [h3], h4⟩
      clear h1 h2 h3 h4 h5 hc0 hc2 HH
      go_wp2_with (at_builtin; refine wpList_append_own _ rfl _ _ 27 rfl w.heap.size 9 i (.string ByteArray.empty) 1 16 Try.underlying27 hi hz0 hz1 hz2 rfl (by omega) _ m _ rfl (hown.alloc _) ⟨wr.heap.size, 0, none⟩ 1 1 [.string s] rfl rfl (cell_one_new _ _ _) (one_str s) ?b1 (by omega) ?b3 ?_)
      case b1 => unfold maxLen; omega
      case b3 => simp; omega
      intro v2 w2 hown2 hgrow2 hnil2
      have hbel2 : Below w.heap.size w w2 := (hbel.alloc hbr _).grown hgrow2 (by simp; omega) (fun k hk => (hown.lt k hk).1)
      have hd2 : w2.cell? ⟨b, 2, none⟩ = some (.pointer q2) := (hbel2.cell (p := ⟨b, 2, none⟩) hb).trans ((hbel.cell (p := ⟨b, 2, none⟩) hb).symm.trans hk2)
      have HN2 : Hid (v2 = .slice none 0 0 ↔ done ++ [s] = []) := (show _ ↔ _ from ⟨fun h => absurd h hnil2, fun h => by simp at h⟩)
      have hown3 : w2.ownsRow w.heap.size 9 1 v2 (m + 1) ((done ++ [s]).map Value.string) := by rw [List.map_append]; exact hown2
      clear hown2 hgrow2 hnil2 hk0 hk2 hown
      go_wp2
      go_roundg r.length
      case measure => have := HN.out.1; omega
      case rel =>
        obtain ⟨e1, e2, e3, e4⟩ := HN.out
        exact ⟨done ++ [s], r, q2, m + 1, ⟨rfl, e2, e3, e4, HN2.out⟩, hmlt, rfl, hown3, hbel2⟩

/-- The last j of the strings ss 0 .. ss (n - 1). -/
def suf (ss : Nat → ByteArray) (n : Nat) : Nat → List ByteArray
  | 0 => []
  | j + 1 => ss (n - (j + 1)) :: suf ss n j

theorem chain_next {w w2 : World} {g : Nat} {s : ByteArray} {l : List ByteArray} {p : Option Addr} (hb : Below w.heap.size w w2) (h0 : w2.cell? ⟨g, 0, none⟩ = some (.string s)) (h2 : w2.cell? ⟨g, 2, none⟩ = some (.pointer p))
    (h : ChainAt w l p) : ChainAt w2 (s :: l) (some ⟨g, 0, none⟩) :=
  ⟨g, p, rfl, h0, h2, h.later (Nat.le_refl _) hb⟩
theorem cell_two (w : World) (C : Array Value) (t : TypeId) (fr : Nat × Nat) (o : Obj) (j : Nat) : ((w.alloc (.cells C t fr)).alloc o).cell? ⟨w.heap.size, j, none⟩ = C[j]? := by
  rw [((Below.refl (w.heap.size + 1) (w.alloc (.cells C t fr))).alloc (by simp) o).cell (p := ⟨w.heap.size, j, none⟩) (Nat.lt_succ_self _), World.cell?_alloc_mark]

set_option maxHeartbeats 1000000 in
theorem build_any (a0 a1 : Option Addr) (l0 l1 c0 c1 : Nat) (s0 s1 : Nat → ByteArray) (w : World) (hs0 : Strs w a0 l0 s0) (hs1 : Strs w a1 l1 s1) (hl0 : l0 ≤ 65536) (hl1 : l1 ≤ 65536) :
    Calls Try.prog 16 #[.slice a0 l0 c0, .slice a1 l1 c1] w fun e w' => ∃ p, e = .returned (.pointer p) ∧ ChainAt w' (suf s0 l0 l0) p ∧ Below w.heap.size w w' := by
  have HS0 : Hid (Strs w a0 l0 s0) := hs0
  have HS1 : Hid (Strs w a1 l1 s1) := hs1
  clear hs0 hs1
  go_enter Try.func16, Try.ntmps16
  go_wp2
  go_loopw [5, 6, 7, 8] (fun x i _ _ wr => ∃ (j : Nat) (p : Option Addr), j ≤ l0 ∧ i = .int .i64 ((l0 : Int) - 1 - j) ∧ x = .pointer p ∧ Hid (ChainAt wr (suf s0 l0 j) p) ∧ Below w.heap.size w wr) (fun _ i _ _ _ => (intOf i + 1).toNat)
  case atStart => exact ⟨0, none, Nat.zero_le _, by go_num, rfl, rfl, Below.refl _ _⟩
  case round =>
    obtain ⟨j, p, hj, rfl, rfl, HC, hbel⟩ := hrel
    rename_i wr _
    by_cases hlt : j < l0
    · obtain ⟨k, hk1, hk2⟩ : ∃ k, k + j + 1 ≤ l0 ∧ l0 ≤ k + j + 1 := ⟨l0 - 1 - j, by omega, by omega⟩
      have hki : ((l0 : Int) - 1 - (j : Int)) = (k : Int) := by omega
      rw [hki]
      obtain ⟨b0, off0, rfl, hb0, hc0⟩ := (HS0.out.later (Nat.le_refl _) hbel).lies (by omega)
      have h0 := hc0 k (by omega)
      have hbr : w.heap.size ≤ wr.heap.size := hbel.size
      have HE : Hid (suf s0 l0 (j + 1) = s0 k :: suf s0 l0 j) := by
        show suf s0 l0 (j + 1) = _
        rw [suf, show l0 - (j + 1) = k by omega]
      clear hc0 hki
      by_cases hk1l : k < l1
      · obtain ⟨b1, off1, rfl, hb1, hc1⟩ := (HS1.out.later (Nat.le_refl _) hbel).lies (by omega)
        have h1 := hc1 k hk1l
        clear hc1
        go_wp2
        go_roundw
        case rel =>
          refine ⟨j + 1, some ⟨wr.heap.size, 0, none⟩, by omega, by go_num, rfl, ?_, ((hbel.alloc hbr _).alloc (by simp; omega) _)⟩
          show ChainAt _ (suf s0 l0 (j + 1)) _
          rw [HE.out]
          exact chain_next ((Below.refl _ _).alloc (Nat.le_refl _) _ |>.alloc (by simp) _) (by rw [cell_two]; rfl) (by rw [cell_two]; rfl) HC.out
        case measure => simp [intOf]
      · go_wp2
        go_roundw
        case rel =>
          refine ⟨j + 1, some ⟨wr.heap.size, 0, none⟩, by omega, by go_num, rfl, ?_, (hbel.alloc hbr _)⟩
          show ChainAt _ (suf s0 l0 (j + 1)) _
          rw [HE.out]
          exact chain_next ((Below.refl _ _).alloc (Nat.le_refl _) _) (by rw [World.cell?_alloc_mark]; rfl) (by rw [World.cell?_alloc_mark]; rfl) HC.out
        case measure => simp [intOf]
    · go_wp2
      go_ret
      have : j = l0 := by omega
      subst this
      exact ⟨p, rfl, HC.out, hbel⟩
end Go.Proofs.Qxb6604257a.C
