/-
  Seat b6604575a: slices of strings: what is read; zzBytes, zzNamesBytes, zzCloneStrings.
-/
import Derived.Test.Qxb6604575aRows
import Derived.WalkKit
import Derived.WalkSpells
import Derived.WalkLawsBesides
import Derived.ProofKit
import Derived.OpenShut
import Derived.SizedLaws
import Derived.SliceStrings
import Derived.Deep.QuietTactic
import Derived.BigQuiet
namespace Go.Proofs.Qxb6604575a
open Go.RowKit
set_option linter.unusedSimpArgs false

/-- In the world w the slice v reads as the strings ss. -/
def Strs (w : World) (v : Value) (ss : List ByteArray) : Prop :=
  (∃ ao cap, v = .slice ao 0 cap ∧ ss = []) ∨
  ∃ b off cap, v = .slice (some ⟨b, off, none⟩) ss.length cap ∧ b < w.heap.size ∧ ∀ j, j < ss.length → w.cell? ⟨b, off + j, none⟩ = some (.string (ss.getD j ByteArray.empty))

theorem take_snoc (ss : List ByteArray) (k : Nat) (h : k < ss.length) : ss.take (k + 1) = ss.take k ++ [ss.getD k ByteArray.empty] := by
  rw [List.take_succ_eq_append_getElem h]; simp [List.getD, h]

theorem ret_int {k : IntKind} {a b : Int} (h : a = b) : Ending.returned (.int k a) = .returned (.int k b) := by rw [h]
theorem ret_bool {a b : Bool} (h : a = b) : Ending.returned (.bool a) = .returned (.bool b) := by rw [h]

theorem wb_step {ss : List ByteArray} {k : Nat} {s : ByteArray} (h : k < ss.length) (hs : s = ss.getD k ByteArray.empty) (ha : ∀ s ∈ ss, s.size ≤ 1048576) : s.size ≤ 1048576 := by
  refine ha s ?_
  rw [hs]; simp [List.getD, h]

theorem zz_step {ss : List ByteArray} {k : Nat} {s : ByteArray} (h : k < ss.length) (hs : s = ss.getD k ByteArray.empty) (ha : ∀ s ∈ ss.take k, s.size ≤ 1048576) (h1 : s.size ≤ 1048576) : ∀ s ∈ ss.take (k + 1), s.size ≤ 1048576 := by
  rw [take_snoc ss k h, ← hs]
  intro u hu
  rcases List.mem_append.1 hu with hu | hu
  · exact ha u hu
  · simp at hu; rw [hu]; exact h1

/-- What zzBytes says: no, or yes and all is small. -/
def ZzPost (ss xs : List ByteArray) (w : World) (e : Ending) (w' : World) : Prop :=
  w' = w ∧ (e = .returned (.bool false) ∨ (e = .returned (.bool true) ∧ ss.length ≤ 1048576 ∧ (∀ x ∈ xs, x.size ≤ 1048576) ∧ ∀ s ∈ ss, s.size ≤ 1048576))
theorem zz_no {ss xs : List ByteArray} {w : World} {e : Ending} (h : e = .returned (.bool false)) : ZzPost ss xs w e w := ⟨rfl, Or.inl h⟩
theorem zz_yes {ss xs : List ByteArray} {w : World} {e : Ending} (h : e = .returned (.bool true)) (h1 : ss.length ≤ 1048576) (h2 : ∀ x ∈ xs, x.size ≤ 1048576) (h3 : ∀ s ∈ ss, s.size ≤ 1048576) : ZzPost ss xs w e w := ⟨rfl, Or.inr ⟨h, h1, h2, h3⟩⟩

set_option maxHeartbeats 400000 in
theorem zzBytes_any (v : Value) (ss : List ByteArray) (x : ByteArray) (w : World) (hs : Strs w v ss) (hx : x.size ≤ 9223372036854775807) :
    Calls Try.prog 5 #[v, .string x] w fun e w' => ZzPost ss [x] w e w' := by
  rcases hs with ⟨ao, cap, rfl, rfl⟩ | ⟨b, off, cap, rfl, hb, hc⟩
  · go_enter Try.func5, Try.ntmps5
    go_wp2
    refine wp_loop_rounds 1 ?_
    rw [rounds_succ]
    go_wp2
    all_goals go_ret
    all_goals first | exact zz_no rfl | exact zz_yes rfl (by simp) (by simp; omega) (by simp)
  · generalize hl : ss.length = n at *
    have HL : Hid (ss.length = n) := hl
    clear hl
    by_cases hn : n ≤ 1048576
    · go_enter Try.func5, Try.ntmps5
      go_wp2
      go_loop [5, 6] (fun c i => ∃ k : Nat, k ≤ n ∧ i = .int .i64 k ∧ ∃ t : Int, 0 ≤ t ∧ t ≤ 1048576 ∧ c = .int .i64 t ∧ Hid (∀ s ∈ ss.take k, s.size ≤ 1048576)) (fun _ i => n - (intOf i).toNat)
      case atStart => exact ⟨0, Nat.zero_le _, rfl, _, by omega, by omega, rfl, by simp [Hid]⟩
      case round =>
        obtain ⟨k, hk, rfl, t, ht0, ht1, rfl, HA⟩ := hrel
        by_cases hlt : k < n
        · have hcx := hc k hlt
          obtain ⟨s, hs⟩ : ∃ s, s = ss.getD k ByteArray.empty := ⟨_, rfl⟩
          rw [← hs] at hcx
          have HS : Hid (s = ss.getD k ByteArray.empty) := hs
          clear hs hc
          by_cases hsz : s.size ≤ 1048576
          · go_wp2
            · go_ret
              exact zz_no rfl
            · go_round
              case rel => exact ⟨k + 1, by omega, by go_num, _, by omega, by omega, rfl, zz_step (by rw [HL.out]; exact hlt) HS.out HA.out hsz⟩
              case measure => simp [intOf]; omega
          · go_wp2
            go_ret
            exact zz_no rfl
        · by_cases hxs : x.size ≤ 1048576
          · go_wp2
            all_goals go_ret
            all_goals first | exact zz_no rfl | exact zz_yes rfl (by rw [HL.out]; exact hn) (by simp; exact hxs) (by have := HA.out; rwa [List.take_of_length_le (by rw [HL.out]; omega)] at this)
          · go_wp2
            go_ret
            exact zz_no rfl
    · go_enter Try.func5, Try.ntmps5
      go_wp2
      go_ret
      exact zz_no rfl

/-- The slice v is the call's own (blocks from B on) and holds the strings ss. -/
def Own (B : Nat) (w : World) (v : Value) (ss : List ByteArray) : Prop := w.ownsRow B 9 1 v ss.length (ss.map Value.string)

theorem Own.strs {B : Nat} {w : World} {v : Value} {ss : List ByteArray} (h : Own B w v ss) : Strs w v ss := by
  rcases h.2 with ⟨rfl, h0⟩ | ⟨g, cap, cur, rfl, hb, hg, hnc, hcm, hcs, htake⟩
  · exact Or.inl ⟨none, 0, rfl, List.eq_nil_of_length_eq_zero h0⟩
  · refine Or.inr ⟨g, 0, cap, rfl, (Array.getElem?_eq_some_iff.1 hg).1, fun j hj => ?_⟩
    have := World.ownsRow.cellAt h j (by omega)
    rw [Nat.zero_add, this]
    simp [List.getD, hj]

theorem Own.below {B B' : Nat} {w w' : World} {v : Value} {ss : List ByteArray} (h : Own B w v ss) (hb : Below B' w w') (hB : w.heap.size ≤ B') : Own B w' v ss := by
  refine ⟨h.1, ?_⟩
  rcases h.2 with h0 | ⟨g, cap, cur, hv, hbb, hg, r⟩
  · exact Or.inl h0
  · have hlt := (Array.getElem?_eq_some_iff.1 hg).1
    exact Or.inr ⟨g, cap, cur, hv, hbb, by rw [hb.block g (by omega)]; exact hg, r⟩

theorem Strs.below {B' : Nat} {w w' : World} {v : Value} {ss : List ByteArray} (h : Strs w v ss) (hb : Below B' w w') (hB : w.heap.size ≤ B') : Strs w' v ss := by
  rcases h with h0 | ⟨b, off, cap, hv, hlt, hc⟩
  · exact Or.inl h0
  · exact Or.inr ⟨b, off, cap, hv, Nat.lt_of_lt_of_le hlt hb.size, fun j hj => (hb.cell (p := ⟨b, off + j, none⟩) (Nat.lt_of_lt_of_le hlt hB)).trans (hc j hj)⟩

theorem info9 : (Try.prog.info? 9).map (fun i => (i.zero, i.size, i.bytes)) = some (some (.string ByteArray.empty), 1, 16) := by kernel_rfl

/-- The row while it is being filled. -/
def cl (ss : List ByteArray) (k : Nat) : List Value := (ss.take k).map Value.string ++ List.replicate (ss.length - k) (.string ByteArray.empty)
theorem cl_zero (ss : List ByteArray) : cl ss 0 = List.replicate ss.length (.string ByteArray.empty) := by simp [cl]
theorem cl_full (ss : List ByteArray) (k : Nat) (h : ss.length ≤ k) : cl ss k = ss.map Value.string := by
  simp [cl, List.take_of_length_le h, show ss.length - k = 0 by omega]
theorem cl_set (ss : List ByteArray) (k : Nat) (h : k < ss.length) : (cl ss k).set k (.string (ss.getD k ByteArray.empty)) = cl ss (k + 1) := by
  unfold cl
  rw [take_snoc ss k h, List.map_append, List.set_append_right _ _ (by simp; omega)]
  rw [show ss.length - k = (ss.length - (k + 1)) + 1 by omega, List.replicate_succ]
  have e : k - ((ss.take k).map Value.string).length = 0 := by simp; omega
  rw [e]; simp

theorem eq_nil (a : Option Addr) (l c : Nat) (w : World) : (binOp .eql 22 (.slice a l c) (.slice none 0 0)).run Try.prog w = .ok (.bool a.isNone) w := by
  simp only [binOp]
  simp [run_equal_slice_nil w 22 9 a l c Try.underlying22]

def ClPost (ss : List ByteArray) (w : World) (e : Ending) (w' : World) : Prop := ∃ v', e = .returned v' ∧ Own w.heap.size w' v' ss ∧ Below w.heap.size w w'

set_option maxHeartbeats 400000 in
theorem clone_any (v : Value) (ss : List ByteArray) (w : World) (hs : Strs w v ss) (hn : ss.length ≤ 1048576) :
    Calls Try.prog 8 #[v] w fun e w' => ClPost ss w e w' := by
  obtain ⟨i, hi, hz0, hz1, hz2⟩ := info_parts info9
  have hq := eq_nil
  rcases hs with ⟨ao, cap, rfl, rfl⟩ | ⟨b, off, cap, rfl, hb, hc⟩
  · cases ao with
    | none =>
      go_enter Try.func8, Try.ntmps8
      go_wp2
      go_ret
      exact ⟨_, rfl, World.ownsRow_nil _ _ _ _, Below.refl _ _⟩
    | some a =>
      go_enter Try.func8, Try.ntmps8
      go_wp2_with (at_make; refine wpList_make_full _ rfl _ _ 22 rfl w.heap.size 9 i (.string ByteArray.empty) 1 Try.underlying22 hi hz0 hz1 _ _ _ _ 0 rfl rfl rfl rfl (by omega) (by unfold maxLen; omega) (Nat.le_refl _) ?_; intro w1 hown hgrow)
      refine wp_loop_rounds 1 ?_
      rw [rounds_succ]
      go_wp2
      go_ret
      rw [show (madeCells (Value.string ByteArray.empty).cells (0 * 1)).toList = [] from toList_madeCells_one _ 0] at hown
      exact ⟨_, rfl, hown, (Below.refl _ _).grown hgrow (Nat.le_refl _) (by simp)⟩
  · have HC : Hid (∀ j, j < ss.length → w.cell? ⟨b, off + j, none⟩ = some (.string (ss.getD j ByteArray.empty))) := hc
    clear hc
    have hz3 : (madeCells (Value.string ByteArray.empty).cells (ss.length * 1)).toList = cl ss 0 := by
      rw [cl_zero, Nat.mul_one]; exact toList_madeCells_one _ _
    have HZ : Hid ((madeCells (Value.string ByteArray.empty).cells (ss.length * 1)).toList = cl ss 0) := hz3
    clear hz3
    go_enter Try.func8, Try.ntmps8
    go_wp2_with (at_make; refine wpList_make_full _ rfl _ _ 22 rfl w.heap.size 9 i (.string ByteArray.empty) 1 Try.underlying22 hi hz0 hz1 _ _ _ _ ss.length rfl rfl rfl rfl (by rw [hz2]; omega) (by unfold maxLen; omega) (Nat.le_refl _) ?_; intro w1 hown hgrow)
    rw [HZ.out] at hown
    have hb1 : Below w.heap.size w w1 := (Below.refl _ _).grown hgrow (Nat.le_refl _) (by simp)
    have HO : Hid (w1.ownsRow w.heap.size 9 1 (.slice (some ⟨w.heap.size, 0, none⟩) ss.length ss.length) ss.length (cl ss 0)) := hown
    clear hown hgrow
    go_loopw [4] (fun i wr => ∃ k : Nat, k ≤ ss.length ∧ i = .int .i64 k ∧ Hid (wr.ownsRow w.heap.size 9 1 (.slice (some ⟨w.heap.size, 0, none⟩) ss.length ss.length) ss.length (cl ss k)) ∧ Below w.heap.size w wr) (fun i _ => ss.length - (intOf i).toNat)
    case atStart => exact ⟨0, Nat.zero_le _, rfl, HO, hb1⟩
    case round =>
      obtain ⟨k, hk, rfl, hr, hbr⟩ := hrel
      by_cases hlt : k < ss.length
      · obtain ⟨s, hs⟩ : ∃ s, s = ss.getD k ByteArray.empty := ⟨_, rfl⟩
        have hcx : wr.cell? ⟨b, off + k, none⟩ = some (.string s) := by rw [hs]; exact (hbr.cell (p := ⟨b, off + k, none⟩) hb).trans (HC.out k hlt)
        have hcy := hr.out.cellAt k (by omega)
        have hfy := hr.out.frozenAt k
        obtain ⟨u, hu⟩ : ∃ u, (cl ss k)[k]? = some u := by
          have : k < (cl ss k).length := by rw [hr.out.1]; omega
          exact ⟨_, List.getElem?_eq_getElem this⟩
        rw [hu] at hcy
        have HS : Hid (s = ss.getD k ByteArray.empty) := hs
        clear hs hu
        go_wp2
        go_roundw
        case rel =>
          refine ⟨k + 1, by omega, by go_num, ?_, hbr.setCell (Nat.le_refl _) _⟩
          have := (hr.out.stored k (.string s)).1
          rw [HS.out, cl_set ss k hlt] at this
          rw [HS.out]
          exact this
        case measure => simp [intOf]; omega
      · go_wp2
        go_ret
        exact ⟨_, rfl, by have := hr.out; rw [cl_full ss k (by omega)] at this; exact this, hbr⟩

theorem hide {p : Prop} (h : p) : Hid p := h
theorem unhide {p : Prop} (h : Hid p) : p := h

theorem Strs.form {w : World} {v : Value} {ss : List ByteArray} (h : Strs w v ss) : ∃ ao cap, v = .slice ao ss.length cap ∧
    (0 < ss.length → ∃ b off, ao = some ⟨b, off, none⟩ ∧ b < w.heap.size ∧ ∀ j, j < ss.length → w.cell? ⟨b, off + j, none⟩ = some (.string (ss.getD j ByteArray.empty))) := by
  rcases h with ⟨ao, cap, rfl, rfl⟩ | ⟨b, off, cap, rfl, hb, hc⟩
  · exact ⟨ao, cap, rfl, fun h => absurd h (by simp)⟩
  · exact ⟨_, cap, rfl, fun _ => ⟨b, off, rfl, hb, hc⟩⟩

theorem Strs.drewN {w : World} {v : Value} {ss : List ByteArray} (h : Strs w v ss) (q : Nat) : Strs (w.drewN q) v ss := h
theorem below_drewN {B : Nat} {a w : World} (h : Below B a w) (q : Nat) : Below B a (w.drewN q) := ⟨h.os, h.tape, h.output, h.size, h.block⟩


set_option maxHeartbeats 400000 in
theorem zzBytesR_any (v : Value) (ss : List ByteArray) (x : ByteArray) (w : World) (hs : Strs w v ss) (hx : x.size ≤ 9223372036854775807) :
    Calls Try.prog 12 #[v, .string x] w fun e w' => ZzPost ss [x] w e w' := by
  rcases hs with ⟨ao, cap, rfl, rfl⟩ | ⟨b, off, cap, rfl, hb, hc⟩
  · go_enter Try.func12, Try.ntmps12
    go_wp2
    refine wp_loop_rounds 1 ?_
    rw [rounds_succ]
    go_wp2
    all_goals go_ret
    all_goals first | exact zz_no rfl | exact zz_yes rfl (by simp) (by simp; omega) (by simp)
  · generalize hl : ss.length = n at *
    have HL : Hid (ss.length = n) := hl
    clear hl
    by_cases hn : n ≤ 1048576
    · go_enter Try.func12, Try.ntmps12
      go_wp2
      go_loop [5, 6] (fun c i => ∃ k : Nat, k ≤ n ∧ i = .int .i64 k ∧ ∃ t : Int, 0 ≤ t ∧ t ≤ 1048576 ∧ c = .int .i64 t ∧ Hid (∀ s ∈ ss.take k, s.size ≤ 1048576)) (fun _ i => n - (intOf i).toNat)
      case atStart => exact ⟨0, Nat.zero_le _, rfl, _, by omega, by omega, rfl, by simp [Hid]⟩
      case round =>
        obtain ⟨k, hk, rfl, t, ht0, ht1, rfl, HA⟩ := hrel
        by_cases hlt : k < n
        · have hcx := hc k hlt
          obtain ⟨s, hs⟩ : ∃ s, s = ss.getD k ByteArray.empty := ⟨_, rfl⟩
          rw [← hs] at hcx
          have HS : Hid (s = ss.getD k ByteArray.empty) := hs
          clear hs hc
          by_cases hsz : s.size ≤ 1048576
          · go_wp2
            · go_ret
              exact zz_no rfl
            · go_round
              case rel => exact ⟨k + 1, by omega, by go_num, _, by omega, by omega, rfl, zz_step (by rw [HL.out]; exact hlt) HS.out HA.out hsz⟩
              case measure => simp [intOf]; omega
          · go_wp2
            go_ret
            exact zz_no rfl
        · by_cases hxs : x.size ≤ 1048576
          · go_wp2
            all_goals go_ret
            all_goals first | exact zz_no rfl | exact zz_yes rfl (by rw [HL.out]; exact hn) (by simp; exact hxs) (by have := HA.out; rwa [List.take_of_length_le (by rw [HL.out]; omega)] at this)
          · go_wp2
            go_ret
            exact zz_no rfl
    · go_enter Try.func12, Try.ntmps12
      go_wp2
      go_ret
      exact zz_no rfl

/-! ### The argument, opened -/
open Go.ChangeShapes Go.WideShapes in
theorem strs_open {H : Type} {enc : TypeId × Value → H} {W : World} {a0 : Option Addr} {len0 cap0 : Nat} {d0 : DataW H} {p0 : List MemPlace}
    (h0 : DataW.Trod enc Try.prog W 0 (fun _ => true) true 22 (.slice a0 len0 cap0) d0 p0) : ∃ ss, Strs W (.slice a0 len0 cap0) ss := by
  obtain ⟨fuel, hf⟩ := h0
  rcases open_strings Try.underlying22 Try.underlying9 (by kernel_rfl) hf with ⟨hcs, _⟩ | ⟨x, l, c, ss, hcs, _, hl, hm, hz, _, hcell, _⟩
  · simp [Value.cells] at hcs
    obtain ⟨rfl, rfl, rfl⟩ := hcs
    exact ⟨[], Or.inl ⟨_, _, rfl, rfl⟩⟩
  · simp [Value.cells] at hcs
    obtain ⟨rfl, rfl, rfl⟩ := hcs
    by_cases h : len0 = 0
    · subst h
      exact ⟨[], Or.inl ⟨_, _, rfl, rfl⟩⟩
    · simp only [if_true] at hz
      obtain ⟨b, off, spot⟩ := x
      have c0 := hcell 0 (by omega)
      have hspot : spot = none := by simpa [Addr.add] using World.cell?_spot c0
      subst hspot
      have hlen : (ss.take len0).length = len0 := by simp; omega
      refine ⟨ss.take len0, Or.inr ⟨b, off, cap0, by rw [hlen], World.block_lt_of_cell? W _ c0, fun j hj => ?_⟩⟩
      rw [hlen] at hj
      rw [← add_plain, hcell j (by omega)]
      simp [List.getD, hj]

end Go.Proofs.Qxb6604575a
