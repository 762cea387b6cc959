/-
  Seat b6604429a: cloneStrings, addWord, ZZaddWord: what the call itself makes.
-/
import Derived.Test.Qxb6604429aStrs
namespace Go.Proofs.Qxb6604429a
open Go.RowKit
set_option linter.unusedSimpArgs false

/-- The slice v is the call's own (blocks from B on) and holds the strings ss. -/
def Own (B : Nat) (w : World) (v : Value) (ss : List ByteArray) : Prop := w.ownsRow B 9 1 v ss.length (ss.map Value.string)

theorem Own.strs {B : Nat} {w : World} {v : Value} {ss : List ByteArray} (h : Own B w v ss) : Strs w v ss := by
  rcases h.2 with ⟨rfl, h0⟩ | ⟨g, cap, cur, rfl, hb, hg, hnc, hcm, hcs, htake⟩
  · exact Or.inl ⟨none, 0, rfl, List.eq_nil_of_length_eq_zero h0⟩
  · refine Or.inr ⟨g, 0, cap, rfl, (Array.getElem?_eq_some_iff.1 hg).1, fun j hj => ?_⟩
    have := World.ownsRow.cellAt h j (by omega)
    rw [Nat.zero_add, this]
    simp [List.getD, hj]

theorem Own.below {B B' : Nat} {w w' : World} {v : Value} {ss : List ByteArray} (h : Own B w v ss) (hb : Below B' w w') (hB : w.heap.size ≤ B') : Own B w' v ss := by
  refine ⟨h.1, ?_⟩
  rcases h.2 with h0 | ⟨g, cap, cur, hv, hbb, hg, r⟩
  · exact Or.inl h0
  · have hlt := (Array.getElem?_eq_some_iff.1 hg).1
    exact Or.inr ⟨g, cap, cur, hv, hbb, by rw [hb.block g (by omega)]; exact hg, r⟩

theorem Strs.below {B' : Nat} {w w' : World} {v : Value} {ss : List ByteArray} (h : Strs w v ss) (hb : Below B' w w') (hB : w.heap.size ≤ B') : Strs w' v ss := by
  rcases h with h0 | ⟨b, off, cap, hv, hlt, hc⟩
  · exact Or.inl h0
  · exact Or.inr ⟨b, off, cap, hv, Nat.lt_of_lt_of_le hlt hb.size, fun j hj => (hb.cell (p := ⟨b, off + j, none⟩) (Nat.lt_of_lt_of_le hlt hB)).trans (hc j hj)⟩

theorem info9 : (Try.prog.info? 9).map (fun i => (i.zero, i.size, i.bytes)) = some (some (.string ByteArray.empty), 1, 16) := by kernel_rfl

/-- The row while it is being filled. -/
def cl (ss : List ByteArray) (k : Nat) : List Value := (ss.take k).map Value.string ++ List.replicate (ss.length - k) (.string ByteArray.empty)
theorem cl_zero (ss : List ByteArray) : cl ss 0 = List.replicate ss.length (.string ByteArray.empty) := by simp [cl]
theorem cl_full (ss : List ByteArray) (k : Nat) (h : ss.length ≤ k) : cl ss k = ss.map Value.string := by
  simp [cl, List.take_of_length_le h, show ss.length - k = 0 by omega]
theorem cl_set (ss : List ByteArray) (k : Nat) (h : k < ss.length) : (cl ss k).set k (.string (ss.getD k ByteArray.empty)) = cl ss (k + 1) := by
  unfold cl
  rw [take_snoc ss k h, List.map_append, List.set_append_right _ _ (by simp; omega)]
  rw [show ss.length - k = (ss.length - (k + 1)) + 1 by omega, List.replicate_succ]
  have e : k - ((ss.take k).map Value.string).length = 0 := by simp; omega
  rw [e]; simp

theorem eq_nil (a : Option Addr) (l c : Nat) (w : World) : (binOp .eql 32 (.slice a l c) (.slice none 0 0)).run Try.prog w = .ok (.bool a.isNone) w := by
  simp only [binOp]
  simp [run_equal_slice_nil w 32 9 a l c Try.underlying32]

def ClPost (ss : List ByteArray) (w : World) (e : Ending) (w' : World) : Prop := ∃ v', e = .returned v' ∧ Own w.heap.size w' v' ss ∧ Below w.heap.size w w'

set_option maxHeartbeats 400000 in
theorem clone_any (v : Value) (ss : List ByteArray) (w : World) (hs : Strs w v ss) (hn : ss.length ≤ 1048576) :
    Calls Try.prog 15 #[v] w fun e w' => ClPost ss w e w' := by
  obtain ⟨i, hi, hz0, hz1, hz2⟩ := info_parts info9
  have hq := eq_nil
  rcases hs with ⟨ao, cap, rfl, rfl⟩ | ⟨b, off, cap, rfl, hb, hc⟩
  · cases ao with
    | none =>
      go_enter Try.func15, Try.ntmps15
      go_wp2
      go_ret
      exact ⟨_, rfl, World.ownsRow_nil _ _ _ _, Below.refl _ _⟩
    | some a =>
      go_enter Try.func15, Try.ntmps15
      go_wp2_with (at_make; refine wpList_make_full _ rfl _ _ 32 rfl w.heap.size 9 i (.string ByteArray.empty) 1 Try.underlying32 hi hz0 hz1 _ _ _ _ 0 rfl rfl rfl rfl (by omega) (by unfold maxLen; omega) (Nat.le_refl _) ?_; intro w1 hown hgrow)
      refine wp_loop_rounds 1 ?_
      rw [rounds_succ]
      go_wp2
      go_ret
      rw [show (madeCells (Value.string ByteArray.empty).cells (0 * 1)).toList = [] from toList_madeCells_one _ 0] at hown
      exact ⟨_, rfl, hown, (Below.refl _ _).grown hgrow (Nat.le_refl _) (by simp)⟩
  · have HC : Hid (∀ j, j < ss.length → w.cell? ⟨b, off + j, none⟩ = some (.string (ss.getD j ByteArray.empty))) := hc
    clear hc
    have hz3 : (madeCells (Value.string ByteArray.empty).cells (ss.length * 1)).toList = cl ss 0 := by
      rw [cl_zero, Nat.mul_one]; exact toList_madeCells_one _ _
    have HZ : Hid ((madeCells (Value.string ByteArray.empty).cells (ss.length * 1)).toList = cl ss 0) := hz3
    clear hz3
    go_enter Try.func15, Try.ntmps15
    go_wp2_with (at_make; refine wpList_make_full _ rfl _ _ 32 rfl w.heap.size 9 i (.string ByteArray.empty) 1 Try.underlying32 hi hz0 hz1 _ _ _ _ ss.length rfl rfl rfl rfl (by rw [hz2]; omega) (by unfold maxLen; omega) (Nat.le_refl _) ?_; intro w1 hown hgrow)
    rw [HZ.out] at hown
    have hb1 : Below w.heap.size w w1 := (Below.refl _ _).grown hgrow (Nat.le_refl _) (by simp)
    have HO : Hid (w1.ownsRow w.heap.size 9 1 (.slice (some ⟨w.heap.size, 0, none⟩) ss.length ss.length) ss.length (cl ss 0)) := hown
    clear hown hgrow
    go_loopw [4] (fun i wr => ∃ k : Nat, k ≤ ss.length ∧ i = .int .i64 k ∧ Hid (wr.ownsRow w.heap.size 9 1 (.slice (some ⟨w.heap.size, 0, none⟩) ss.length ss.length) ss.length (cl ss k)) ∧ Below w.heap.size w wr) (fun i _ => ss.length - (intOf i).toNat)
    case atStart => exact ⟨0, Nat.zero_le _, rfl, HO, hb1⟩
    case round =>
      obtain ⟨k, hk, rfl, hr, hbr⟩ := hrel
      by_cases hlt : k < ss.length
      · obtain ⟨s, hs⟩ : ∃ s, s = ss.getD k ByteArray.empty := ⟨_, rfl⟩
        have hcx : wr.cell? ⟨b, off + k, none⟩ = some (.string s) := by rw [hs]; exact (hbr.cell (p := ⟨b, off + k, none⟩) hb).trans (HC.out k hlt)
        have hcy := hr.out.cellAt k (by omega)
        have hfy := hr.out.frozenAt k
        obtain ⟨u, hu⟩ : ∃ u, (cl ss k)[k]? = some u := by
          have : k < (cl ss k).length := by rw [hr.out.1]; omega
          exact ⟨_, List.getElem?_eq_getElem this⟩
        rw [hu] at hcy
        have HS : Hid (s = ss.getD k ByteArray.empty) := hs
        clear hs hu
        go_wp2
        go_roundw
        case rel =>
          refine ⟨k + 1, by omega, by go_num, ?_, hbr.setCell (Nat.le_refl _) _⟩
          have := (hr.out.stored k (.string s)).1
          rw [HS.out, cl_set ss k hlt] at this
          rw [HS.out]
          exact this
        case measure => simp [intOf]; omega
      · go_wp2
        go_ret
        exact ⟨_, rfl, by have := hr.out; rw [cl_full ss k (by omega)] at this; exact this, hbr⟩

/-- What addWord hands back. -/
def addW (x : ByteArray) (ss : List ByteArray) : List ByteArray := if has x ss then ss else ss ++ [x]

def AdPost (B : Nat) (ss : List ByteArray) (w : World) (e : Ending) (w' : World) : Prop := ∃ v', e = .returned v' ∧ Own B w' v' ss ∧ Below B w w'

set_option maxHeartbeats 400000 in
theorem addWord_any (B : Nat) (v : Value) (ss : List ByteArray) (x : ByteArray) (w : World) (hs : Own B w v ss) (hB : B ≤ w.heap.size) (hn : ss.length ≤ 1048576) :
    Calls Try.prog 23 #[v, .string x] w fun e w' => AdPost B (addW x ss) w e w' := by
  have hst := hs.strs
  obtain ⟨i, hi, hz0, hz1, hz2⟩ := info_parts info9
  cases hh : has x ss with
  | true =>
    go_enter Try.func23, Try.ntmps23
    go_wp2_with (go_at_call 25; refine (hasWord_any v ss x _ hst hn).mono ?_; rintro e w' ⟨rfl, rfl⟩)
    go_ret
    exact ⟨_, rfl, by unfold addW; rw [if_pos hh]; exact hs, Below.refl _ _⟩
  | false =>
    have HO : Hid (w.ownsRow B 9 1 v ss.length (ss.map Value.string)) := hs
    clear hs
    go_enter Try.func23, Try.ntmps23
    go_wp2_with (first
      | (go_at_call 25; refine (hasWord_any v ss x _ hst hn).mono ?_; rintro e w' ⟨rfl, hw⟩; subst w')
      | (at_builtin; refine wpList_append_own _ rfl _ _ 32 rfl B 9 i (.string ByteArray.empty) 1 16 Try.underlying32 hi hz0 hz1 hz2 rfl (by decide) v ss.length _ rfl (HO.out.alloc _) ⟨w.heap.size, 0, none⟩ 1 1 [.string x] rfl rfl ?c1 ?c2 (by unfold maxLen; omega) (by omega) (by simp; omega) ?_))
    case c1 =>
      intro j u hj
      match j, hj with
      | 0, hj => simp at hj; subst hj; simp [Addr.add]
    case c2 => intro u hu; simp at hu; subst hu; rfl
    intro v' w1 hown' hgrow _
    have hbl : Below B w w1 := ((Below.refl B w).alloc hB _).grown hgrow (by simp; omega) (fun k hk => (HO.out.lt k hk).1)
    have HO' : Hid (w1.ownsRow B 9 1 v' (ss.length + 1) (ss.map Value.string ++ [.string x])) := hown'
    clear hown' hgrow
    go_wp2
    go_ret
    refine ⟨_, rfl, ?_, hbl⟩
    unfold addW Own
    rw [if_neg (by rw [hh]; decide)]
    have := HO'.out
    simpa using this

theorem zzaddWord_any (B : Nat) (v : Value) (ss : List ByteArray) (x : ByteArray) (w : World) (hs : Own B w v ss) (hB : B ≤ w.heap.size) (hn : ss.length ≤ 1048576) :
    Calls Try.prog 16 #[v, .string x] w fun e w' => AdPost B (addW x ss) w e w' := by
  go_enter Try.func16, Try.ntmps16
  go_wp2_with (go_at_call 23; refine (addWord_any B v ss x _ hs hB hn).mono ?_; rintro e w' ⟨v', rfl, ho, hb⟩)
  go_ret
  exact ⟨_, rfl, ho, hb⟩

theorem hide {p : Prop} (h : p) : Hid p := h
theorem unhide {p : Prop} (h : Hid p) : p := h

theorem addW_len (x : ByteArray) (ss : List ByteArray) : ss.length ≤ (addW x ss).length ∧ (addW x ss).length ≤ ss.length + 1 := by
  unfold addW; split <;> simp
theorem addW_get (x : ByteArray) (ss : List ByteArray) : ∀ k, k < ss.length → (addW x ss).getD k ByteArray.empty = ss.getD k ByteArray.empty := by
  intro k hk; unfold addW; split
  · rfl
  · simp [List.getD, hk, List.getElem?_append_left hk]
theorem cnt_has (x : ByteArray) (ss : List ByteArray) : (has x ss = true ∧ 0 < cnt x ss) ∨ (has x ss = false ∧ cnt x ss = 0) := by
  cases h : has x ss with
  | true => left; refine ⟨rfl, ?_⟩; unfold has at h; unfold cnt; rw [List.countP_pos_iff]; rw [List.any_eq_true] at h; exact h
  | false => right; refine ⟨rfl, ?_⟩; unfold has at h; unfold cnt; rw [List.countP_eq_zero]; rw [List.any_eq_false] at h; exact h
theorem addW_cnt (x : ByteArray) (ss : List ByteArray) : ((addW x ss).length = ss.length ∧ 0 < cnt x ss ∧ cnt x (addW x ss) = cnt x ss) ∨
    ((addW x ss).length = ss.length + 1 ∧ (addW x ss).getD ss.length ByteArray.empty = x ∧ cnt x ss = 0 ∧ cnt x (addW x ss) = 1) := by
  unfold addW
  rcases cnt_has x ss with ⟨h1, h2⟩ | ⟨h1, h2⟩
  · left; rw [if_pos h1]; exact ⟨rfl, h2, rfl⟩
  · right; rw [if_neg (by rw [h1]; decide)]
    refine ⟨by simp, by simp [List.getD], h2, ?_⟩
    unfold cnt at h2 ⊢
    rw [List.countP_append, h2]; simp

theorem Strs.form {w : World} {v : Value} {ss : List ByteArray} (h : Strs w v ss) : ∃ ao cap, v = .slice ao ss.length cap ∧
    (0 < ss.length → ∃ b off, ao = some ⟨b, off, none⟩ ∧ b < w.heap.size ∧ ∀ j, j < ss.length → w.cell? ⟨b, off + j, none⟩ = some (.string (ss.getD j ByteArray.empty))) := by
  rcases h with ⟨ao, cap, rfl, rfl⟩ | ⟨b, off, cap, rfl, hb, hc⟩
  · exact ⟨ao, cap, rfl, fun h => absurd h (by simp)⟩
  · exact ⟨_, cap, rfl, fun _ => ⟨b, off, rfl, hb, hc⟩⟩

theorem Strs.drewN {w : World} {v : Value} {ss : List ByteArray} (h : Strs w v ss) (q : Nat) : Strs (w.drewN q) v ss := h
theorem below_drewN {B : Nat} {a w : World} (h : Below B a w) (q : Nat) : Below B a (w.drewN q) := ⟨h.os, h.tape, h.output, h.size, h.block⟩


/-! ### The argument, opened -/
open Go.ChangeShapes Go.WideShapes in
theorem strs_open {H : Type} {enc : TypeId × Value → H} {W : World} {a0 : Option Addr} {len0 cap0 : Nat} {d0 : DataW H} {p0 : List MemPlace}
    (h0 : DataW.Trod enc Try.prog W 0 (fun _ => true) true 32 (.slice a0 len0 cap0) d0 p0) : ∃ ss, Strs W (.slice a0 len0 cap0) ss := by
  obtain ⟨fuel, hf⟩ := h0
  rcases open_strings Try.underlying32 Try.underlying9 (by kernel_rfl) hf with ⟨hcs, _⟩ | ⟨x, l, c, ss, hcs, _, hl, hm, hz, _, hcell, _⟩
  · simp [Value.cells] at hcs
    obtain ⟨rfl, rfl, rfl⟩ := hcs
    exact ⟨[], Or.inl ⟨_, _, rfl, rfl⟩⟩
  · simp [Value.cells] at hcs
    obtain ⟨rfl, rfl, rfl⟩ := hcs
    by_cases h : len0 = 0
    · subst h
      exact ⟨[], Or.inl ⟨_, _, rfl, rfl⟩⟩
    · simp only [if_true] at hz
      obtain ⟨b, off, spot⟩ := x
      have c0 := hcell 0 (by omega)
      have hspot : spot = none := by simpa [Addr.add] using World.cell?_spot c0
      subst hspot
      have hlen : (ss.take len0).length = len0 := by simp; omega
      refine ⟨ss.take len0, Or.inr ⟨b, off, cap0, by rw [hlen], World.block_lt_of_cell? W _ c0, fun j hj => ?_⟩⟩
      rw [hlen] at hj
      rw [← add_plain, hcell j (by omega)]
      simp [List.getD, hj]

end Go.Proofs.Qxb6604429a
