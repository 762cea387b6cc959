/-
  Seat b6604429a: slices of strings: what is read, and the functions that only read.
-/
import Derived.Test.Qxb6604429aRows
import Derived.WalkKit
import Derived.WalkSpells
import Derived.WalkLawsBesides
import Derived.ProofKit
import Derived.OpenShut
import Derived.SizedLaws
import Derived.SliceStrings
import Derived.Deep.QuietTactic
import Derived.BigQuiet
namespace Go.Proofs.Qxb6604429a
open Go.RowKit
set_option linter.unusedSimpArgs false

/-- In the world w the slice v reads as the strings ss. -/
def Strs (w : World) (v : Value) (ss : List ByteArray) : Prop :=
  (∃ ao cap, v = .slice ao 0 cap ∧ ss = []) ∨
  ∃ b off cap, v = .slice (some ⟨b, off, none⟩) ss.length cap ∧ b < w.heap.size ∧ ∀ j, j < ss.length → w.cell? ⟨b, off + j, none⟩ = some (.string (ss.getD j ByteArray.empty))

/-- How often x stands among ss. -/
def cnt (x : ByteArray) (ss : List ByteArray) : Nat := ss.countP (fun s => s.toList == x.toList)

theorem cnt_le (x : ByteArray) (ss : List ByteArray) : cnt x ss ≤ ss.length := List.countP_le_length

theorem take_snoc (ss : List ByteArray) (k : Nat) (h : k < ss.length) : ss.take (k + 1) = ss.take k ++ [ss.getD k ByteArray.empty] := by
  rw [List.take_succ_eq_append_getElem h]; simp [List.getD, h]

theorem cnt_yes {x s : ByteArray} {ss : List ByteArray} {k : Nat} (h : k < ss.length) (hs : s = ss.getD k ByteArray.empty) (e : (s.toList == x.toList) = true) : cnt x (ss.take (k + 1)) = cnt x (ss.take k) + 1 := by
  rw [take_snoc ss k h, ← hs]; simp [cnt, List.countP_append, List.countP_cons, e]
theorem cnt_no {x s : ByteArray} {ss : List ByteArray} {k : Nat} (h : k < ss.length) (hs : s = ss.getD k ByteArray.empty) (e : (s.toList == x.toList) = false) : cnt x (ss.take (k + 1)) = cnt x (ss.take k) := by
  rw [take_snoc ss k h, ← hs]; simp [cnt, List.countP_append, List.countP_cons, e]

theorem ret_int {k : IntKind} {a b : Int} (h : a = b) : Ending.returned (.int k a) = .returned (.int k b) := by rw [h]
theorem ret_bool {a b : Bool} (h : a = b) : Ending.returned (.bool a) = .returned (.bool b) := by rw [h]

set_option maxHeartbeats 400000 in
theorem countWord_any (v : Value) (ss : List ByteArray) (x : ByteArray) (w : World) (hs : Strs w v ss) (hn : ss.length ≤ 1048576) :
    Calls Try.prog 17 #[v, .string x] w fun e w' => e = .returned (.int .i64 (cnt x ss : Nat)) ∧ w' = w := by
  rcases hs with ⟨ao, cap, rfl, rfl⟩ | ⟨b, off, cap, rfl, hb, hc⟩
  · go_enter Try.func17, Try.ntmps17
    go_wp2
    refine wp_loop_rounds 1 ?_
    rw [rounds_succ]
    go_wp2
    go_ret
    exact ⟨rfl, rfl⟩
  · generalize hl : ss.length = n at *
    have HL : Hid (ss.length = n) := hl
    clear hl
    go_enter Try.func17, Try.ntmps17
    go_wp2
    go_loop [5, 6] (fun c i => ∃ k : Nat, k ≤ n ∧ i = .int .i64 k ∧ c = .int .i64 (cnt x (ss.take k) : Nat)) (fun _ i => n - (intOf i).toNat)
    case atStart => exact ⟨0, Nat.zero_le _, rfl, rfl⟩
    case round =>
      obtain ⟨k, hk, rfl, rfl⟩ := hrel
      by_cases hlt : k < n
      · have hcx := hc k hlt
        obtain ⟨s, hs⟩ : ∃ s, s = ss.getD k ByteArray.empty := ⟨_, rfl⟩
        rw [← hs] at hcx
        have HS : Hid (s = ss.getD k ByteArray.empty) := hs
        have hle : cnt x (ss.take k) ≤ 1048576 := by
          have h1 := cnt_le x (ss.take k)
          have h2 : (ss.take k).length ≤ k := List.length_take_le _ _
          omega
        clear hs hc
        go_wp2
        · go_round
          case rel => exact ⟨k + 1, by omega, by go_num, by rw [cnt_yes (by rw [HL.out]; exact hlt) HS.out ‹_›]; go_num⟩
          case measure => simp [intOf]; omega
        · go_round
          case rel => exact ⟨k + 1, by omega, by go_num, by rw [cnt_no (by rw [HL.out]; exact hlt) HS.out ‹_›]⟩
          case measure => simp [intOf]; omega
      · go_wp2
        go_ret
        exact ⟨ret_int (by rw [List.take_of_length_le (by rw [HL.out]; omega)]), rfl⟩

/-- Does x stand among ss? -/
def has (x : ByteArray) (ss : List ByteArray) : Bool := ss.any (fun s => s.toList == x.toList)

theorem has_no {x s : ByteArray} {ss : List ByteArray} {k : Nat} (h : k < ss.length) (hs : s = ss.getD k ByteArray.empty) (e : (s.toList == x.toList) = false) (hk : has x (ss.take k) = false) : has x (ss.take (k + 1)) = false := by
  rw [take_snoc ss k h, ← hs]; simp only [has, List.any_append, List.any_cons, List.any_nil, e] at *; simp [hk]
theorem has_yes {x s : ByteArray} {ss : List ByteArray} {k : Nat} (h : k < ss.length) (hs : s = ss.getD k ByteArray.empty) (e : (s.toList == x.toList) = true) : has x ss = true := by
  rw [has, List.any_eq_true]
  refine ⟨s, ?_, e⟩
  rw [hs]; simp [List.getD, h]

set_option maxHeartbeats 400000 in
theorem hasWord_any (v : Value) (ss : List ByteArray) (x : ByteArray) (w : World) (hs : Strs w v ss) (hn : ss.length ≤ 1048576) :
    Calls Try.prog 25 #[v, .string x] w fun e w' => e = .returned (.bool (has x ss)) ∧ w' = w := by
  rcases hs with ⟨ao, cap, rfl, rfl⟩ | ⟨b, off, cap, rfl, hb, hc⟩
  · go_enter Try.func25, Try.ntmps25
    go_wp2
    refine wp_loop_rounds 1 ?_
    rw [rounds_succ]
    go_wp2
    go_ret
    exact ⟨rfl, rfl⟩
  · generalize hl : ss.length = n at *
    have HL : Hid (ss.length = n) := hl
    clear hl
    go_enter Try.func25, Try.ntmps25
    go_wp2
    go_loop [9] (fun i => ∃ k : Nat, k ≤ n ∧ i = .int .i64 k ∧ Hid (has x (ss.take k) = false)) (fun i => n - (intOf i).toNat)
    case atStart => exact ⟨0, Nat.zero_le _, rfl, rfl⟩
    case round =>
      obtain ⟨k, hk, rfl, hh⟩ := hrel
      by_cases hlt : k < n
      · have hcx := hc k hlt
        obtain ⟨s, hs⟩ : ∃ s, s = ss.getD k ByteArray.empty := ⟨_, rfl⟩
        rw [← hs] at hcx
        have HS : Hid (s = ss.getD k ByteArray.empty) := hs
        clear hs hc
        go_wp2
        · go_ret
          exact ⟨ret_bool (has_yes (by rw [HL.out]; exact hlt) HS.out ‹_›).symm, rfl⟩
        · go_round
          case rel => exact ⟨k + 1, by omega, by go_num, has_no (by rw [HL.out]; exact hlt) HS.out ‹_› hh.out⟩
          case measure => simp [intOf]; omega
      · go_wp2
        go_ret
        exact ⟨ret_bool (by have := hh.out; rw [List.take_of_length_le (by rw [HL.out]; omega)] at this; exact this.symm), rfl⟩

/-- wordsBytes: some number, far from the edge. -/
theorem wb_step {ss : List ByteArray} {k : Nat} {s : ByteArray} (h : k < ss.length) (hs : s = ss.getD k ByteArray.empty) (ha : ∀ s ∈ ss, s.size ≤ 1048576) : s.size ≤ 1048576 := by
  refine ha s ?_
  rw [hs]; simp [List.getD, h]

set_option maxHeartbeats 400000 in
theorem wordsBytes_any (v : Value) (ss : List ByteArray) (w : World) (hs : Strs w v ss) (hn : ss.length ≤ 1048576) (ha : ∀ s ∈ ss, s.size ≤ 1048576) :
    Calls Try.prog 14 #[v] w fun e w' => ∃ r : Int, e = .returned (.int .i64 r) ∧ 0 ≤ r ∧ r ≤ 1073741824 ∧ w' = w := by
  rcases hs with ⟨ao, cap, rfl, rfl⟩ | ⟨b, off, cap, rfl, hb, hc⟩
  · go_enter Try.func14, Try.ntmps14
    go_wp2
    refine wp_loop_rounds 1 ?_
    rw [rounds_succ]
    go_wp2
    go_ret
    exact ⟨_, rfl, by decide, by decide, rfl⟩
  · generalize hl : ss.length = n at *
    have HL : Hid (ss.length = n) := hl
    have HA : Hid (∀ s ∈ ss, s.size ≤ 1048576) := ha
    clear hl ha
    go_enter Try.func14, Try.ntmps14
    go_wp2
    go_loop [3, 4] (fun c i => ∃ k : Nat, k ≤ n ∧ i = .int .i64 k ∧ ∃ t : Int, 0 ≤ t ∧ t ≤ 16777216 ∧ c = .int .i64 t) (fun _ i => n - (intOf i).toNat)
    case atStart => exact ⟨0, Nat.zero_le _, rfl, _, by omega, by omega, rfl⟩
    case round =>
      obtain ⟨k, hk, rfl, t, ht0, ht1, rfl⟩ := hrel
      by_cases hlt : k < n
      · have hcx := hc k hlt
        obtain ⟨s, hs⟩ : ∃ s, s = ss.getD k ByteArray.empty := ⟨_, rfl⟩
        rw [← hs] at hcx
        have hsz : s.size ≤ 1048576 := wb_step (by rw [HL.out]; exact hlt) hs HA.out
        clear hs hc
        go_wp2
        · go_ret
          exact ⟨_, rfl, by omega, by omega, rfl⟩
        · go_round
          case rel => exact ⟨k + 1, by omega, by go_num, _, by omega, by omega, rfl⟩
          case measure => simp [intOf]; omega
      · go_wp2
        go_ret
        exact ⟨_, rfl, by omega, by omega, rfl⟩

theorem zz_step {ss : List ByteArray} {k : Nat} {s : ByteArray} (h : k < ss.length) (hs : s = ss.getD k ByteArray.empty) (ha : ∀ s ∈ ss.take k, s.size ≤ 1048576) (h1 : s.size ≤ 1048576) : ∀ s ∈ ss.take (k + 1), s.size ≤ 1048576 := by
  rw [take_snoc ss k h, ← hs]
  intro u hu
  rcases List.mem_append.1 hu with hu | hu
  · exact ha u hu
  · simp at hu; rw [hu]; exact h1

/-- What zzBytes says: no, or yes and all is small. -/
def ZzPost (ss xs : List ByteArray) (w : World) (e : Ending) (w' : World) : Prop :=
  w' = w ∧ (e = .returned (.bool false) ∨ (e = .returned (.bool true) ∧ ss.length ≤ 1048576 ∧ (∀ x ∈ xs, x.size ≤ 1048576) ∧ ∀ s ∈ ss, s.size ≤ 1048576))
theorem zz_no {ss xs : List ByteArray} {w : World} {e : Ending} (h : e = .returned (.bool false)) : ZzPost ss xs w e w := ⟨rfl, Or.inl h⟩
theorem zz_yes {ss xs : List ByteArray} {w : World} {e : Ending} (h : e = .returned (.bool true)) (h1 : ss.length ≤ 1048576) (h2 : ∀ x ∈ xs, x.size ≤ 1048576) (h3 : ∀ s ∈ ss, s.size ≤ 1048576) : ZzPost ss xs w e w := ⟨rfl, Or.inr ⟨h, h1, h2, h3⟩⟩

set_option maxHeartbeats 400000 in
theorem zzBytes_any (v : Value) (ss : List ByteArray) (x : ByteArray) (w : World) (hs : Strs w v ss) (hx : x.size ≤ 9223372036854775807) :
    Calls Try.prog 13 #[v, .string x] w fun e w' => ZzPost ss [x] w e w' := by
  rcases hs with ⟨ao, cap, rfl, rfl⟩ | ⟨b, off, cap, rfl, hb, hc⟩
  · go_enter Try.func13, Try.ntmps13
    go_wp2
    refine wp_loop_rounds 1 ?_
    rw [rounds_succ]
    go_wp2
    all_goals go_ret
    all_goals first | exact zz_no rfl | exact zz_yes rfl (by simp) (by simp; omega) (by simp)
  · generalize hl : ss.length = n at *
    have HL : Hid (ss.length = n) := hl
    clear hl
    by_cases hn : n ≤ 1048576
    · go_enter Try.func13, Try.ntmps13
      go_wp2
      go_loop [5, 6] (fun c i => ∃ k : Nat, k ≤ n ∧ i = .int .i64 k ∧ ∃ t : Int, 0 ≤ t ∧ t ≤ 1048576 ∧ c = .int .i64 t ∧ Hid (∀ s ∈ ss.take k, s.size ≤ 1048576)) (fun _ i => n - (intOf i).toNat)
      case atStart => exact ⟨0, Nat.zero_le _, rfl, _, by omega, by omega, rfl, by simp [Hid]⟩
      case round =>
        obtain ⟨k, hk, rfl, t, ht0, ht1, rfl, HA⟩ := hrel
        by_cases hlt : k < n
        · have hcx := hc k hlt
          obtain ⟨s, hs⟩ : ∃ s, s = ss.getD k ByteArray.empty := ⟨_, rfl⟩
          rw [← hs] at hcx
          have HS : Hid (s = ss.getD k ByteArray.empty) := hs
          clear hs hc
          by_cases hsz : s.size ≤ 1048576
          · go_wp2
            · go_ret
              exact zz_no rfl
            · go_round
              case rel => exact ⟨k + 1, by omega, by go_num, _, by omega, by omega, rfl, zz_step (by rw [HL.out]; exact hlt) HS.out HA.out hsz⟩
              case measure => simp [intOf]; omega
          · go_wp2
            go_ret
            exact zz_no rfl
        · by_cases hxs : x.size ≤ 1048576
          · go_wp2
            all_goals go_ret
            all_goals first | exact zz_no rfl | exact zz_yes rfl (by rw [HL.out]; exact hn) (by simp; exact hxs) (by have := HA.out; rwa [List.take_of_length_le (by rw [HL.out]; omega)] at this)
          · go_wp2
            go_ret
            exact zz_no rfl
    · go_enter Try.func13, Try.ntmps13
      go_wp2
      go_ret
      exact zz_no rfl

end Go.Proofs.Qxb6604429a
