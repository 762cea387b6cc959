/-
  Seat b6604429a: the proof of Rows.FnAddWordIdempotentAndMembershipSaid.
-/
import Derived.Test.Qxb6604429aClone
import Derived.WalkKit
import Derived.ProofKit
import Derived.OpenShut
import Derived.ShutString
import Derived.ChangeOld
import Derived.Below
namespace Go.Proofs.Qxb6604429a.fnAddWordIdempotentAndMembership
open Go.ChangeShapes Go.WideShapes Go.ChangeAt Go.RowKit
open Go.ChangeMaps (open_string shut_string)
set_option linter.unusedVariables false

theorem own : ownKnob Try.prog.godebug = none := by kernel_rfl
theorem laidOut : laidOutB Try.prog = true := by kernel_rfl

set_option linter.unusedSimpArgs false

/-! ### The walk -/
set_option maxHeartbeats 400000 in
theorem zzBytes2_any (v : Value) (ss : List ByteArray) (x y : ByteArray) (w : World) (hs : Strs w v ss) (hx : x.size ≤ 9223372036854775807) (hy : y.size ≤ 9223372036854775807) :
    Calls Try.prog 18 #[v, .string x, .string y] w fun e w' => ZzPost ss [x, y] w e w' := by
  rcases hs with ⟨ao, cap, rfl, rfl⟩ | ⟨b, off, cap, rfl, hb, hc⟩
  · by_cases hxs : x.size ≤ 1048576
    · by_cases hys : y.size ≤ 1048576
      · go_enter Try.func18, Try.ntmps18
        go_wp2
        refine wp_loop_rounds 1 ?_
        rw [rounds_succ]
        go_wp2
        all_goals go_ret
        all_goals first | exact zz_no rfl | exact zz_yes rfl (by simp) (by simp; omega) (by simp)
      · go_enter Try.func18, Try.ntmps18
        go_wp2
        refine wp_loop_rounds 1 ?_
        rw [rounds_succ]
        go_wp2
        all_goals go_ret
        all_goals exact zz_no rfl
    · go_enter Try.func18, Try.ntmps18
      go_wp2
      refine wp_loop_rounds 1 ?_
      rw [rounds_succ]
      go_wp2
      all_goals go_ret
      all_goals exact zz_no rfl
  · generalize hl : ss.length = n at *
    have HL : Hid (ss.length = n) := hl
    clear hl
    by_cases hn : n ≤ 1048576
    · go_enter Try.func18, Try.ntmps18
      go_wp2
      go_loop [7, 8] (fun c i => ∃ k : Nat, k ≤ n ∧ i = .int .i64 k ∧ ∃ t : Int, 0 ≤ t ∧ t ≤ 1048576 ∧ c = .int .i64 t ∧ Hid (∀ s ∈ ss.take k, s.size ≤ 1048576)) (fun _ i => n - (intOf i).toNat)
      case atStart => exact ⟨0, Nat.zero_le _, rfl, _, by omega, by omega, rfl, by simp [Hid]⟩
      case round =>
        obtain ⟨k, hk, rfl, t, ht0, ht1, rfl, HA⟩ := hrel
        by_cases hlt : k < n
        · have hcx := hc k hlt
          obtain ⟨s, hs⟩ : ∃ s, s = ss.getD k ByteArray.empty := ⟨_, rfl⟩
          rw [← hs] at hcx
          have HS : Hid (s = ss.getD k ByteArray.empty) := hs
          clear hs hc
          by_cases hsz : s.size ≤ 1048576
          · go_wp2
            · go_ret
              exact zz_no rfl
            · go_round
              case rel => exact ⟨k + 1, by omega, by go_num, _, by omega, by omega, rfl, zz_step (by rw [HL.out]; exact hlt) HS.out HA.out hsz⟩
              case measure => simp [intOf]; omega
          · go_wp2
            go_ret
            exact zz_no rfl
        · by_cases hxs : x.size ≤ 1048576
          · by_cases hys : y.size ≤ 1048576
            · go_wp2
              all_goals go_ret
              all_goals first | exact zz_no rfl | exact zz_yes rfl (by rw [HL.out]; exact hn) (by simp; exact ⟨hxs, hys⟩) (by have := HA.out; rwa [List.take_of_length_le (by rw [HL.out]; omega)] at this)
            · go_wp2
              all_goals go_ret
              all_goals exact zz_no rfl
          · go_wp2
            go_ret
            exact zz_no rfl
    · go_enter Try.func18, Try.ntmps18
      go_wp2
      go_ret
      exact zz_no rfl

theorem containsWord_any (v : Value) (ss : List ByteArray) (x : ByteArray) (w : World) (hs : Strs w v ss) (hn : ss.length ≤ 1048576) :
    Calls Try.prog 20 #[v, .string x] w fun e w' => e = .returned (.bool (has x ss)) ∧ w' = w := by
  have hc := cnt_has x ss
  have HC := hide hc
  clear hc
  go_enter Try.func20, Try.ntmps20
  go_wp2_with (go_at_call 17; refine (countWord_any v ss x _ hs hn).mono ?_; rintro e w' ⟨rfl, hw⟩; subst w')
  go_ret
  refine ⟨ret_bool ?_, rfl⟩
  rcases unhide HC with ⟨h1, h2⟩ | ⟨h1, h2⟩
  · rw [h1]; simpa using h2
  · rw [h1]; simpa using h2

set_option maxHeartbeats 400000 in
/-- sameStrings of two slices that hold the same strings. -/
theorem sameStrings_any (v1 v2 : Value) (ss : List ByteArray) (w : World) (hs1 : Strs w v1 ss) (hs2 : Strs w v2 ss) (hn : ss.length ≤ 1048576) :
    Calls Try.prog 19 #[v1, v2] w fun e w' => e = .returned (.bool true) ∧ ∃ q, w' = w.drewN q := by
  obtain ⟨ao1, cap1, rfl, hf1⟩ := hs1.form
  obtain ⟨ao2, cap2, rfl, hf2⟩ := hs2.form
  have HF1 := hide hf1
  have HF2 := hide hf2
  clear hf1 hf2 hs1 hs2
  go_enter Try.func19, Try.ntmps19
  go_wp2
  go_loopw [5] (fun i wr => ∃ k : Nat, k ≤ ss.length ∧ i = .int .i64 k ∧ ∃ q, wr = w.drewN q) (fun i _ => ss.length - (intOf i).toNat)
  case atStart => exact ⟨0, Nat.zero_le _, rfl, 0, rfl⟩
  case round =>
    obtain ⟨k, hk, rfl, q, rfl⟩ := hrel
    by_cases hlt : k < ss.length
    · obtain ⟨b1, off1, rfl, hbk1, hc1⟩ := unhide HF1 (by omega)
      obtain ⟨b2, off2, rfl, hbk2, hc2⟩ := unhide HF2 (by omega)
      have hx1 := hc1 k hlt
      have hx2 := hc2 k hlt
      generalize ss.getD k ByteArray.empty = s at hx1 hx2
      clear hc1 hc2
      go_wp2
      go_quiet (fail)
      go_wp2
      go_roundw
      case rel => exact ⟨k + 1, by omega, by go_num, q + nq, rfl⟩
      case measure => simp [intOf]; omega
    · go_wp2
      go_ret
      exact ⟨rfl, q, rfl⟩

theorem addW_twice (x : ByteArray) (ss : List ByteArray) : addW x (addW x ss) = addW x ss := by
  have h : has x (addW x ss) = true := by
    unfold addW; split
    · assumption
    · simp [has]
  rw [show addW x (addW x ss) = if has x (addW x ss) then addW x ss else addW x ss ++ [x] from rfl, if_pos h]
theorem addW_has (x : ByteArray) (ss : List ByteArray) : has x (addW x ss) = true := by
  unfold addW; split
  · assumption
  · simp [has]
theorem addW_probe (x y : ByteArray) (ss : List ByteArray) : has y (addW x ss) = ((y.toList == x.toList) || has y ss) := by
  unfold addW; split
  · rename_i h
    by_cases e : y.toList = x.toList
    · have : has y ss = has x ss := by unfold has; rw [e]
      rw [this, h]; simp
    · have e' : (y.toList == x.toList) = false := by simpa using e
      rw [e']; simp
  · have e1 : (x.toList == y.toList) = (y.toList == x.toList) := by rw [Bool.eq_iff_iff]; simp; exact eq_comm
    simp [has, List.any_append, e1, Bool.or_comm]

set_option maxHeartbeats 1000000 in
theorem idem (v : Value) (ss : List ByteArray) (x y : ByteArray) (w : World) (hs : Strs w v ss) (hx : x.size ≤ 9223372036854775807) (hy : y.size ≤ 9223372036854775807) :
    Calls Try.prog 8 #[v, .string x, .string y] w fun e w' => e = .returned (.bool true) ∧ Below w.heap.size w w' := by
  obtain ⟨ao0, cap0, rfl, -⟩ := hs.form
  go_enter Try.func8, Try.ntmps8
  go_wp2_with fail
  refine (zzBytes2_any _ ss x y _ hs hx hy).mono ?_
  rintro e w' ⟨hw, rfl | ⟨rfl, hn, hx1, ha⟩⟩
  · subst w'
    go_wp2
    go_ret
    exact ⟨rfl, Below.refl _ _⟩
  subst w'
  have hx2 : x.size ≤ 1048576 := hx1 x (by simp)
  have hy2 : y.size ≤ 1048576 := hx1 y (by simp)
  clear hx1
  by_cases hlen : 65536 < ss.length
  · go_wp2
    go_ret
    exact ⟨rfl, Below.refl _ _⟩
  have HA : Hid (∀ s ∈ ss, s.size ≤ 1048576) := ha
  clear ha
  go_wp2_with fail
  refine (wordsBytes_any _ ss _ hs hn HA.out).mono ?_
  rintro e w' ⟨r, rfl, hr0, hr1, hw⟩
  subst w'
  by_cases hsum : r + x.size + y.size > 1048576
  · go_wp2
    go_ret
    exact ⟨rfl, Below.refl _ _⟩
  go_wp2_with fail
  refine (clone_any _ ss _ hs hn).mono ?_
  rintro e w1 ⟨v1, rfl, ho1, hb1⟩
  have hs1 := ho1.strs
  go_wp2_with fail
  refine (clone_any _ ss _ hs1 hn).mono ?_
  rintro e w2 ⟨v2, rfl, ho2, hb2⟩
  go_wp2_with fail
  refine (zzaddWord_any w1.heap.size v2 ss x _ ho2 hb2.size hn).mono ?_
  rintro e w3 ⟨v3, rfl, ho3, hb3⟩
  have hs3 := ho3.strs
  have hb13 : Below w1.heap.size w1 w3 := hb2.trans hb3
  have hs13 : Strs w3 v1 ss := hs1.below hb13 (Nat.le_refl _)
  have hg1 := addW_len x ss
  have HT := hide (addW_twice x ss)
  have HP := hide (addW_probe x y ss)
  have HX := hide (addW_has x ss)
  generalize addW x ss = gs at *
  obtain ⟨hg1, hg2⟩ := hg1
  have hgn : gs.length ≤ 1048576 := by omega
  go_wp2_with fail
  refine (clone_any _ gs _ hs3 hgn).mono ?_
  rintro e w4 ⟨v4, rfl, ho4, hb4⟩
  go_wp2_with fail
  refine (zzaddWord_any w3.heap.size v4 gs x _ ho4 hb4.size hgn).mono ?_
  rintro e w5 ⟨v5, rfl, ho5, hb5⟩
  rw [unhide HT] at ho5
  have hb35 : Below w3.heap.size w3 w5 := hb4.trans hb5
  have hs35 : Strs w5 v3 gs := hs3.below hb35 (Nat.le_refl _)
  have hs15 : Strs w5 v1 ss := hs13.below hb35 (Nat.le_refl _)
  have hs5 := ho5.strs
  have hbf : Below w.heap.size w w5 := hb1.trans ((hb13.mono hb1.size).trans (hb35.mono (Nat.le_trans hb1.size hb13.size)))
  go_wp2_with fail
  refine (sameStrings_any v3 v5 gs _ hs35 hs5 hgn).mono ?_
  rintro e w' ⟨rfl, q, rfl⟩
  have hs35 := hs35.drewN q
  have hs15 := hs15.drewN q
  have hbf := below_drewN hbf q
  generalize w5.drewN q = w6 at *
  go_wp2_with fail
  refine (containsWord_any v3 gs x _ hs35 hgn).mono ?_
  rintro e w' ⟨rfl, hw⟩
  subst w'
  rw [unhide HX]
  cases hyx : (y.toList == x.toList) with
  | true =>
    go_wp2_with fail
    refine (containsWord_any v3 gs y _ hs35 hgn).mono ?_
    rintro e w' ⟨rfl, hw⟩
    subst w'
    rw [show has y gs = true by rw [unhide HP, hyx]; simp]
    go_wp2
    go_ret
    exact ⟨rfl, hbf⟩
  | false =>
    go_wp2_with fail
    refine (containsWord_any v3 gs y _ hs35 hgn).mono ?_
    rintro e w' ⟨rfl, hw⟩
    subst w'
    rw [show has y gs = has y ss by rw [unhide HP, hyx]; simp]
    go_wp2_with fail
    refine (containsWord_any v1 ss y _ hs15 hn).mono ?_
    rintro e w' ⟨rfl, hw⟩
    subst w'
    go_wp2
    go_ret
    exact ⟨ret_bool (by simp), hbf⟩

/-! ### THE ROW's STEP: WRITTEN OUT: LEAVE IT -/
set_option maxRecDepth 100000 in
theorem lifted (os : Os) (started : os.Started) (H : Type) (enc : TypeId × Value → H) :
    ReturnsInHanded {} Try.checked os 8 .any (Rows.fnAddWordIdempotentAndMembershipSpec.pre6 enc Try.prog Try.f8 Rows.fnAddWordIdempotentAndMembershipRow.domain false) (Rows.fnAddWordIdempotentAndMembershipSpec.post enc Try.prog Try.f8 false true false false) := by
  refine returnsInHanded_of_change (C := Try.checked) own started (by kernel_rfl) Try.func8
    (ChangeSpec.witness6 (enc := enc) (C := Try.checked) false ⟨#[], #[.slice none 0 0, .string ByteArray.empty, .string ByteArray.empty], []⟩ 8 (by kernel_rfl) (by kernel_rfl) (by kernel_rfl) (by kernel_rfl)) ?_
  intro W base args ds gs before hval0 hW hcnd _
  have hval : ∀ (j : Nat) t v, Try.f8.params[j]? = some t → args[j]? = some v → Value.okWide Try.prog W .any base t v := hval0
  have hW' := hW
  obtain ⟨p, q, hA0, hV, rfl, hfz, hnd⟩ := hW
  have hA : DataW.TrodAll enc Try.prog W 0 (fun _ => true) true Try.f8.params.toList args.toList ds p := hA0
  rw [Try.params8] at hA hval
  obtain ⟨v0, vs0, d0, ds0, p0, q0, hargs, rfl, rfl, h0, r0⟩ := trodAll_cons hA
  obtain ⟨v1, vs1, d1, ds1, p1, q1, rfl, rfl, rfl, h1, r1⟩ := trodAll_cons r0
  obtain ⟨v2, vs2, d2, ds2, p2, q2, rfl, rfl, rfl, h2, r2⟩ := trodAll_cons r1
  obtain ⟨rfl, rfl, rfl⟩ := trodAll_nil r2
  obtain rfl : args = #[v0, v1, v2] := by cases args; simp_all
  obtain ⟨rfl, rfl⟩ := trodVars_none hV
  obtain ⟨a0, len0, cap0, rfl⟩ := okWide_slice Try.underlying32 (hval 0 32 v0 rfl rfl)
  have k0 := h0
  have lt0 : ∀ x ∈ p0, x.block < W.heap.size := by obtain ⟨m, hm⟩ := k0; exact DataW.trod_lt m _ _ _ hm
  obtain ⟨ss, w0⟩ := strs_open h0
  obtain ⟨a1, rfl, rfl, rfl, w1⟩ := open_string Try.underlying9 (hval 1 9 v1 rfl rfl) h1
  obtain ⟨a2, rfl, rfl, rfl, w2⟩ := open_string Try.underlying9 (hval 2 9 v2 rfl rfl) h2
  clear hA0 hval0
  refine (idem _ ss a1 a2 W w0 w1 w2).mono fun e W' ⟨he, bel⟩ => ?_
  subst he
  exact ⟨_, rfl, _, _, _, [], _, [], hW', trodAll_mk1 (shut_bool Try.underlying4 _), (trodAll_cons_mk (Below.trod laidOut (by kernel_rfl) (of_decide_eq_true (by kernel_rfl)) k0 bel lt0) (trodAll_cons_mk (shut_string Try.underlying9 w1) (trodAll_cons_mk (shut_string Try.underlying9 w2) trodAll_mk0))), rfl, bel.frame _, fun h => by cases h⟩

theorem over : Rows.fnAddWordIdempotentAndMembershipRow.holds Try.pinned (OpenSpec.ofChange Rows.fnAddWordIdempotentAndMembershipSpec) :=
  OpenClaim.holds_of_wide 8 Try.f8 rfl rfl rfl rfl rfl rfl rfl ⟨rfl, rfl, rfl, rfl, rfl⟩ rfl rfl rfl rfl rfl (by kernel_rfl) Try.func8 (by kernel_rfl)
    (of_decide_eq_true (by kernel_rfl)) (by unfold Func.isWrapper; first | (rw [if_pos (by decide +kernel)]; kernel_rfl) | (rw [if_neg (by decide +kernel)]; exact ⟨rfl, rfl⟩))
    (fun os started H enc _ => lifted os started H enc)

/-- ████ THE STATEMENT ████ -/
theorem proved : Rows.FnAddWordIdempotentAndMembershipSaid := over
end Go.Proofs.Qxb6604429a.fnAddWordIdempotentAndMembership
