/-
  Seat b6604429a: the proof of Rows.FnInWordsAgreesWithWideArithmeticSaid.
-/
import Derived.Test.Qxb6604429aInw
import Derived.WalkKit
import Derived.ProofKit
import Derived.OpenShut
import Derived.ShutString
namespace Go.Proofs.Qxb6604429a.fnInWordsAgreesWithWideArithmetic
open Go.ChangeShapes Go.WideShapes Go.ChangeAt Go.RowKit
open Go.ChangeMaps (open_string shut_string)
set_option linter.unusedSimpArgs false
set_option linter.unusedVariables false      -- a walk need not use every 'w<i>' (that an integer argument fits its kind)

theorem own : ownKnob Try.prog.godebug = none := by kernel_rfl

theorem ng (x y : Int) (h : -9223372036854775808 ≤ x ∧ x < 9223372036854775808) (h3 : 0 ≤ y) (h3' : y < 18446744073709551616) :
    (x < 0 ∧ y = 0 ∧ n0 y = 0 ∧ n1 (IntKind.u64.wrap x) y = -x ∧ n2 (sgn x) (IntKind.u64.wrap x) y = 0) ∨
    (x < 0 ∧ 0 < y ∧ n0 y = 18446744073709551616 - y ∧ n1 (IntKind.u64.wrap x) y = -x - 1 ∧ n2 (sgn x) (IntKind.u64.wrap x) y = 0) ∨
    (x = 0 ∧ y = 0 ∧ n0 y = 0 ∧ n1 (IntKind.u64.wrap x) y = 0 ∧ n2 (sgn x) (IntKind.u64.wrap x) y = 0) ∨
    (0 < x ∧ y = 0 ∧ n0 y = 0 ∧ n1 (IntKind.u64.wrap x) y = 18446744073709551616 - x ∧ n2 (sgn x) (IntKind.u64.wrap x) y = 18446744073709551615) ∨
    (0 ≤ x ∧ 0 < y ∧ n0 y = 18446744073709551616 - y ∧ n1 (IntKind.u64.wrap x) y = 18446744073709551615 - x ∧ n2 (sgn x) (IntKind.u64.wrap x) y = 18446744073709551615) := by
  unfold n0 n1 n2
  rcases sg x h with ⟨p1, p2, p3⟩ | ⟨p1, p2, p3⟩ <;> rw [p2, p3] <;> (split <;> split <;> omega)

set_option maxHeartbeats 4000000 in
theorem walk0 (a0 : Int) (a1 : Int) (a2 : Int) (a3 : Int) (w0 : (Lit.int .i64 a0).wf = true) (w1 : (Lit.int .u64 a1).wf = true) (w2 : (Lit.int .i64 a2).wf = true) (w3 : (Lit.int .u64 a3).wf = true) (w : World) :
    Calls Try.prog 5 #[.int .i64 a0, .int .u64 a1, .int .i64 a2, .int .u64 a3, .bool false] w fun e w' => e = .returned (.bool true) ∧ Grown w w' := by
  have h0 := hide (i64_of_wf w0)
  have h1 := word_of_wf w1
  have h2 := hide (i64_of_wf w2)
  have h3 := word_of_wf w3
  have k2 : Word (sgn a2) := by unfold sgn Word; split <;> omega
  have k1 : Word (IntKind.u64.wrap a2) := by rw [IntKind.wrap_u64]; unfold Word; omega
  clear w0 w1 w2 w3
  go_enter Try.func5, Try.ntmps5
  go_wp2_with (first | (go_at_call 10; refine (signWord_any _ _).mono ?_; rintro e w' ⟨rfl, rfl⟩) | (go_at_call 12; refine (zzinWords_any _ _ _ _ _).mono ?_; rintro e w' ⟨rfl, rfl⟩))
  all_goals go_ret
  all_goals (refine ⟨ret_true ?_, Grown.refl _⟩)
  all_goals (
    obtain ⟨b1, b1'⟩ := h1
    obtain ⟨b3, b3'⟩ := h3
    have g0 := unhide h0
    have g2 := unhide h2
    clear h0 h2 k1 k2
    first | refine fin1 ?_ | refine fin2 ?_ | refine fin4 ?_ | skip
    simp only [not_dec, inW_iff]
    simp only [beq_iff_eq, beq_eq_false_iff_ne, ne_eq] at *
    rcases sg a0 g0 with ⟨p1, p2, p3⟩ | ⟨p1, p2, p3⟩ <;> rcases sg a2 g2 with ⟨q1, q2, q3⟩ | ⟨q1, q2, q3⟩ <;> simp only [p2, p3, q2, q3, IntKind.wrap_u64, wrap64] at * <;> omega)

set_option maxHeartbeats 4000000 in
theorem walk1 (a0 : Int) (a1 : Int) (a2 : Int) (a3 : Int) (w0 : (Lit.int .i64 a0).wf = true) (w1 : (Lit.int .u64 a1).wf = true) (w2 : (Lit.int .i64 a2).wf = true) (w3 : (Lit.int .u64 a3).wf = true) (w : World) :
    Calls Try.prog 5 #[.int .i64 a0, .int .u64 a1, .int .i64 a2, .int .u64 a3, .bool true] w fun e w' => e = .returned (.bool true) ∧ Grown w w' := by
  have h0 := hide (i64_of_wf w0)
  have h1 := word_of_wf w1
  have h2 := hide (i64_of_wf w2)
  have h3 := word_of_wf w3
  have k2 : Word (sgn a2) := by unfold sgn Word; split <;> omega
  have k1 : Word (IntKind.u64.wrap a2) := by rw [IntKind.wrap_u64]; unfold Word; omega
  clear w0 w1 w2 w3
  go_enter Try.func5, Try.ntmps5
  go_wp2_with (first | (go_at_call 10; refine (signWord_any _ _).mono ?_; rintro e w' ⟨rfl, rfl⟩) | (go_at_call 12; refine (zzinWords_any _ _ _ _ _).mono ?_; rintro e w' ⟨rfl, rfl⟩) | (go_at_call 11; refine (neg192_any _ _ _ k2 k1 h3 _).mono ?_; rintro e w' ⟨rfl, rfl⟩))
  all_goals go_ret
  all_goals (refine ⟨ret_true ?_, Grown.refl _⟩)
  all_goals (
    obtain ⟨b1, b1'⟩ := h1
    obtain ⟨b3, b3'⟩ := h3
    have g0 := unhide h0
    have g2 := unhide h2
    clear h0 h2 k1 k2
    first | refine fin1 ?_ | refine fin2 ?_ | refine fin4 ?_ | skip
    simp only [not_dec, inW_iff]
    simp only [beq_iff_eq, beq_eq_false_iff_ne, ne_eq] at *
    rcases sg a0 g0 with ⟨p1, p2, p3⟩ | ⟨p1, p2, p3⟩ <;> rcases ng a2 a3 g2 b3 b3' with ⟨q0, q1, q2, q3, q4⟩ | ⟨q0, q1, q2, q3, q4⟩ | ⟨q0, q1, q2, q3, q4⟩ | ⟨q0, q1, q2, q3, q4⟩ | ⟨q0, q1, q2, q3, q4⟩ <;> simp only [p2, p3, q2, q3, q4, IntKind.wrap_u64, wrap64] at * <;> omega)

/-! ### STEP 1: THE WALK: the Go text returns true. 'Grown w w'': the world has at most new blocks (Derived/RowKit3.lean). Part the cases AHEAD of 'go_enter' where a test parts the walk; take each callee by a contract of your own. -/
theorem walk (a0 : Int) (a1 : Int) (a2 : Int) (a3 : Int) (a4 : Bool) (w0 : (Lit.int .i64 a0).wf = true) (w1 : (Lit.int .u64 a1).wf = true) (w2 : (Lit.int .i64 a2).wf = true) (w3 : (Lit.int .u64 a3).wf = true) (w : World) :
    Calls Try.prog 5 #[.int .i64 a0, .int .u64 a1, .int .i64 a2, .int .u64 a3, .bool a4] w fun e w' => e = .returned (.bool true) ∧ Grown w w' := by
  cases a4
  · exact walk0 a0 a1 a2 a3 w0 w1 w2 w3 w
  · exact walk1 a0 a1 a2 a3 w0 w1 w2 w3 w

/-! ### THE ROW's STEP: WRITTEN OUT: LEAVE IT -/
set_option maxRecDepth 100000 in
theorem lifted (os : Os) (started : os.Started) (H : Type) (enc : TypeId × Value → H) :
    ReturnsInHanded {} Try.checked os 5 .any (Rows.fnInWordsAgreesWithWideArithmeticSpec.pre6 enc Try.prog Try.f5 Rows.fnInWordsAgreesWithWideArithmeticRow.domain false) (Rows.fnInWordsAgreesWithWideArithmeticSpec.post enc Try.prog Try.f5 false true false false) := by
  refine returnsInHanded_of_change (C := Try.checked) own started (by kernel_rfl) Try.func5
    (ChangeSpec.witness6 (enc := enc) (C := Try.checked) false ⟨#[], #[.int .i64 0, .int .u64 0, .int .i64 0, .int .u64 0, .bool false], []⟩ 8 (by kernel_rfl) (by kernel_rfl) (by kernel_rfl) (by kernel_rfl)) ?_
  intro W base args ds gs before hval0 hW hcnd _
  have hval : ∀ (j : Nat) t v, Try.f5.params[j]? = some t → args[j]? = some v → Value.okWide Try.prog W .any base t v := hval0
  have hW' := hW
  obtain ⟨p, q, hA0, hV, rfl, hfz, hnd⟩ := hW
  have hA : DataW.TrodAll enc Try.prog W 0 (fun _ => true) true Try.f5.params.toList args.toList ds p := hA0
  rw [Try.params5] at hA hval
  obtain ⟨v0, vs0, d0, ds0, p0, q0, hargs, rfl, rfl, h0, r0⟩ := trodAll_cons hA
  obtain ⟨v1, vs1, d1, ds1, p1, q1, rfl, rfl, rfl, h1, r1⟩ := trodAll_cons r0
  obtain ⟨v2, vs2, d2, ds2, p2, q2, rfl, rfl, rfl, h2, r2⟩ := trodAll_cons r1
  obtain ⟨v3, vs3, d3, ds3, p3, q3, rfl, rfl, rfl, h3, r3⟩ := trodAll_cons r2
  obtain ⟨v4, vs4, d4, ds4, p4, q4, rfl, rfl, rfl, h4, r4⟩ := trodAll_cons r3
  obtain ⟨rfl, rfl, rfl⟩ := trodAll_nil r4
  obtain rfl : args = #[v0, v1, v2, v3, v4] := by cases args; simp_all
  obtain ⟨rfl, rfl⟩ := trodVars_none hV
  obtain ⟨a0, rfl, rfl, rfl, w0⟩ := open_int Try.underlying2 (hval 0 2 v0 rfl rfl) h0
  obtain ⟨a1, rfl, rfl, rfl, w1⟩ := open_int Try.underlying22 (hval 1 22 v1 rfl rfl) h1
  obtain ⟨a2, rfl, rfl, rfl, w2⟩ := open_int Try.underlying2 (hval 2 2 v2 rfl rfl) h2
  obtain ⟨a3, rfl, rfl, rfl, w3⟩ := open_int Try.underlying22 (hval 3 22 v3 rfl rfl) h3
  obtain ⟨a4, rfl, rfl, rfl⟩ := open_bool Try.underlying4 (hval 4 4 v4 rfl rfl) h4
  clear hA0 hval0
  simp only [List.append_nil] at hW'
  refine (walk a0 a1 a2 a3 a4 w0 w1 w2 w3 W).mono fun e W' ⟨he, hg⟩ => ?_
  subst he
  exact ⟨_, rfl, post_of_same (pa := []) (pv := []) hW' (fun _ _ _ => (trodAll_cons_mk (shut_bool Try.underlying4 _) trodAll_mk0)) (fun sp _ => (trodAll_cons_mk (shut_int Try.underlying2 w0) (trodAll_cons_mk (shut_int Try.underlying22 w1) (trodAll_cons_mk (shut_int Try.underlying2 w2) (trodAll_cons_mk (shut_int Try.underlying22 w3) (trodAll_cons_mk (shut_bool Try.underlying4 _) trodAll_mk0)))))) (fun _ _ => rfl) rfl
    (hg.frame _) hg.2.1 (ok_one (by kernel_rfl) rfl (okWide_bool_mk Try.underlying4 _))⟩

theorem over : Rows.fnInWordsAgreesWithWideArithmeticRow.holds Try.pinned (OpenSpec.ofChange Rows.fnInWordsAgreesWithWideArithmeticSpec) :=
  OpenClaim.holds_of_wide 5 Try.f5 rfl rfl rfl rfl rfl rfl rfl ⟨rfl, rfl, rfl, rfl, rfl⟩ rfl rfl rfl rfl rfl (by kernel_rfl) Try.func5 (by kernel_rfl)
    (of_decide_eq_true (by kernel_rfl)) (by unfold Func.isWrapper; first | (rw [if_pos (by decide +kernel)]; kernel_rfl) | (rw [if_neg (by decide +kernel)]; exact ⟨rfl, rfl⟩))
    (fun os started H enc _ => lifted os started H enc)

/-- ████ THE STATEMENT ████ -/
theorem proved : Rows.FnInWordsAgreesWithWideArithmeticSaid :=
  over
end Go.Proofs.Qxb6604429a.fnInWordsAgreesWithWideArithmetic
