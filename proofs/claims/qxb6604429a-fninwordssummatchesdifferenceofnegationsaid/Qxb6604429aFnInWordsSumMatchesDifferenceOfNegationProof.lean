/-
  Seat b6604429a: the proof of Rows.FnInWordsSumMatchesDifferenceOfNegationSaid.
-/
import Derived.Test.Qxb6604429aInw
import Derived.WalkKit
import Derived.ProofKit
import Derived.OpenShut
import Derived.ShutString
namespace Go.Proofs.Qxb6604429a.fnInWordsSumMatchesDifferenceOfNegation
open Go.ChangeShapes Go.WideShapes Go.ChangeAt Go.RowKit
open Go.ChangeMaps (open_string shut_string)
set_option linter.unusedSimpArgs false
set_option linter.unusedVariables false      -- a walk need not use every 'w<i>' (that an integer argument fits its kind)

theorem own : ownKnob Try.prog.godebug = none := by kernel_rfl


theorem sg' (x : Int) (h : -9223372036854775808 ≤ x ∧ x < 9223372036854775808) : (x < 0 ∧ IntKind.u64.wrap x = x + 18446744073709551616) ∨ (0 ≤ x ∧ IntKind.u64.wrap x = x) := by
  rw [IntKind.wrap_u64]; omega
theorem ngl (y : Int) (h1 : 0 ≤ y) (h2 : y < 18446744073709551616) : (y = 0 ∧ negL y = 0) ∨ (0 < y ∧ negL y = 18446744073709551616 - y) := by
  unfold negL; omega
theorem ngh (x y : Int) (h : Word x) : (y ≤ 0 ∧ negH x y = (0 - x) % 18446744073709551616) ∨ (0 < y ∧ negH x y = 18446744073709551615 - x) := by
  unfold negH negB; obtain ⟨_, _⟩ := h; split <;> omega
theorem wordw (x : Int) : Word (IntKind.u64.wrap x) := by rw [IntKind.wrap_u64]; unfold Word; omega
theorem inW_eq {p q q' : Prop} [Decidable p] [Decidable q] [Decidable q'] {hi lo : Int}
    (h : (((p ∧ ¬ q ∨ ¬ p ∧ q) ∨ (hi < 0 ↔ p)) ∧ (¬ hi = -9223372036854775808 ∨ ¬ lo = 0)) ↔ (((p ∧ ¬ q' ∨ ¬ p ∧ q') ∨ (hi < 0 ↔ p)) ∧ (¬ hi = -9223372036854775808 ∨ ¬ lo = 0))) :
    inW (decide p) (decide q) hi lo = inW (decide p) (decide q') hi lo := by
  rw [Bool.eq_iff_iff, inW_iff, inW_iff]; exact h
theorem r_lo (a1 a3 : Int) : IntKind.u64.wrap (a1 - negL a3) = IntKind.u64.wrap (a1 + a3) := by
  rw [IntKind.wrap_u64, IntKind.wrap_u64]; unfold negL; omega

theorem r_hi_i (a0 a2 a3 : Int) (c3 : a3 = 0) : IntKind.u64.wrap (IntKind.u64.wrap (IntKind.u64.wrap a0 - negH (IntKind.u64.wrap a2) a3)) = IntKind.u64.wrap (IntKind.u64.wrap (IntKind.u64.wrap a0 + IntKind.u64.wrap a2)) := by
  rcases ngh (IntKind.u64.wrap a2) a3 (wordw a2) with ⟨p, q⟩ | ⟨p, q⟩
  all_goals first | omega | (rw [q]; simp only [IntKind.wrap_u64]; omega)
theorem r_in_i (a0 a1 a2 a3 : Int) (g0 : -9223372036854775808 ≤ a0 ∧ a0 < 9223372036854775808) (g2 : -9223372036854775808 ≤ a2 ∧ a2 < 9223372036854775808) (b1 : 0 ≤ a1) (b1' : a1 < 18446744073709551616) (b3 : 0 ≤ a3) (b3' : a3 < 18446744073709551616) (c3 : a3 = 0) (cc : ¬ IntKind.u64.wrap (a1 + a3) < a1) (nm : ¬ (a2 = -9223372036854775808 ∧ a3 = 0)) :
    inW (decide (a0 < 0)) (decide (0 ≤ wrap64 (negH (IntKind.u64.wrap a2) a3))) (wrap64 (IntKind.u64.wrap (IntKind.u64.wrap (IntKind.u64.wrap a0 + IntKind.u64.wrap a2)))) (IntKind.u64.wrap (a1 + a3)) = inW (decide (a0 < 0)) (decide (a2 < 0)) (wrap64 (IntKind.u64.wrap (IntKind.u64.wrap (IntKind.u64.wrap a0 + IntKind.u64.wrap a2)))) (IntKind.u64.wrap (a1 + a3)) := by
  apply inW_eq
  rcases ngh (IntKind.u64.wrap a2) a3 (wordw a2) with ⟨p, q⟩ | ⟨p, q⟩ <;> first | omega | skip
  all_goals rcases sg' a0 g0 with ⟨p1, p3⟩ | ⟨p1, p3⟩ <;> rcases sg' a2 g2 with ⟨q1, q3⟩ | ⟨q1, q3⟩ <;> simp only [q, p3, q3, IntKind.wrap_u64, wrap64] at * <;> omega
theorem r_sm_i (a0 a1 a2 a3 : Int) (b1 : 0 ≤ a1) (b1' : a1 < 18446744073709551616) (b3 : 0 ≤ a3) (b3' : a3 < 18446744073709551616) (c3 : a3 = 0) (cc : ¬ IntKind.u64.wrap (a1 + a3) < a1)
    (x1 : -2305843009213693952 ≤ a0) (x2 : a0 < 2305843009213693952) (x3 : -2305843009213693952 ≤ a2) (x4 : a2 < 2305843009213693952) :
    inW (decide (a0 < 0)) (decide (a2 < 0)) (wrap64 (IntKind.u64.wrap (IntKind.u64.wrap (IntKind.u64.wrap a0 + IntKind.u64.wrap a2)))) (IntKind.u64.wrap (a1 + a3)) = true := by
  rw [inW_iff]
  rcases sg' a0 (by omega) with ⟨p1, p3⟩ | ⟨p1, p3⟩ <;> rcases sg' a2 (by omega) with ⟨q1, q3⟩ | ⟨q1, q3⟩ <;> simp only [p3, q3, IntKind.wrap_u64, wrap64] at * <;> omega

theorem r_hi_ii (a0 a2 a3 : Int) (c3 : 0 < a3) : IntKind.u64.wrap (IntKind.u64.wrap (IntKind.u64.wrap a0 - negH (IntKind.u64.wrap a2) a3)) = IntKind.u64.wrap (IntKind.u64.wrap (IntKind.u64.wrap a0 + IntKind.u64.wrap a2) + 1) := by
  rcases ngh (IntKind.u64.wrap a2) a3 (wordw a2) with ⟨p, q⟩ | ⟨p, q⟩
  all_goals first | omega | (rw [q]; simp only [IntKind.wrap_u64]; omega)
theorem r_in_ii (a0 a1 a2 a3 : Int) (g0 : -9223372036854775808 ≤ a0 ∧ a0 < 9223372036854775808) (g2 : -9223372036854775808 ≤ a2 ∧ a2 < 9223372036854775808) (b1 : 0 ≤ a1) (b1' : a1 < 18446744073709551616) (b3 : 0 ≤ a3) (b3' : a3 < 18446744073709551616) (c3 : 0 < a3) (cc : IntKind.u64.wrap (a1 + a3) < a1) (nm : ¬ (a2 = -9223372036854775808 ∧ a3 = 0)) :
    inW (decide (a0 < 0)) (decide (0 ≤ wrap64 (negH (IntKind.u64.wrap a2) a3))) (wrap64 (IntKind.u64.wrap (IntKind.u64.wrap (IntKind.u64.wrap a0 + IntKind.u64.wrap a2) + 1))) (IntKind.u64.wrap (a1 + a3)) = inW (decide (a0 < 0)) (decide (a2 < 0)) (wrap64 (IntKind.u64.wrap (IntKind.u64.wrap (IntKind.u64.wrap a0 + IntKind.u64.wrap a2) + 1))) (IntKind.u64.wrap (a1 + a3)) := by
  apply inW_eq
  rcases ngh (IntKind.u64.wrap a2) a3 (wordw a2) with ⟨p, q⟩ | ⟨p, q⟩ <;> first | omega | skip
  all_goals rcases sg' a0 g0 with ⟨p1, p3⟩ | ⟨p1, p3⟩ <;> rcases sg' a2 g2 with ⟨q1, q3⟩ | ⟨q1, q3⟩ <;> simp only [q, p3, q3, IntKind.wrap_u64, wrap64] at * <;> omega
theorem r_sm_ii (a0 a1 a2 a3 : Int) (b1 : 0 ≤ a1) (b1' : a1 < 18446744073709551616) (b3 : 0 ≤ a3) (b3' : a3 < 18446744073709551616) (c3 : 0 < a3) (cc : IntKind.u64.wrap (a1 + a3) < a1)
    (x1 : -2305843009213693952 ≤ a0) (x2 : a0 < 2305843009213693952) (x3 : -2305843009213693952 ≤ a2) (x4 : a2 < 2305843009213693952) :
    inW (decide (a0 < 0)) (decide (a2 < 0)) (wrap64 (IntKind.u64.wrap (IntKind.u64.wrap (IntKind.u64.wrap a0 + IntKind.u64.wrap a2) + 1))) (IntKind.u64.wrap (a1 + a3)) = true := by
  rw [inW_iff]
  rcases sg' a0 (by omega) with ⟨p1, p3⟩ | ⟨p1, p3⟩ <;> rcases sg' a2 (by omega) with ⟨q1, q3⟩ | ⟨q1, q3⟩ <;> simp only [p3, q3, IntKind.wrap_u64, wrap64] at * <;> omega

theorem r_hi_iii (a0 a2 a3 : Int) (c3 : 0 < a3) : IntKind.u64.wrap (IntKind.u64.wrap (IntKind.u64.wrap a0 - negH (IntKind.u64.wrap a2) a3) - 1) = IntKind.u64.wrap (IntKind.u64.wrap (IntKind.u64.wrap a0 + IntKind.u64.wrap a2)) := by
  rcases ngh (IntKind.u64.wrap a2) a3 (wordw a2) with ⟨p, q⟩ | ⟨p, q⟩
  all_goals first | omega | (rw [q]; simp only [IntKind.wrap_u64]; omega)
theorem r_in_iii (a0 a1 a2 a3 : Int) (g0 : -9223372036854775808 ≤ a0 ∧ a0 < 9223372036854775808) (g2 : -9223372036854775808 ≤ a2 ∧ a2 < 9223372036854775808) (b1 : 0 ≤ a1) (b1' : a1 < 18446744073709551616) (b3 : 0 ≤ a3) (b3' : a3 < 18446744073709551616) (c3 : 0 < a3) (cc : ¬ IntKind.u64.wrap (a1 + a3) < a1) (nm : ¬ (a2 = -9223372036854775808 ∧ a3 = 0)) :
    inW (decide (a0 < 0)) (decide (0 ≤ wrap64 (negH (IntKind.u64.wrap a2) a3))) (wrap64 (IntKind.u64.wrap (IntKind.u64.wrap (IntKind.u64.wrap a0 + IntKind.u64.wrap a2)))) (IntKind.u64.wrap (a1 + a3)) = inW (decide (a0 < 0)) (decide (a2 < 0)) (wrap64 (IntKind.u64.wrap (IntKind.u64.wrap (IntKind.u64.wrap a0 + IntKind.u64.wrap a2)))) (IntKind.u64.wrap (a1 + a3)) := by
  apply inW_eq
  rcases ngh (IntKind.u64.wrap a2) a3 (wordw a2) with ⟨p, q⟩ | ⟨p, q⟩ <;> first | omega | skip
  all_goals rcases sg' a0 g0 with ⟨p1, p3⟩ | ⟨p1, p3⟩ <;> rcases sg' a2 g2 with ⟨q1, q3⟩ | ⟨q1, q3⟩ <;> simp only [q, p3, q3, IntKind.wrap_u64, wrap64] at * <;> omega
theorem r_sm_iii (a0 a1 a2 a3 : Int) (b1 : 0 ≤ a1) (b1' : a1 < 18446744073709551616) (b3 : 0 ≤ a3) (b3' : a3 < 18446744073709551616) (c3 : 0 < a3) (cc : ¬ IntKind.u64.wrap (a1 + a3) < a1)
    (x1 : -2305843009213693952 ≤ a0) (x2 : a0 < 2305843009213693952) (x3 : -2305843009213693952 ≤ a2) (x4 : a2 < 2305843009213693952) :
    inW (decide (a0 < 0)) (decide (a2 < 0)) (wrap64 (IntKind.u64.wrap (IntKind.u64.wrap (IntKind.u64.wrap a0 + IntKind.u64.wrap a2)))) (IntKind.u64.wrap (a1 + a3)) = true := by
  rw [inW_iff]
  rcases sg' a0 (by omega) with ⟨p1, p3⟩ | ⟨p1, p3⟩ <;> rcases sg' a2 (by omega) with ⟨q1, q3⟩ | ⟨q1, q3⟩ <;> simp only [p3, q3, IntKind.wrap_u64, wrap64] at * <;> omega

theorem small {b : Bool} {P : Prop} (h : P → b = true) : b = true ∨ (b = false ∧ Hid (¬ P)) := by
  cases b
  · exact Or.inr ⟨rfl, hide fun p => absurd (h p) (by decide)⟩
  · exact Or.inl rfl

set_option maxHeartbeats 4000000 in
theorem walk_i (a0 : Int) (a1 : Int) (a2 : Int) (a3 : Int) (h1 : Word a1) (h3 : Word a3) (k1 : Word (IntKind.u64.wrap a2)) (w : World)
    (x0 : ((a2 == -9223372036854775808) = false) ∨ ((a2 == -9223372036854775808) = true ∧ (a3 == 0) = false))
    (cc : ¬ IntKind.u64.wrap (a1 + a3) < a1) (cb : ¬ a1 < negL a3)
    (e1 : IntKind.u64.wrap (a1 - negL a3) = IntKind.u64.wrap (a1 + a3)) (e2 : IntKind.u64.wrap (IntKind.u64.wrap (IntKind.u64.wrap a0 - negH (IntKind.u64.wrap a2) a3)) = IntKind.u64.wrap (IntKind.u64.wrap (IntKind.u64.wrap a0 + IntKind.u64.wrap a2)))
    (e3 : inW (decide (a0 < 0)) (decide (0 ≤ wrap64 (negH (IntKind.u64.wrap a2) a3))) (wrap64 (IntKind.u64.wrap (IntKind.u64.wrap (IntKind.u64.wrap a0 + IntKind.u64.wrap a2)))) (IntKind.u64.wrap (a1 + a3)) = inW (decide (a0 < 0)) (decide (a2 < 0)) (wrap64 (IntKind.u64.wrap (IntKind.u64.wrap (IntKind.u64.wrap a0 + IntKind.u64.wrap a2)))) (IntKind.u64.wrap (a1 + a3)))
    (e4 : inW (decide (a0 < 0)) (decide (a2 < 0)) (wrap64 (IntKind.u64.wrap (IntKind.u64.wrap (IntKind.u64.wrap a0 + IntKind.u64.wrap a2)))) (IntKind.u64.wrap (a1 + a3)) = true ∨ (inW (decide (a0 < 0)) (decide (a2 < 0)) (wrap64 (IntKind.u64.wrap (IntKind.u64.wrap (IntKind.u64.wrap a0 + IntKind.u64.wrap a2)))) (IntKind.u64.wrap (a1 + a3)) = false ∧ Hid (¬ (-2305843009213693952 ≤ a0 ∧ a0 < 2305843009213693952 ∧ -2305843009213693952 ≤ a2 ∧ a2 < 2305843009213693952)))) :
    Calls Try.prog 6 #[.int .i64 a0, .int .u64 a1, .int .i64 a2, .int .u64 a3] w fun e w' => e = .returned (.bool true) ∧ Grown w w' := by
  rcases x0 with x0 | ⟨x0, x1⟩ <;> rcases e4 with e4 | ⟨e4, e5⟩
  all_goals
    go_enter Try.func6, Try.ntmps6
    go_wp2_with (first | (go_at_call 9; refine (zznegated_any _ _ k1 h3 _).mono ?_; rintro e w' ⟨rfl, rfl⟩) | (go_at_call 12; refine (zzinWords_any _ _ _ _ _).mono ?_; rintro e w' ⟨rfl, rfl⟩))
    all_goals first
      | (go_ret; exact ⟨rfl, Grown.refl _⟩)
      | (have hx : ¬ a2 < 2305843009213693952 := fun x => unhide e5 ⟨by assumption, by assumption, by assumption, x⟩
         go_ret
         exact ⟨ret_true (by simpa using hx), Grown.refl _⟩)

set_option maxHeartbeats 4000000 in
theorem walk_ii (a0 : Int) (a1 : Int) (a2 : Int) (a3 : Int) (h1 : Word a1) (h3 : Word a3) (k1 : Word (IntKind.u64.wrap a2)) (w : World)
    (x0 : ((a2 == -9223372036854775808) = false) ∨ ((a2 == -9223372036854775808) = true ∧ (a3 == 0) = false))
    (cc : IntKind.u64.wrap (a1 + a3) < a1) (cb : ¬ a1 < negL a3)
    (e1 : IntKind.u64.wrap (a1 - negL a3) = IntKind.u64.wrap (a1 + a3)) (e2 : IntKind.u64.wrap (IntKind.u64.wrap (IntKind.u64.wrap a0 - negH (IntKind.u64.wrap a2) a3)) = IntKind.u64.wrap (IntKind.u64.wrap (IntKind.u64.wrap a0 + IntKind.u64.wrap a2) + 1))
    (e3 : inW (decide (a0 < 0)) (decide (0 ≤ wrap64 (negH (IntKind.u64.wrap a2) a3))) (wrap64 (IntKind.u64.wrap (IntKind.u64.wrap (IntKind.u64.wrap a0 + IntKind.u64.wrap a2) + 1))) (IntKind.u64.wrap (a1 + a3)) = inW (decide (a0 < 0)) (decide (a2 < 0)) (wrap64 (IntKind.u64.wrap (IntKind.u64.wrap (IntKind.u64.wrap a0 + IntKind.u64.wrap a2) + 1))) (IntKind.u64.wrap (a1 + a3)))
    (e4 : inW (decide (a0 < 0)) (decide (a2 < 0)) (wrap64 (IntKind.u64.wrap (IntKind.u64.wrap (IntKind.u64.wrap a0 + IntKind.u64.wrap a2) + 1))) (IntKind.u64.wrap (a1 + a3)) = true ∨ (inW (decide (a0 < 0)) (decide (a2 < 0)) (wrap64 (IntKind.u64.wrap (IntKind.u64.wrap (IntKind.u64.wrap a0 + IntKind.u64.wrap a2) + 1))) (IntKind.u64.wrap (a1 + a3)) = false ∧ Hid (¬ (-2305843009213693952 ≤ a0 ∧ a0 < 2305843009213693952 ∧ -2305843009213693952 ≤ a2 ∧ a2 < 2305843009213693952)))) :
    Calls Try.prog 6 #[.int .i64 a0, .int .u64 a1, .int .i64 a2, .int .u64 a3] w fun e w' => e = .returned (.bool true) ∧ Grown w w' := by
  rcases x0 with x0 | ⟨x0, x1⟩ <;> rcases e4 with e4 | ⟨e4, e5⟩
  all_goals
    go_enter Try.func6, Try.ntmps6
    go_wp2_with (first | (go_at_call 9; refine (zznegated_any _ _ k1 h3 _).mono ?_; rintro e w' ⟨rfl, rfl⟩) | (go_at_call 12; refine (zzinWords_any _ _ _ _ _).mono ?_; rintro e w' ⟨rfl, rfl⟩))
    all_goals first
      | (go_ret; exact ⟨rfl, Grown.refl _⟩)
      | (have hx : ¬ a2 < 2305843009213693952 := fun x => unhide e5 ⟨by assumption, by assumption, by assumption, x⟩
         go_ret
         exact ⟨ret_true (by simpa using hx), Grown.refl _⟩)

set_option maxHeartbeats 4000000 in
theorem walk_iii (a0 : Int) (a1 : Int) (a2 : Int) (a3 : Int) (h1 : Word a1) (h3 : Word a3) (k1 : Word (IntKind.u64.wrap a2)) (w : World)
    (x0 : ((a2 == -9223372036854775808) = false) ∨ ((a2 == -9223372036854775808) = true ∧ (a3 == 0) = false))
    (cc : ¬ IntKind.u64.wrap (a1 + a3) < a1) (cb : a1 < negL a3)
    (e1 : IntKind.u64.wrap (a1 - negL a3) = IntKind.u64.wrap (a1 + a3)) (e2 : IntKind.u64.wrap (IntKind.u64.wrap (IntKind.u64.wrap a0 - negH (IntKind.u64.wrap a2) a3) - 1) = IntKind.u64.wrap (IntKind.u64.wrap (IntKind.u64.wrap a0 + IntKind.u64.wrap a2)))
    (e3 : inW (decide (a0 < 0)) (decide (0 ≤ wrap64 (negH (IntKind.u64.wrap a2) a3))) (wrap64 (IntKind.u64.wrap (IntKind.u64.wrap (IntKind.u64.wrap a0 + IntKind.u64.wrap a2)))) (IntKind.u64.wrap (a1 + a3)) = inW (decide (a0 < 0)) (decide (a2 < 0)) (wrap64 (IntKind.u64.wrap (IntKind.u64.wrap (IntKind.u64.wrap a0 + IntKind.u64.wrap a2)))) (IntKind.u64.wrap (a1 + a3)))
    (e4 : inW (decide (a0 < 0)) (decide (a2 < 0)) (wrap64 (IntKind.u64.wrap (IntKind.u64.wrap (IntKind.u64.wrap a0 + IntKind.u64.wrap a2)))) (IntKind.u64.wrap (a1 + a3)) = true ∨ (inW (decide (a0 < 0)) (decide (a2 < 0)) (wrap64 (IntKind.u64.wrap (IntKind.u64.wrap (IntKind.u64.wrap a0 + IntKind.u64.wrap a2)))) (IntKind.u64.wrap (a1 + a3)) = false ∧ Hid (¬ (-2305843009213693952 ≤ a0 ∧ a0 < 2305843009213693952 ∧ -2305843009213693952 ≤ a2 ∧ a2 < 2305843009213693952)))) :
    Calls Try.prog 6 #[.int .i64 a0, .int .u64 a1, .int .i64 a2, .int .u64 a3] w fun e w' => e = .returned (.bool true) ∧ Grown w w' := by
  rcases x0 with x0 | ⟨x0, x1⟩ <;> rcases e4 with e4 | ⟨e4, e5⟩
  all_goals
    go_enter Try.func6, Try.ntmps6
    go_wp2_with (first | (go_at_call 9; refine (zznegated_any _ _ k1 h3 _).mono ?_; rintro e w' ⟨rfl, rfl⟩) | (go_at_call 12; refine (zzinWords_any _ _ _ _ _).mono ?_; rintro e w' ⟨rfl, rfl⟩))
    all_goals first
      | (go_ret; exact ⟨rfl, Grown.refl _⟩)
      | (have hx : ¬ a2 < 2305843009213693952 := fun x => unhide e5 ⟨by assumption, by assumption, by assumption, x⟩
         go_ret
         exact ⟨ret_true (by simpa using hx), Grown.refl _⟩)

/-! ### STEP 1: THE WALK: the Go text returns true. 'Grown w w'': the world has at most new blocks (Derived/RowKit3.lean). Part the cases AHEAD of 'go_enter' where a test parts the walk; take each callee by a contract of your own. -/
theorem walk (a0 : Int) (a1 : Int) (a2 : Int) (a3 : Int) (w0 : (Lit.int .i64 a0).wf = true) (w1 : (Lit.int .u64 a1).wf = true) (w2 : (Lit.int .i64 a2).wf = true) (w3 : (Lit.int .u64 a3).wf = true) (w : World) :
    Calls Try.prog 6 #[.int .i64 a0, .int .u64 a1, .int .i64 a2, .int .u64 a3] w fun e w' => e = .returned (.bool true) ∧ Grown w w' := by
  have h0 := i64_of_wf w0
  have h1 := word_of_wf w1
  have h2 := i64_of_wf w2
  have h3 := word_of_wf w3
  obtain ⟨b1, b1'⟩ := word_of_wf w1
  obtain ⟨b3, b3'⟩ := word_of_wf w3
  by_cases nm : a2 = -9223372036854775808 ∧ a3 = 0
  · obtain ⟨m1, m2⟩ := nm
    subst m1; subst m2
    go_enter Try.func6, Try.ntmps6
    go_wp2
    go_ret
    exact ⟨rfl, Grown.refl _⟩
  · have x0 : ((a2 == -9223372036854775808) = false) ∨ ((a2 == -9223372036854775808) = true ∧ (a3 == 0) = false) := by
      by_cases m : a2 = -9223372036854775808
      · exact Or.inr ⟨by simpa using m, by simpa using fun h => nm ⟨m, h⟩⟩
      · exact Or.inl (by simpa using m)
    rcases ngl a3 b3 b3' with ⟨c3, q⟩ | ⟨c3, q⟩
    · have cc : ¬ IntKind.u64.wrap (a1 + a3) < a1 := by rw [IntKind.wrap_u64]; omega
      have cb : ¬ a1 < negL a3 := by rw [q]; omega
      exact walk_i a0 a1 a2 a3 h1 h3 (wordw a2) w x0 cc cb (r_lo a1 a3) (r_hi_i a0 a2 a3 c3) (r_in_i a0 a1 a2 a3 h0 h2 b1 b1' b3 b3' c3 cc nm) (small (fun x => r_sm_i a0 a1 a2 a3 b1 b1' b3 b3' c3 cc x.1 x.2.1 x.2.2.1 x.2.2.2))
    · by_cases cc : IntKind.u64.wrap (a1 + a3) < a1
      · have cb : ¬ a1 < negL a3 := by rw [q]; rw [IntKind.wrap_u64] at cc; omega
        exact walk_ii a0 a1 a2 a3 h1 h3 (wordw a2) w x0 cc cb (r_lo a1 a3) (r_hi_ii a0 a2 a3 c3) (r_in_ii a0 a1 a2 a3 h0 h2 b1 b1' b3 b3' c3 cc nm) (small (fun x => r_sm_ii a0 a1 a2 a3 b1 b1' b3 b3' c3 cc x.1 x.2.1 x.2.2.1 x.2.2.2))
      · have cb : a1 < negL a3 := by rw [q]; rw [IntKind.wrap_u64] at cc; omega
        exact walk_iii a0 a1 a2 a3 h1 h3 (wordw a2) w x0 cc cb (r_lo a1 a3) (r_hi_iii a0 a2 a3 c3) (r_in_iii a0 a1 a2 a3 h0 h2 b1 b1' b3 b3' c3 cc nm) (small (fun x => r_sm_iii a0 a1 a2 a3 b1 b1' b3 b3' c3 cc x.1 x.2.1 x.2.2.1 x.2.2.2))

/-! ### THE ROW's STEP: WRITTEN OUT: LEAVE IT -/
set_option maxRecDepth 100000 in
theorem lifted (os : Os) (started : os.Started) (H : Type) (enc : TypeId × Value → H) :
    ReturnsInHanded {} Try.checked os 6 .any (Rows.fnInWordsSumMatchesDifferenceOfNegationSpec.pre6 enc Try.prog Try.f6 Rows.fnInWordsSumMatchesDifferenceOfNegationRow.domain false) (Rows.fnInWordsSumMatchesDifferenceOfNegationSpec.post enc Try.prog Try.f6 false true false false) := by
  refine returnsInHanded_of_change (C := Try.checked) own started (by kernel_rfl) Try.func6
    (ChangeSpec.witness6 (enc := enc) (C := Try.checked) false ⟨#[], #[.int .i64 0, .int .u64 0, .int .i64 0, .int .u64 0], []⟩ 8 (by kernel_rfl) (by kernel_rfl) (by kernel_rfl) (by kernel_rfl)) ?_
  intro W base args ds gs before hval0 hW hcnd _
  have hval : ∀ (j : Nat) t v, Try.f6.params[j]? = some t → args[j]? = some v → Value.okWide Try.prog W .any base t v := hval0
  have hW' := hW
  obtain ⟨p, q, hA0, hV, rfl, hfz, hnd⟩ := hW
  have hA : DataW.TrodAll enc Try.prog W 0 (fun _ => true) true Try.f6.params.toList args.toList ds p := hA0
  rw [Try.params6] at hA hval
  obtain ⟨v0, vs0, d0, ds0, p0, q0, hargs, rfl, rfl, h0, r0⟩ := trodAll_cons hA
  obtain ⟨v1, vs1, d1, ds1, p1, q1, rfl, rfl, rfl, h1, r1⟩ := trodAll_cons r0
  obtain ⟨v2, vs2, d2, ds2, p2, q2, rfl, rfl, rfl, h2, r2⟩ := trodAll_cons r1
  obtain ⟨v3, vs3, d3, ds3, p3, q3, rfl, rfl, rfl, h3, r3⟩ := trodAll_cons r2
  obtain ⟨rfl, rfl, rfl⟩ := trodAll_nil r3
  obtain rfl : args = #[v0, v1, v2, v3] := by cases args; simp_all
  obtain ⟨rfl, rfl⟩ := trodVars_none hV
  obtain ⟨a0, rfl, rfl, rfl, w0⟩ := open_int Try.underlying2 (hval 0 2 v0 rfl rfl) h0
  obtain ⟨a1, rfl, rfl, rfl, w1⟩ := open_int Try.underlying22 (hval 1 22 v1 rfl rfl) h1
  obtain ⟨a2, rfl, rfl, rfl, w2⟩ := open_int Try.underlying2 (hval 2 2 v2 rfl rfl) h2
  obtain ⟨a3, rfl, rfl, rfl, w3⟩ := open_int Try.underlying22 (hval 3 22 v3 rfl rfl) h3
  clear hA0 hval0
  simp only [List.append_nil] at hW'
  refine (walk a0 a1 a2 a3 w0 w1 w2 w3 W).mono fun e W' ⟨he, hg⟩ => ?_
  subst he
  exact ⟨_, rfl, post_of_same (pa := []) (pv := []) hW' (fun _ _ _ => (trodAll_cons_mk (shut_bool Try.underlying4 _) trodAll_mk0)) (fun sp _ => (trodAll_cons_mk (shut_int Try.underlying2 w0) (trodAll_cons_mk (shut_int Try.underlying22 w1) (trodAll_cons_mk (shut_int Try.underlying2 w2) (trodAll_cons_mk (shut_int Try.underlying22 w3) trodAll_mk0))))) (fun _ _ => rfl) rfl
    (hg.frame _) hg.2.1 (ok_one (by kernel_rfl) rfl (okWide_bool_mk Try.underlying4 _))⟩

theorem over : Rows.fnInWordsSumMatchesDifferenceOfNegationRow.holds Try.pinned (OpenSpec.ofChange Rows.fnInWordsSumMatchesDifferenceOfNegationSpec) :=
  OpenClaim.holds_of_wide 6 Try.f6 rfl rfl rfl rfl rfl rfl rfl ⟨rfl, rfl, rfl, rfl, rfl⟩ rfl rfl rfl rfl rfl (by kernel_rfl) Try.func6 (by kernel_rfl)
    (of_decide_eq_true (by kernel_rfl)) (by unfold Func.isWrapper; first | (rw [if_pos (by decide +kernel)]; kernel_rfl) | (rw [if_neg (by decide +kernel)]; exact ⟨rfl, rfl⟩))
    (fun os started H enc _ => lifted os started H enc)

/-- ████ THE STATEMENT ████ -/
theorem proved : Rows.FnInWordsSumMatchesDifferenceOfNegationSaid :=
  over
end Go.Proofs.Qxb6604429a.fnInWordsSumMatchesDifferenceOfNegation
