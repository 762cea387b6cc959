/-
  Seat b6604429a: 'inWords', 'ZZinWords', 'signWord', 'neg192' by contract.
-/
import Derived.Test.Qxb6604429aNeg
import Derived.Deep.RegionWith
namespace Go.Proofs.Qxb6604429a
open Go.RowKit
set_option linter.unusedSimpArgs false

theorem hide {p : Prop} (h : p) : Hid p := h
theorem unhide {p : Prop} (h : Hid p) : p := h

/-- What inWords answers. -/
def inW (a b : Bool) (hi lo : Int) : Bool := (a != b || decide (hi < 0) == a) && (!decide (hi = -9223372036854775808) || !decide (lo = 0))

theorem inW_true {a b : Bool} {hi lo : Int} (h : (a ≠ b ∨ decide (hi < 0) = a) ∧ (hi ≠ -9223372036854775808 ∨ lo ≠ 0)) : inW a b hi lo = true := by
  unfold inW; simp; exact h

set_option maxHeartbeats 400000 in
/-- baekse.inWords. -/
theorem inWords_any (a b : Bool) (hi lo : Int) (w : World) :
    Calls Try.prog 22 #[.bool a, .bool b, .int .i64 hi, .int .u64 lo] w fun e w' => e = .returned (.bool (inW a b hi lo)) ∧ w' = w := by
  unfold inW
  by_cases h1 : hi = -9223372036854775808
  · subst h1
    by_cases h3 : lo = 0
    · subst h3
      cases a <;> cases b
      all_goals (go_enter Try.func22, Try.ntmps22; go_wp2; go_ret; exact ⟨rfl, rfl⟩)
    · have h3' : (lo == 0) = false := by simpa using h3
      cases a <;> cases b
      all_goals (go_enter Try.func22, Try.ntmps22; go_wp2; go_ret; exact ⟨by simp [h3], rfl⟩)
  · have h1' : (hi == -9223372036854775808) = false := by simpa using h1
    by_cases h2 : hi < 0
    · cases a <;> cases b
      all_goals (go_enter Try.func22, Try.ntmps22; go_wp2; go_ret; exact ⟨by simp [h1, h2], rfl⟩)
    · cases a <;> cases b
      all_goals (go_enter Try.func22, Try.ntmps22; go_wp2; go_ret; exact ⟨by simp [h1, h2], rfl⟩)

/-- baekse.ZZinWords. -/
theorem zzinWords_any (a b : Bool) (hi lo : Int) (w : World) :
    Calls Try.prog 12 #[.bool a, .bool b, .int .i64 hi, .int .u64 lo] w fun e w' => e = .returned (.bool (inW a b hi lo)) ∧ w' = w := by
  go_enter Try.func12, Try.ntmps12
  go_wp2_with (go_at_call 22; refine (inWords_any a b hi lo _).mono ?_; rintro e w' ⟨rfl, rfl⟩)
  go_ret
  exact ⟨rfl, rfl⟩

/-- The word of a sign. -/
def sgn (h : Int) : Int := if h < 0 then 18446744073709551615 else 0

theorem signWord_any (h : Int) (w : World) :
    Calls Try.prog 10 #[.int .i64 h] w fun e w' => e = .returned (.int .u64 (sgn h)) ∧ w' = w := by
  unfold sgn
  by_cases c : h < 0
  · rw [if_pos c]
    go_enter Try.func10, Try.ntmps10; go_wp2; go_ret; exact ⟨rfl, rfl⟩
  · rw [if_neg c]
    go_enter Try.func10, Try.ntmps10; go_wp2; go_ret; exact ⟨rfl, rfl⟩

/-- The three words of a negation. -/
def n0 (x0 : Int) : Int := (0 - x0) % 18446744073709551616
def n1 (x1 x0 : Int) : Int := (0 - x1 - (if x0 = 0 then 0 else 1)) % 18446744073709551616
def n2 (x2 x1 x0 : Int) : Int := (0 - x2 - (if x0 = 0 ∧ x1 = 0 then 0 else 1)) % 18446744073709551616

theorem ret3 {a b c a' b' c' : Int} (h1 : a = a') (h2 : b = b') (h3 : c = c') :
    Ending.returned (.tuple #[.int .u64 a, .int .u64 b, .int .u64 c]) = .returned (.tuple #[.int .u64 a', .int .u64 b', .int .u64 c']) := by rw [h1, h2, h3]

theorem lo_eq (x : Int) (h : Word x) : IntKind.u64.wrap (bits .xor .u64 IntKind.u64.max x + 1) = (0 - x) % 18446744073709551616 := by
  rw [cpl x h, IntKind.wrap_u64]; omega
theorem hi_eq (x : Int) (h : Word x) : bits .xor .u64 IntKind.u64.max x = (0 - x - 1) % 18446744073709551616 := by
  rw [cpl x h]; obtain ⟨_, _⟩ := h; omega

theorem neg192_any (x2 x1 x0 : Int) (h2 : Word x2) (h1 : Word x1) (h0 : Word x0) (w : World) :
    Calls Try.prog 11 #[.int .u64 x2, .int .u64 x1, .int .u64 x0] w fun e w' => e = .returned (.tuple #[.int .u64 (n2 x2 x1 x0), .int .u64 (n1 x1 x0), .int .u64 (n0 x0)]) ∧ w' = w := by
  by_cases c0 : x0 = 0
  · have b0 : (x0 == 0) = true := by simpa using c0
    have d1 : n1 x1 x0 = (0 - x1) % 18446744073709551616 := by unfold n1; rw [if_pos c0]; omega
    by_cases c1 : x1 = 0
    · have b1 : (x1 == 0) = true := by simpa using c1
      have d2 : n2 x2 x1 x0 = (0 - x2) % 18446744073709551616 := by unfold n2; rw [if_pos ⟨c0, c1⟩]; omega
      have D1 := hide d1
      have D2 := hide d2
      clear c0 c1 d1 d2
      go_enter Try.func11, Try.ntmps11
      go_wp2
      all_goals (go_ret3; exact ⟨ret3 ((lo_eq x2 h2).trans (unhide D2).symm) ((lo_eq x1 h1).trans (unhide D1).symm) (lo_eq x0 h0), rfl⟩)
    · have b1 : (x1 == 0) = false := by simpa using c1
      have d2 : n2 x2 x1 x0 = (0 - x2 - 1) % 18446744073709551616 := by unfold n2; rw [if_neg (fun h => c1 h.2)]
      have D1 := hide d1
      have D2 := hide d2
      clear c0 c1 d1 d2
      go_enter Try.func11, Try.ntmps11
      go_wp2
      all_goals (go_ret3; exact ⟨ret3 ((hi_eq x2 h2).trans (unhide D2).symm) ((lo_eq x1 h1).trans (unhide D1).symm) (lo_eq x0 h0), rfl⟩)
  · have b0 : (x0 == 0) = false := by simpa using c0
    have d1 : n1 x1 x0 = (0 - x1 - 1) % 18446744073709551616 := by unfold n1; rw [if_neg c0]
    have d2 : n2 x2 x1 x0 = (0 - x2 - 1) % 18446744073709551616 := by unfold n2; rw [if_neg (fun h => c0 h.1)]
    have D1 := hide d1
    have D2 := hide d2
    clear c0 d1 d2
    go_enter Try.func11, Try.ntmps11
    go_wp2
    all_goals (go_ret3; exact ⟨ret3 ((hi_eq x2 h2).trans (unhide D2).symm) ((hi_eq x1 h1).trans (unhide D1).symm) (lo_eq x0 h0), rfl⟩)

/-! ### Plain helpers -/
theorem ret_true {b : Bool} (h : b = true) : Ending.returned (.bool b) = .returned (.bool true) := by rw [h]
theorem inW_iff (p q : Prop) [Decidable p] [Decidable q] (hi lo : Int) : inW (decide p) (decide q) hi lo = true ↔ ((p ∧ ¬ q ∨ ¬ p ∧ q) ∨ (hi < 0 ↔ p)) ∧ (¬ hi = -9223372036854775808 ∨ ¬ lo = 0) := by
  unfold inW
  by_cases hp : p <;> by_cases hq : q <;> by_cases hh : hi < 0 <;> simp [hp, hq, hh] <;> omega
theorem not_dec (p : Prop) [Decidable p] : (!decide p) = decide (¬ p) := by simp
theorem i64_of_wf {x : Int} (h : (Lit.int .i64 x).wf = true) : -9223372036854775808 ≤ x ∧ x < 9223372036854775808 := by
  simp [Lit.wf, IntKind.min, IntKind.max, IntKind.signed, IntKind.bits] at h
  exact ⟨by omega, by omega⟩
theorem sg (x : Int) (h : -9223372036854775808 ≤ x ∧ x < 9223372036854775808) : (x < 0 ∧ sgn x = 18446744073709551615 ∧ IntKind.u64.wrap x = x + 18446744073709551616) ∨ (0 ≤ x ∧ sgn x = 0 ∧ IntKind.u64.wrap x = x) := by
  unfold sgn; rw [IntKind.wrap_u64]; split <;> omega
theorem fin1 {b : Bool} {P : Prop} [Decidable P] (h : b = true ↔ P) : (b == decide P) = true := by
  by_cases hp : P <;> cases b <;> simp_all
theorem fin2 {b : Bool} {x : Int} (h : b = true ↔ ¬ x = 0) : (b == (x != 0)) = true := by
  by_cases hp : x = 0 <;> cases b <;> simp_all
theorem fin4 {b : Bool} (h : ¬ b = true) : (!b) = true := by cases b <;> simp_all

end Go.Proofs.Qxb6604429a
