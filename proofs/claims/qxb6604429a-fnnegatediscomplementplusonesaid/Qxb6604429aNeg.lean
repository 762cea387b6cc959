/-
  Seat b6604429a: math/bits.Sub64 at this program's number, 'negated' and 'ZZnegated' by contract.
-/
import Derived.Test.Qxb6604429aRows
import Derived.WalkKit
import Derived.WalkSpells
import Derived.ProofKit
import Derived.OpenShut
import Derived.Laws.Externs
import Derived.Laws.Bits64
namespace Go.Proofs.Qxb6604429a
open Go.RowKit

/-- What the model's entry for math/bits.Sub64 (named by its place in the model's own table) answers. -/
theorem run_subEntry {P : Program} (x y b : Nat) (hb : b ≤ 1) (w : World) :
    ((Extern.MathBitsCarry.rows[1]).2 #[.int .u64 x, .int .u64 y, .int .u64 b]).run P w =
      .ok (.tuple #[.int .u64 (((x + 18446744073709551616 - y - b) % 18446744073709551616 : Nat) : Int), .int .u64 ((if x < y + b then 1 else 0 : Nat) : Int)]) w := by
  have : b = 0 ∨ b = 1 := by omega
  rcases this with rfl | rfl <;> rfl

theorem call_sub (x y b : Nat) (hb : b ≤ 1) (w : World) :
    (callFunc 24 #[.int .u64 x, .int .u64 y, .int .u64 b]).run Try.prog w =
      .ok (.value (.tuple #[.int .u64 (((x + 18446744073709551616 - y - b) % 18446744073709551616 : Nat) : Int), .int .u64 ((if x < y + b then 1 else 0 : Nat) : Int)])) w := by
  rw [run_callFunc_extern Try.func24 (by kernel_rfl) (by kernel_rfl) (by kernel_rfl) (e := (Extern.MathBitsCarry.rows[1]).2) (by kernel_rfl), run_subEntry x y b hb]
  rfl

/-- A word. -/
def Word (x : Int) : Prop := 0 ≤ x ∧ x < 18446744073709551616

/-- The low word of the negation; the borrow; the high word. -/
def negL (l : Int) : Int := (0 - l) % 18446744073709551616
def negB (l : Int) : Int := if 0 < l then 1 else 0
def negH (h l : Int) : Int := (0 - h - negB l) % 18446744073709551616

theorem sub_lo (l : Int) (h : Word l) (w : World) : (callFunc 24 #[.int .u64 0, .int .u64 l, .int .u64 0]).run Try.prog w =
    .ok (.value (.tuple #[.int .u64 (negL l), .int .u64 (negB l)])) w := by
  obtain ⟨h1, h2⟩ := h
  obtain ⟨l, rfl⟩ := Int.eq_ofNat_of_zero_le h1
  have e1 : negL (l : Int) = (((0 + 18446744073709551616 - l - 0) % 18446744073709551616 : Nat) : Int) := by unfold negL; omega
  have e2 : negB (l : Int) = ((if 0 < l + 0 then 1 else 0 : Nat) : Int) := by unfold negB; split <;> split <;> omega
  rw [e1, e2]
  exact call_sub 0 l 0 (by omega) w

theorem sub_hi (x l : Int) (h : Word x) (w : World) : (callFunc 24 #[.int .u64 0, .int .u64 x, .int .u64 (negB l)]).run Try.prog w =
    .ok (.value (.tuple #[.int .u64 (negH x l), .int .u64 (if 0 < x + negB l then 1 else 0)])) w := by
  obtain ⟨h1, h2⟩ := h
  obtain ⟨x, rfl⟩ := Int.eq_ofNat_of_zero_le h1
  have hb : ∃ b : Nat, negB l = (b : Int) ∧ b ≤ 1 := by
    unfold negB; split
    · exact ⟨1, rfl, by omega⟩
    · exact ⟨0, rfl, by omega⟩
  obtain ⟨b, hb, hb1⟩ := hb
  have e1 : negH (x : Int) l = (((0 + 18446744073709551616 - x - b) % 18446744073709551616 : Nat) : Int) := by unfold negH; rw [hb]; omega
  have e2 : (if (0 : Int) < x + (b : Int) then 1 else 0 : Int) = ((if 0 < x + b then 1 else 0 : Nat) : Int) := by split <;> split <;> omega
  rw [e1, hb, e2]
  exact call_sub 0 x b hb1 w

/-- baekse.negated. -/
theorem negated_any (x l : Int) (h1 : Word x) (h2 : Word l) (w : World) :
    Calls Try.prog 21 #[.int .u64 x, .int .u64 l] w fun e w' => e = .returned (.tuple #[.int .u64 (negH x l), .int .u64 (negL l)]) ∧ w' = w := by
  go_enter Try.func21, Try.ntmps21
  go_wp2_with (first | simp only [sub_lo l h2] | simp only [sub_hi x l h1])
  all_goals (go_ret2; exact ⟨rfl, rfl⟩)

/-- baekse.ZZnegated. -/
theorem zznegated_any (x l : Int) (h1 : Word x) (h2 : Word l) (w : World) :
    Calls Try.prog 9 #[.int .u64 x, .int .u64 l] w fun e w' => e = .returned (.tuple #[.int .u64 (negH x l), .int .u64 (negL l)]) ∧ w' = w := by
  go_enter Try.func9, Try.ntmps9
  go_wp2_with (go_at_call 21; refine (negated_any x l h1 h2 _).mono ?_; rintro e w' ⟨rfl, rfl⟩)
  go_ret2
  exact ⟨rfl, rfl⟩

/-! ### Plain arithmetic -/
theorem cpl (x : Int) (h : Word x) : bits .xor .u64 IntKind.u64.max x = 18446744073709551615 - x := by
  obtain ⟨h1, h2⟩ := h
  obtain ⟨x, rfl⟩ := Int.eq_ofNat_of_zero_le h1
  have hx : (BitVec.ofInt 64 (x : Int)).toNat = x := by
    rw [BitVec.ofInt_natCast, BitVec.toNat_ofNat]; exact Nat.mod_eq_of_lt (by omega)
  have hm : BitVec.ofInt 64 IntKind.u64.max = BitVec.allOnes 64 := by decide
  show IntKind.u64.wrap ((BitVec.ofInt 64 IntKind.u64.max ^^^ BitVec.ofInt 64 (x : Int)).toNat : Int) = _
  rw [hm, BitVec.allOnes_xor, BitVec.toNat_not, hx, IntKind.wrap_u64]
  omega

theorem word_of_wf {x : Int} (h : (Lit.int .u64 x).wf = true) : Word x := by
  simp [Lit.wf, IntKind.min, IntKind.max, IntKind.signed, IntKind.bits] at h
  exact ⟨by omega, by omega⟩

end Go.Proofs.Qxb6604429a
