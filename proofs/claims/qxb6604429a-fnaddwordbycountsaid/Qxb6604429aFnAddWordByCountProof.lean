/-
  Seat b6604429a: the proof of Rows.FnAddWordByCountSaid.
-/
import Derived.Test.Qxb6604429aClone
import Derived.WalkKit
import Derived.ProofKit
import Derived.OpenShut
import Derived.ShutString
import Derived.ChangeOld
import Derived.Below
namespace Go.Proofs.Qxb6604429a.fnAddWordByCount
open Go.ChangeShapes Go.WideShapes Go.ChangeAt Go.RowKit
open Go.ChangeMaps (open_string shut_string)
set_option linter.unusedVariables false

theorem own : ownKnob Try.prog.godebug = none := by kernel_rfl
theorem laidOut : laidOutB Try.prog = true := by kernel_rfl

set_option linter.unusedSimpArgs false

/-! ### The walk -/
set_option maxHeartbeats 1000000 in
theorem byCount (v : Value) (ss : List ByteArray) (x : ByteArray) (w : World) (hs : Strs w v ss) (hx : x.size ≤ 9223372036854775807) :
    Calls Try.prog 7 #[v, .string x] w fun e w' => e = .returned (.bool true) ∧ Below w.heap.size w w' := by
  obtain ⟨ao0, cap0, rfl, -⟩ := hs.form
  go_enter Try.func7, Try.ntmps7
  go_wp2_with fail
  refine (zzBytes_any _ ss x _ hs hx).mono ?_
  rintro e w' ⟨hw, rfl | ⟨rfl, hn, hx1, ha⟩⟩
  · subst w'
    go_wp2
    go_ret
    exact ⟨rfl, Below.refl _ _⟩
  subst w'
  have hx2 : x.size ≤ 1048576 := hx1 x (by simp)
  clear hx1
  by_cases hlen : 65536 < ss.length
  · go_wp2
    go_ret
    exact ⟨rfl, Below.refl _ _⟩
  have HA : Hid (∀ s ∈ ss, s.size ≤ 1048576) := ha
  clear ha
  go_wp2_with fail
  refine (wordsBytes_any _ ss _ hs hn HA.out).mono ?_
  rintro e w' ⟨r, rfl, hr0, hr1, hw⟩
  subst w'
  by_cases hsum : r + x.size > 1048576
  · go_wp2
    go_ret
    exact ⟨rfl, Below.refl _ _⟩
  go_wp2_with fail
  refine (clone_any _ ss _ hs hn).mono ?_
  rintro e w1 ⟨v1, rfl, ho1, hb1⟩
  have hs1 := ho1.strs
  obtain ⟨ao1, cap1, rfl, hf1⟩ := hs1.form
  have HF1 := hide hf1
  clear hf1
  go_wp2_with fail
  refine (clone_any _ ss _ hs1 hn).mono ?_
  rintro e w2 ⟨v2, rfl, ho2, hb2⟩
  go_wp2_with fail
  refine (zzaddWord_any w1.heap.size v2 ss x _ ho2 hb2.size hn).mono ?_
  rintro e w3 ⟨v3, rfl, ho3, hb3⟩
  have hs3 := ho3.strs
  obtain ⟨ao3, cap3, rfl, hf3⟩ := hs3.form
  have HF3 := hide hf3
  clear hf3
  have hb13 : Below w1.heap.size w1 w3 := hb2.trans hb3
  have hs13 : Strs w3 (.slice ao1 ss.length cap1) ss := hs1.below hb13 (Nat.le_refl _)
  have hg1 := addW_len x ss
  have HG := hide (addW_get x ss)
  have HC := hide (addW_cnt x ss)
  generalize addW x ss = gs at *
  obtain ⟨hg1, hg2⟩ := hg1
  go_wp2
  go_loopw [7] (fun i wr => ∃ k : Nat, k ≤ ss.length ∧ i = .int .i64 k ∧ ∃ q, wr = w3.drewN q) (fun i _ => ss.length - (intOf i).toNat)
  case atStart => exact ⟨0, Nat.zero_le _, rfl, 0, rfl⟩
  case round =>
    obtain ⟨k, hk, rfl, q, rfl⟩ := hrel
    by_cases hlt : k < ss.length
    · obtain ⟨b1, off1, rfl, hbk1, hc1⟩ := unhide HF1 (by omega)
      obtain ⟨b3, off3, rfl, hbk3, hc3⟩ := unhide HF3 (by omega)
      have hx1 := hc1 k hlt
      have hx3 := hc3 k (by omega)
      rw [unhide HG k hlt] at hx3
      rw [← hb13.cell (p := ⟨b1, off1 + k, none⟩) hbk1] at hx1
      generalize ss.getD k ByteArray.empty = s at hx1 hx3
      have hkg : k < gs.length := by omega
      clear hc1 hc3
      go_wp2
      go_quiet (fail)
      go_wp2
      go_roundw
      case rel => exact ⟨k + 1, by omega, by go_num, q + nq, rfl⟩
      case measure => simp [intOf]; omega
    · have hbf : Below w.heap.size w (w3.drewN q) := below_drewN (hb1.trans (hb13.mono hb1.size)) q
      have hc1 := hs13.drewN q
      have hc3 := hs3.drewN q
      rcases unhide HC with ⟨hl, hpos, hcnt⟩ | ⟨hl, hlast, hzero, hone⟩
      · have hq : ((gs.length : Int) == (ss.length : Int) + 1) = false := by rw [hl]; simp; omega
        have hq0 : ((cnt x ss : Nat) : Int) ≠ 0 := by omega
        have hgn : gs.length ≤ 1048576 := by omega
        have HL := hide hl
        have HC' := hide hcnt
        clear hl hcnt HC
        go_wp2_with fail
        refine (countWord_any _ ss x _ hc1 hn).mono ?_
        rintro e w' ⟨rfl, hw⟩
        subst w'
        go_wp2_with fail
        refine (countWord_any _ gs x _ hc3 hgn).mono ?_
        rintro e w' ⟨rfl, hw⟩
        subst w'
        go_wp2
        go_ret
        exact ⟨ret_bool (by rw [unhide HC']; simp), hbf⟩
      · have hq : ((gs.length : Int) == (ss.length : Int) + 1) = true := by rw [hl]; simp
        obtain ⟨b3, off3, rfl, hbk3, hc3'⟩ := unhide HF3 (by omega)
        have hx3 := hc3' ss.length (by omega)
        rw [hlast] at hx3
        have hgl : ss.length < gs.length := by omega
        have hgn : gs.length ≤ 1048576 := by omega
        have H0 := hide hzero
        have H1 := hide hone
        clear hl hlast hc3' hzero hone HC
        go_wp2_with fail
        refine (countWord_any _ ss x _ hc1 hn).mono ?_
        rintro e w' ⟨rfl, hw⟩
        subst w'
        rw [unhide H0]
        go_wp2_with fail
        refine (countWord_any _ gs x _ hc3 hgn).mono ?_
        rintro e w' ⟨rfl, hw⟩
        subst w'
        rw [unhide H1]
        go_wp2
        go_ret
        exact ⟨rfl, hbf⟩

/-! ### THE ROW's STEP: WRITTEN OUT: LEAVE IT -/
set_option maxRecDepth 100000 in
theorem lifted (os : Os) (started : os.Started) (H : Type) (enc : TypeId × Value → H) :
    ReturnsInHanded {} Try.checked os 7 .any (Rows.fnAddWordByCountSpec.pre6 enc Try.prog Try.f7 Rows.fnAddWordByCountRow.domain false) (Rows.fnAddWordByCountSpec.post enc Try.prog Try.f7 false true false false) := by
  refine returnsInHanded_of_change (C := Try.checked) own started (by kernel_rfl) Try.func7
    (ChangeSpec.witness6 (enc := enc) (C := Try.checked) false ⟨#[], #[.slice none 0 0, .string ByteArray.empty], []⟩ 8 (by kernel_rfl) (by kernel_rfl) (by kernel_rfl) (by kernel_rfl)) ?_
  intro W base args ds gs before hval0 hW hcnd _
  have hval : ∀ (j : Nat) t v, Try.f7.params[j]? = some t → args[j]? = some v → Value.okWide Try.prog W .any base t v := hval0
  have hW' := hW
  obtain ⟨p, q, hA0, hV, rfl, hfz, hnd⟩ := hW
  have hA : DataW.TrodAll enc Try.prog W 0 (fun _ => true) true Try.f7.params.toList args.toList ds p := hA0
  rw [Try.params7] at hA hval
  obtain ⟨v0, vs0, d0, ds0, p0, q0, hargs, rfl, rfl, h0, r0⟩ := trodAll_cons hA
  obtain ⟨v1, vs1, d1, ds1, p1, q1, rfl, rfl, rfl, h1, r1⟩ := trodAll_cons r0
  obtain ⟨rfl, rfl, rfl⟩ := trodAll_nil r1
  obtain rfl : args = #[v0, v1] := by cases args; simp_all
  obtain ⟨rfl, rfl⟩ := trodVars_none hV
  obtain ⟨a0, len0, cap0, rfl⟩ := okWide_slice Try.underlying32 (hval 0 32 v0 rfl rfl)
  have k0 := h0
  have lt0 : ∀ x ∈ p0, x.block < W.heap.size := by obtain ⟨m, hm⟩ := k0; exact DataW.trod_lt m _ _ _ hm
  obtain ⟨ss, w0⟩ := strs_open h0
  obtain ⟨a1, rfl, rfl, rfl, w1⟩ := open_string Try.underlying9 (hval 1 9 v1 rfl rfl) h1
  clear hA0 hval0
  refine (byCount _ ss a1 W w0 w1).mono fun e W' ⟨he, bel⟩ => ?_
  subst he
  exact ⟨_, rfl, _, _, _, [], _, [], hW', trodAll_mk1 (shut_bool Try.underlying4 _), (trodAll_cons_mk (Below.trod laidOut (by kernel_rfl) (of_decide_eq_true (by kernel_rfl)) k0 bel lt0) (trodAll_cons_mk (shut_string Try.underlying9 w1) trodAll_mk0)), rfl, bel.frame _, fun h => by cases h⟩

theorem over : Rows.fnAddWordByCountRow.holds Try.pinned (OpenSpec.ofChange Rows.fnAddWordByCountSpec) :=
  OpenClaim.holds_of_wide 7 Try.f7 rfl rfl rfl rfl rfl rfl rfl ⟨rfl, rfl, rfl, rfl, rfl⟩ rfl rfl rfl rfl rfl (by kernel_rfl) Try.func7 (by kernel_rfl)
    (of_decide_eq_true (by kernel_rfl)) (by unfold Func.isWrapper; first | (rw [if_pos (by decide +kernel)]; kernel_rfl) | (rw [if_neg (by decide +kernel)]; exact ⟨rfl, rfl⟩))
    (fun os started H enc _ => lifted os started H enc)

/-- ████ THE STATEMENT ████ -/
theorem proved : Rows.FnAddWordByCountSaid := over
end Go.Proofs.Qxb6604429a.fnAddWordByCount
