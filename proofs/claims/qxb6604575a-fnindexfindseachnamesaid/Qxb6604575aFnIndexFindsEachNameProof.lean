/-
  Seat b6604575a: the proof of Rows.FnIndexFindsEachNameSaid.
-/
import Derived.Test.Qxb6604575aChain
import Derived.WalkKit
import Derived.ProofKit
import Derived.OpenShut
import Derived.ShutString
import Derived.ChangeOld
import Derived.Below
namespace Go.Proofs.Qxb6604575a.fnIndexFindsEachName
open Go.ChangeShapes Go.WideShapes Go.ChangeAt Go.RowKit
open Go.ChangeMaps (open_string shut_string)
set_option linter.unusedVariables false

theorem own : ownKnob Try.prog.godebug = none := by kernel_rfl
theorem laidOut : laidOutB Try.prog = true := by kernel_rfl

set_option linter.unusedSimpArgs false

/-! ### The walk -/
theorem idx_self {ss : List ByteArray} {k : Nat} {r : Int} (hd : Dist ss) (hk : k < ss.length) (h : IsIdx (ss.getD k ByteArray.empty) ss r) : r = (k : Int) := by
  rcases h with ⟨m, hm, rfl, he, hf⟩ | ⟨_, hf⟩
  · by_cases e1 : m < k
    · exact absurd (by simpa using he) (hd k m e1 hk)
    · by_cases e2 : k < m
      · have := hf k e2; simp at this
      · omega
  · have := hf k hk; simp at this

set_option maxHeartbeats 1000000 in
theorem indexLaw (v : Value) (ss : List ByteArray) (x : ByteArray) (w : World) (hs : Strs w v ss) (hx : x.size ≤ 9223372036854775807) :
    Calls Try.prog 3 #[v, .string x] w fun e w' => e = .returned (.bool true) ∧ Below w.heap.size w w' := by
  obtain ⟨ao0, cap0, rfl, -⟩ := hs.form
  go_enter Try.func3, Try.ntmps3
  go_wp2_with fail
  refine (zzBytes_any _ ss x _ hs hx).mono ?_
  rintro e w' ⟨hw, rfl | ⟨rfl, hn, hx1, ha⟩⟩
  · subst w'
    go_wp2
    go_ret
    exact ⟨rfl, Below.refl _ _⟩
  subst w'
  have hx2 : x.size ≤ 1048576 := hx1 x (by simp)
  clear hx1
  by_cases hlen : 4096 < ss.length
  · go_wp2
    go_ret
    exact ⟨rfl, Below.refl _ _⟩
  have hn4 : ss.length ≤ 4096 := by omega
  have HA := hide ha
  clear ha
  go_wp2_with fail
  refine (namesBytes_any _ ss x _ hs hn4 hx2 (unhide HA)).mono ?_
  rintro e w' ⟨r, rfl, hr0, hr1, hw⟩
  subst w'
  by_cases hsum : r > 1048576
  · go_wp2
    go_ret
    exact ⟨rfl, Below.refl _ _⟩
  go_wp2_with fail
  refine (distinct_any _ ss _ hs hn4).mono ?_
  rintro e w' ⟨⟨q, rfl⟩, rfl | ⟨rfl, hd⟩⟩
  · go_wp2
    go_ret
    exact ⟨rfl, below_drewN (Below.refl _ _) q⟩
  have hs := hs.drewN q
  have hb0 : Below w.heap.size w (w.drewN q) := below_drewN (Below.refl _ _) q
  have hz0 : (w.drewN q).heap.size = w.heap.size := rfl
  generalize w.drewN q = w0 at *
  have HD := hide hd
  have HZ0 := hide hz0
  clear hd hz0
  go_wp2_with fail
  refine (clone_any _ ss _ hs hn).mono ?_
  rintro e w1 ⟨v1, rfl, ho1, hb1⟩
  have hs1 := ho1.strs
  obtain ⟨ao1, cap1, rfl, hf1⟩ := hs1.form
  have HF1 := hide hf1
  clear hf1
  go_wp2_with fail
  refine (chainOf_any _ ss _ hs1 hn4).mono ?_
  rintro e w2 ⟨g, cap, ps, rfl, hps, hi2, hb2⟩
  have HP := hide hps
  have hpl : ps.length ≤ 4096 := by have := congrArg List.length hps; simp at this; omega
  clear hps
  go_wp2_with fail
  refine (zzchainOf_any _ _ _ _).mono ?_
  rintro e w3 ⟨rfl, hc3, hw3⟩
  have hb3 : Below w2.heap.size w2 w3 := by rw [hw3]; exact (Below.refl _ _).alloc (Nat.le_refl _) _
  have hz3 : w2.heap.size < w3.heap.size := by rw [hw3]; simp
  have hi3 := hi2.below hb3 (Nat.le_refl _)
  have hb13 : Below w1.heap.size w1 w3 := hb2.trans (hb3.mono hb2.size)
  have hbw3 : Below w.heap.size w w3 := hb0.trans ((hb1.mono (by rw [unhide HZ0]; exact Nat.le_refl _)).trans (hb13.mono (by have := hb1.size; rw [unhide HZ0] at this; exact this)))
  clear hw3
  go_wp2
  go_loopw [6] (fun i wr => ∃ k : Nat, k ≤ ss.length ∧ i = .int .i64 k ∧ Below w3.heap.size w3 wr) (fun i _ => ss.length - (intOf i).toNat)
  case atStart => exact ⟨0, Nat.zero_le _, rfl, Below.refl _ _⟩
  case round =>
    obtain ⟨k, hk, rfl, hbr⟩ := hrel
    have hcr := hc3.below hbr hz3
    have hir := hi3.below hbr (Nat.le_refl _)
    by_cases hlt : k < ss.length
    · obtain ⟨b1, off1, rfl, hbk1, hc1⟩ := unhide HF1 (by omega)
      have hx1 := hc1 k hlt
      rw [← hb13.cell (p := ⟨b1, off1 + k, none⟩) hbk1, ← hbr.cell (p := ⟨b1, off1 + k, none⟩) (by have := hb13.size; show b1 < _; omega)] at hx1
      obtain ⟨s, hs⟩ : ∃ s, s = ss.getD k ByteArray.empty := ⟨_, rfl⟩
      rw [← hs] at hx1
      have HS := hide hs
      clear hc1 hs
      go_wp2_with fail
      refine (zzindex_any w1.heap.size _ g cap ps s _ hcr hir hpl).mono ?_
      rintro e w' ⟨r', rfl, hidx, hb'⟩
      rw [unhide HP, unhide HS] at hidx
      obtain rfl := idx_self (unhide HD) hlt hidx
      go_wp2
      go_roundw
      case rel => exact ⟨k + 1, by omega, by go_num, hbr.trans (hb'.mono hbr.size)⟩
      case measure => simp [intOf]; omega
    · go_wp2_with fail
      refine (zzindex_any w1.heap.size _ g cap ps x _ hcr hir hpl).mono ?_
      rintro e w4 ⟨r', rfl, hidx, hb'⟩
      rw [unhide HP] at hidx
      have hb34 : Below w3.heap.size w3 w4 := hbr.trans (hb'.mono hbr.size)
      have hbf : Below w.heap.size w w4 := hbw3.trans (hb34.mono hbw3.size)
      have hc1 : 0 < ss.length → ∃ b off, ao1 = some ⟨b, off, none⟩ ∧ ∀ j, j < ss.length → w4.cell? ⟨b, off + j, none⟩ = some (.string (ss.getD j ByteArray.empty)) := by
        intro hp
        obtain ⟨b1, off1, h1, hbk1, hc1⟩ := unhide HF1 hp
        refine ⟨b1, off1, h1, fun j hj => ?_⟩
        rw [hb34.cell (p := ⟨b1, off1 + j, none⟩) (by have := hb13.size; show b1 < _; omega), hb13.cell (p := ⟨b1, off1 + j, none⟩) hbk1]
        exact hc1 j hj
      have HC1 := hide hc1
      have HI := hide hidx
      clear hc1 hcr hir hidx
      rcases unhide HI with ⟨m, hm, rfl, he, -⟩ | ⟨rfl, hno⟩
      · obtain ⟨b1, off1, rfl, hc1⟩ := unhide HC1 (by omega)
        have hx1 := hc1 m hm
        generalize ss.getD m ByteArray.empty = s at hx1 he
        have hm1 : ((m : Int) == -1) = false := by rw [beq_eq_false_iff_ne]; omega
        clear hc1
        go_wp2
        go_ret
        exact ⟨ret_bool (by first | rfl | exact he | simp [he]), hbf⟩
      · have HN := hide hno
        clear hno
        go_wp2
        go_loop [8] (fun i => ∃ k : Nat, k ≤ ss.length ∧ i = .int .i64 k) (fun i => ss.length - (intOf i).toNat)
        case atStart => exact ⟨0, Nat.zero_le _, rfl⟩
        case round =>
          obtain ⟨m, hm, rfl⟩ := hrel
          by_cases hml : m < ss.length
          · obtain ⟨b1, off1, rfl, hc1⟩ := unhide HC1 (by omega)
            have hx1 := hc1 m hml
            have he := unhide HN m hml
            generalize ss.getD m ByteArray.empty = s at hx1 he
            clear hc1
            go_wp2
            go_round
            case rel => exact ⟨m + 1, by omega, by go_num⟩
            case measure => simp [intOf]; omega
          · go_wp2
            go_ret
            exact ⟨rfl, hbf⟩

/-! ### THE ROW's STEP: WRITTEN OUT: LEAVE IT -/
set_option maxRecDepth 100000 in
theorem lifted (os : Os) (started : os.Started) (H : Type) (enc : TypeId × Value → H) :
    ReturnsInHanded {} Try.checked os 3 .any (Rows.fnIndexFindsEachNameSpec.pre6 enc Try.prog Try.f3 Rows.fnIndexFindsEachNameRow.domain false) (Rows.fnIndexFindsEachNameSpec.post enc Try.prog Try.f3 false true false false) := by
  refine returnsInHanded_of_change (C := Try.checked) own started (by kernel_rfl) Try.func3
    (ChangeSpec.witness6 (enc := enc) (C := Try.checked) false ⟨#[], #[.slice none 0 0, .string ByteArray.empty], []⟩ 8 (by kernel_rfl) (by kernel_rfl) (by kernel_rfl) (by kernel_rfl)) ?_
  intro W base args ds gs before hval0 hW hcnd _
  have hval : ∀ (j : Nat) t v, Try.f3.params[j]? = some t → args[j]? = some v → Value.okWide Try.prog W .any base t v := hval0
  have hW' := hW
  obtain ⟨p, q, hA0, hV, rfl, hfz, hnd⟩ := hW
  have hA : DataW.TrodAll enc Try.prog W 0 (fun _ => true) true Try.f3.params.toList args.toList ds p := hA0
  rw [Try.params3] at hA hval
  obtain ⟨v0, vs0, d0, ds0, p0, q0, hargs, rfl, rfl, h0, r0⟩ := trodAll_cons hA
  obtain ⟨v1, vs1, d1, ds1, p1, q1, rfl, rfl, rfl, h1, r1⟩ := trodAll_cons r0
  obtain ⟨rfl, rfl, rfl⟩ := trodAll_nil r1
  obtain rfl : args = #[v0, v1] := by cases args; simp_all
  obtain ⟨rfl, rfl⟩ := trodVars_none hV
  obtain ⟨a0, len0, cap0, rfl⟩ := okWide_slice Try.underlying22 (hval 0 22 v0 rfl rfl)
  have k0 := h0
  have lt0 : ∀ x ∈ p0, x.block < W.heap.size := by obtain ⟨m, hm⟩ := k0; exact DataW.trod_lt m _ _ _ hm
  obtain ⟨ss, w0⟩ := strs_open h0
  obtain ⟨a1, rfl, rfl, rfl, w1⟩ := open_string Try.underlying9 (hval 1 9 v1 rfl rfl) h1
  clear hA0 hval0
  refine (indexLaw _ ss a1 W w0 w1).mono fun e W' ⟨he, bel⟩ => ?_
  subst he
  exact ⟨_, rfl, _, _, _, [], _, [], hW', trodAll_mk1 (shut_bool Try.underlying4 _), (trodAll_cons_mk (Below.trod laidOut (by kernel_rfl) (of_decide_eq_true (by kernel_rfl)) k0 bel lt0) (trodAll_cons_mk (shut_string Try.underlying9 w1) trodAll_mk0)), rfl, bel.frame _, fun h => by cases h⟩

theorem over : Rows.fnIndexFindsEachNameRow.holds Try.pinned (OpenSpec.ofChange Rows.fnIndexFindsEachNameSpec) :=
  OpenClaim.holds_of_wide 3 Try.f3 rfl rfl rfl rfl rfl rfl rfl ⟨rfl, rfl, rfl, rfl, rfl⟩ rfl rfl rfl rfl rfl (by kernel_rfl) Try.func3 (by kernel_rfl)
    (of_decide_eq_true (by kernel_rfl)) (by unfold Func.isWrapper; first | (rw [if_pos (by decide +kernel)]; kernel_rfl) | (rw [if_neg (by decide +kernel)]; exact ⟨rfl, rfl⟩))
    (fun os started H enc _ => lifted os started H enc)

/-- ████ THE STATEMENT ████ -/
theorem proved : Rows.FnIndexFindsEachNameSaid := over
end Go.Proofs.Qxb6604575a.fnIndexFindsEachName
