/-
  Seat b6604575a: the proof of Rows.FnRemoveTakesOutJustThatNameSaid.
-/
import Derived.Test.Qxb6604575aRemove
import Derived.WalkKit
import Derived.ProofKit
import Derived.OpenShut
import Derived.ShutString
import Derived.ChangeOld
import Derived.Below
namespace Go.Proofs.Qxb6604575a.fnRemoveTakesOutJustThatName
open Go.ChangeShapes Go.WideShapes Go.ChangeAt Go.RowKit
open Go.ChangeMaps (open_string shut_string)
set_option linter.unusedVariables false

theorem own : ownKnob Try.prog.godebug = none := by kernel_rfl
theorem laidOut : laidOutB Try.prog = true := by kernel_rfl

set_option linter.unusedSimpArgs false

/-! ### The walk -/
/-- The names' cells in a world that has grown from w1 on. -/
theorem names_cell {w1 W : World} {ao : Option Addr} {ss : List ByteArray} (hf : 0 < ss.length → ∃ b off, ao = some ⟨b, off, none⟩ ∧ b < w1.heap.size ∧ ∀ j, j < ss.length → w1.cell? ⟨b, off + j, none⟩ = some (.string (ss.getD j ByteArray.empty)))
    (hb : Below w1.heap.size w1 W) (k : Nat) (hk : k < ss.length) : ∃ b off, ao = some ⟨b, off, none⟩ ∧ W.cell? ⟨b, off + k, none⟩ = some (.string (ss.getD k ByteArray.empty)) := by
  obtain ⟨b, off, h1, h2, h3⟩ := hf (by omega)
  exact ⟨b, off, h1, (hb.cell (p := ⟨b, off + k, none⟩) h2).trans (h3 k hk)⟩

set_option maxHeartbeats 2000000 in
theorem removeLaw (v : Value) (ss : List ByteArray) (x : ByteArray) (w : World) (hs : Strs w v ss) (hx : x.size ≤ 9223372036854775807) :
    Calls Try.prog 4 #[v, .string x] w fun e w' => e = .returned (.bool true) ∧ Below w.heap.size w w' := by
  obtain ⟨ao0, cap0, rfl, -⟩ := hs.form
  go_enter Try.func4, Try.ntmps4
  go_wp2_with fail
  refine (zzBytesR_any _ ss x _ hs hx).mono ?_
  rintro e w' ⟨hw, rfl | ⟨rfl, hn, hx1, ha⟩⟩
  · subst w'
    go_wp2
    go_ret
    exact ⟨rfl, Below.refl _ _⟩
  subst w'
  have hx2 : x.size ≤ 1048576 := hx1 x (by simp)
  clear hx1
  by_cases hlen : 4096 < ss.length
  · go_wp2
    go_ret
    exact ⟨rfl, Below.refl _ _⟩
  have hn4 : ss.length ≤ 4096 := by omega
  have HA := hide ha
  clear ha
  go_wp2_with fail
  refine (namesBytes_any _ ss x _ hs hn4 hx2 (unhide HA)).mono ?_
  rintro e w' ⟨r, rfl, hr0, hr1, hw⟩
  subst w'
  by_cases hsum : r > 1048576
  · go_wp2
    go_ret
    exact ⟨rfl, Below.refl _ _⟩
  go_wp2_with fail
  refine (distinct_any _ ss _ hs hn4).mono ?_
  rintro e w' ⟨⟨q, rfl⟩, rfl | ⟨rfl, hd⟩⟩
  · go_wp2
    go_ret
    exact ⟨rfl, below_drewN (Below.refl _ _) q⟩
  have hs := hs.drewN q
  have hb0 : Below w.heap.size w (w.drewN q) := below_drewN (Below.refl _ _) q
  have hz0 : (w.drewN q).heap.size = w.heap.size := rfl
  generalize w.drewN q = w0 at *
  have HD := hide hd
  have HZ0 := hide hz0
  clear hd hz0
  go_wp2_with fail
  refine (clone_any _ ss _ hs hn).mono ?_
  rintro e w1 ⟨v1, rfl, ho1, hb1⟩
  have hs1 := ho1.strs
  obtain ⟨ao1, cap1, rfl, hf1⟩ := hs1.form
  have HF1 := hide hf1
  clear hf1
  go_wp2_with fail
  refine (chainOf_any _ ss _ hs1 hn4).mono ?_
  rintro e w2 ⟨g, cap, ps, rfl, hps, hi2, hb2⟩
  have hpl0 : ps.length = ss.length := by have := congrArg List.length hps; simpa using this
  have HPL := hide hpl0
  have HP := hide hps
  clear hps hpl0
  go_wp2_with fail
  refine (zzchainOf_any _ _ _ _).mono ?_
  rintro e w3 ⟨rfl, hc3, hw3⟩
  have hb3 : Below w2.heap.size w2 w3 := by rw [hw3]; exact (Below.refl _ _).alloc (Nat.le_refl _) _
  have hi3 := hi2.below hb3 (Nat.le_refl _)
  have hb13 : Below w1.heap.size w1 w3 := hb2.trans (hb3.mono hb2.size)
  have hw01 : Below w.heap.size w w1 := hb0.trans (hb1.mono (by rw [unhide HZ0]; exact Nat.le_refl _))
  have hinv : Inv w1 w2.heap.size g cap ps w3 := ⟨hc3, hi3, hb13, by rw [unhide HPL]; exact hn4, hb2.size⟩
  have fin : ∀ (W : World) (qs : List (ByteArray × Nat)), Inv w1 w2.heap.size g cap qs W → Below w.heap.size w W := fun _ _ h => hw01.trans (h.2.2.1.mono hw01.size)
  have FIN := hide fin
  clear hw3 hc3 hi3 hb13 hw01 hb3 hb2 hi2 hb1 ho1 hs1 hb0 hs fin
  generalize w2.heap.size = c at *
  obtain ⟨r0, hr⟩ := idx_ex x ss
  rcases hr with ⟨m, hm, rfl, he, hf⟩ | ⟨rfl, hf⟩
  · -- the name stands at m
    have hyes : ∀ r, IsIdx x (ps.map Prod.fst) r → r = (m : Int) := fun r h => by rw [unhide HP] at h; exact idx_uniq h (Or.inl ⟨m, hm, rfl, he, hf⟩)
    have hgone : ∀ r, IsIdx x ((ps.eraseIdx m).map Prod.fst) r → r = -1 := fun r h => by rw [fst_erase, unhide HP] at h; exact idx_gone (unhide HD) hm he h
    have HYES := hide hyes
    have HGONE := hide hgone
    have HF := hide hf
    have HE := hide he
    have hm0 : (0 : Int) ≤ (m : Int) := by omega
    clear hyes hgone hf he
    go_wp2
    go_loop [6, 7] (fun p i => ∃ k : Nat, k ≤ m ∧ i = .int .i64 k ∧ p = .int .i64 (-1)) (fun _ i => m - (intOf i).toNat)
    case atStart => exact ⟨0, Nat.zero_le _, rfl, rfl⟩
    case round =>
      obtain ⟨k, hk, rfl, rfl⟩ := hrel
      have hkl : k < ss.length := by omega
      obtain ⟨b1, off1, rfl, hx1⟩ := names_cell (unhide HF1) hinv.2.2.1 k hkl
      by_cases hlt : k < m
      · have he := unhide HF k hlt
        generalize ss.getD k ByteArray.empty = s at hx1 he
        go_wp2
        go_round
        case rel => exact ⟨k + 1, by omega, by go_num, rfl⟩
        case measure => simp [intOf]; omega
      · obtain rfl : k = m := by omega
        have he := unhide HE
        generalize ss.getD k ByteArray.empty = s at hx1 he
        go_wp2_with fail
        refine (inv_index x hinv).mono ?_
        rintro e w4 ⟨r1, rfl, hidx1, hinv4⟩
        obtain rfl := unhide HYES _ hidx1
        go_wp2_with fail
        refine (inv_remove_yes x k hinv4 (by rw [unhide HPL]; exact hm) (unhide HYES)).mono ?_
        rintro e w5 ⟨rfl, hinv5⟩
        go_wp2_with fail
        refine (inv_index x hinv5).mono ?_
        rintro e w6 ⟨r2, rfl, hidx2, hinv6⟩
        obtain rfl := unhide HGONE _ hidx2
        go_wp2_with fail
        refine (inv_remove_no x hinv6 (unhide HGONE)).mono ?_
        rintro e w7 ⟨rfl, hinv7⟩
        clear hinv hinv4 hinv5 hinv6 hidx1 hidx2 hx1 he
        go_wp2
        go_loopw [12] (fun i wr => ∃ j : Nat, j ≤ ss.length ∧ i = .int .i64 j ∧ Inv w1 c g cap (ps.eraseIdx k) wr) (fun i _ => ss.length - (intOf i).toNat)
        case atStart => exact ⟨0, Nat.zero_le _, rfl, hinv7⟩
        case round =>
          obtain ⟨j, hj, rfl, hinvr⟩ := hrel
          by_cases hjl : j < ss.length
          · by_cases hjk : j = k
            · have hjm : ((j : Int) == (k : Int)) = true := by rw [hjk]; simp
              clear hjk
              go_wp2
              go_roundw
              case rel => exact ⟨j + 1, by omega, by go_num, hinvr⟩
              case measure => simp [intOf]; omega
            · obtain ⟨b2, off2, hao, hx1⟩ := names_cell (unhide HF1) hinvr.2.2.1 j hjl
              simp only [Option.some.injEq, Addr.mk.injEq, and_true] at hao
              obtain ⟨rfl, rfl⟩ := hao
              obtain ⟨s', hs⟩ : ∃ s, s = ss.getD j ByteArray.empty := ⟨_, rfl⟩
              rw [← hs] at hx1
              have HS := hide hs
              have HJK := hide hjk
              have hjm : ((j : Int) == (k : Int)) = false := by rw [beq_eq_false_iff_ne]; omega
              clear hs hjk
              by_cases hgt : k < j
              · go_wp2_with fail
                refine (inv_index s' hinvr).mono ?_
                rintro e w8 ⟨r3, rfl, hidx3, hinv8⟩
                rw [fst_erase, unhide HP, unhide HS] at hidx3
                have hr3 := idx_other (unhide HD) hm hjl (unhide HJK) hidx3
                rw [if_pos hgt] at hr3
                subst hr3
                go_wp2
                go_roundw
                case rel => exact ⟨j + 1, by omega, by go_num, hinv8⟩
                case measure => simp [intOf]; omega
              · go_wp2_with fail
                refine (inv_index s' hinvr).mono ?_
                rintro e w8 ⟨r3, rfl, hidx3, hinv8⟩
                rw [fst_erase, unhide HP, unhide HS] at hidx3
                have hr3 := idx_other (unhide HD) hm hjl (unhide HJK) hidx3
                rw [if_neg hgt] at hr3
                subst hr3
                go_wp2
                go_roundw
                case rel => exact ⟨j + 1, by omega, by go_num, hinv8⟩
                case measure => simp [intOf]; omega
          · go_wp2
            go_ret
            exact ⟨rfl, unhide FIN _ _ hinvr⟩
  · -- the name is not among the names
    have hno : ∀ r, IsIdx x (ps.map Prod.fst) r → r = -1 := fun r h => by rw [unhide HP] at h; exact idx_uniq h (Or.inr ⟨rfl, hf⟩)
    have HNO := hide hno
    have HF := hide hf
    clear hno hf
    go_wp2
    go_loop [6, 7] (fun p i => ∃ k : Nat, k ≤ ss.length ∧ i = .int .i64 k ∧ p = .int .i64 (-1)) (fun _ i => ss.length - (intOf i).toNat)
    case atStart => exact ⟨0, Nat.zero_le _, rfl, rfl⟩
    case round =>
      obtain ⟨k, hk, rfl, rfl⟩ := hrel
      by_cases hlt : k < ss.length
      · obtain ⟨b1, off1, rfl, hx1⟩ := names_cell (unhide HF1) hinv.2.2.1 k hlt
        have he := unhide HF k hlt
        generalize ss.getD k ByteArray.empty = s at hx1 he
        go_wp2
        go_round
        case rel => exact ⟨k + 1, by omega, by go_num, rfl⟩
        case measure => simp [intOf]; omega
      · go_wp2_with fail
        refine (inv_index x hinv).mono ?_
        rintro e w4 ⟨r1, rfl, hidx1, hinv4⟩
        obtain rfl := unhide HNO _ hidx1
        go_wp2_with fail
        refine (inv_remove_no x hinv4 (unhide HNO)).mono ?_
        rintro e w5 ⟨rfl, hinv5⟩
        go_wp2_with fail
        refine (inv_index x hinv5).mono ?_
        rintro e w6 ⟨r2, rfl, hidx2, hinv6⟩
        obtain rfl := unhide HNO _ hidx2
        go_wp2_with fail
        refine (inv_remove_no x hinv6 (unhide HNO)).mono ?_
        rintro e w7 ⟨rfl, hinv7⟩
        clear hinv hinv4 hinv5 hinv6 hidx1 hidx2
        go_wp2
        go_loopw [12] (fun i wr => ∃ k : Nat, k ≤ ss.length ∧ i = .int .i64 k ∧ Inv w1 c g cap ps wr) (fun i _ => ss.length - (intOf i).toNat)
        case atStart => exact ⟨0, Nat.zero_le _, rfl, hinv7⟩
        case round =>
          obtain ⟨j, hj, rfl, hinvr⟩ := hrel
          by_cases hjl : j < ss.length
          · obtain ⟨b1, off1, rfl, hx1⟩ := names_cell (unhide HF1) hinvr.2.2.1 j hjl
            obtain ⟨s, hs⟩ : ∃ s, s = ss.getD j ByteArray.empty := ⟨_, rfl⟩
            rw [← hs] at hx1
            have HS := hide hs
            have hjm : ((j : Int) == -1) = false := by rw [beq_eq_false_iff_ne]; omega
            clear hs
            go_wp2_with fail
            refine (inv_index s hinvr).mono ?_
            rintro e w8 ⟨r3, rfl, hidx3, hinv8⟩
            rw [unhide HP, unhide HS] at hidx3
            obtain rfl := idx_self (unhide HD) hjl hidx3
            go_wp2
            go_roundw
            case rel => exact ⟨j + 1, by omega, by go_num, hinv8⟩
            case measure => simp [intOf]; omega
          · go_wp2
            go_ret
            exact ⟨rfl, unhide FIN _ _ hinvr⟩

/-! ### THE ROW's STEP: WRITTEN OUT: LEAVE IT -/
set_option maxRecDepth 100000 in
theorem lifted (os : Os) (started : os.Started) (H : Type) (enc : TypeId × Value → H) :
    ReturnsInHanded {} Try.checked os 4 .any (Rows.fnRemoveTakesOutJustThatNameSpec.pre6 enc Try.prog Try.f4 Rows.fnRemoveTakesOutJustThatNameRow.domain false) (Rows.fnRemoveTakesOutJustThatNameSpec.post enc Try.prog Try.f4 false true false false) := by
  refine returnsInHanded_of_change (C := Try.checked) own started (by kernel_rfl) Try.func4
    (ChangeSpec.witness6 (enc := enc) (C := Try.checked) false ⟨#[], #[.slice none 0 0, .string ByteArray.empty], []⟩ 8 (by kernel_rfl) (by kernel_rfl) (by kernel_rfl) (by kernel_rfl)) ?_
  intro W base args ds gs before hval0 hW hcnd _
  have hval : ∀ (j : Nat) t v, Try.f4.params[j]? = some t → args[j]? = some v → Value.okWide Try.prog W .any base t v := hval0
  have hW' := hW
  obtain ⟨p, q, hA0, hV, rfl, hfz, hnd⟩ := hW
  have hA : DataW.TrodAll enc Try.prog W 0 (fun _ => true) true Try.f4.params.toList args.toList ds p := hA0
  rw [Try.params4] at hA hval
  obtain ⟨v0, vs0, d0, ds0, p0, q0, hargs, rfl, rfl, h0, r0⟩ := trodAll_cons hA
  obtain ⟨v1, vs1, d1, ds1, p1, q1, rfl, rfl, rfl, h1, r1⟩ := trodAll_cons r0
  obtain ⟨rfl, rfl, rfl⟩ := trodAll_nil r1
  obtain rfl : args = #[v0, v1] := by cases args; simp_all
  obtain ⟨rfl, rfl⟩ := trodVars_none hV
  obtain ⟨a0, len0, cap0, rfl⟩ := okWide_slice Try.underlying22 (hval 0 22 v0 rfl rfl)
  have k0 := h0
  have lt0 : ∀ x ∈ p0, x.block < W.heap.size := by obtain ⟨m, hm⟩ := k0; exact DataW.trod_lt m _ _ _ hm
  obtain ⟨ss, w0⟩ := strs_open h0
  obtain ⟨a1, rfl, rfl, rfl, w1⟩ := open_string Try.underlying9 (hval 1 9 v1 rfl rfl) h1
  clear hA0 hval0
  refine (removeLaw _ ss a1 W w0 w1).mono fun e W' ⟨he, bel⟩ => ?_
  subst he
  exact ⟨_, rfl, _, _, _, [], _, [], hW', trodAll_mk1 (shut_bool Try.underlying4 _), (trodAll_cons_mk (Below.trod laidOut (by kernel_rfl) (of_decide_eq_true (by kernel_rfl)) k0 bel lt0) (trodAll_cons_mk (shut_string Try.underlying9 w1) trodAll_mk0)), rfl, bel.frame _, fun h => by cases h⟩

theorem over : Rows.fnRemoveTakesOutJustThatNameRow.holds Try.pinned (OpenSpec.ofChange Rows.fnRemoveTakesOutJustThatNameSpec) :=
  OpenClaim.holds_of_wide 4 Try.f4 rfl rfl rfl rfl rfl rfl rfl ⟨rfl, rfl, rfl, rfl, rfl⟩ rfl rfl rfl rfl rfl (by kernel_rfl) Try.func4 (by kernel_rfl)
    (of_decide_eq_true (by kernel_rfl)) (by unfold Func.isWrapper; first | (rw [if_pos (by decide +kernel)]; kernel_rfl) | (rw [if_neg (by decide +kernel)]; exact ⟨rfl, rfl⟩))
    (fun os started H enc _ => lifted os started H enc)

/-- ████ THE STATEMENT ████ -/
theorem proved : Rows.FnRemoveTakesOutJustThatNameSaid := over
end Go.Proofs.Qxb6604575a.fnRemoveTakesOutJustThatName
