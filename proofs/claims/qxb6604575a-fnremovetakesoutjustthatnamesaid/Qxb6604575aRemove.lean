/-
  Seat b6604575a: (*Chain).Remove, with its lock by the library's contracts; the chain as an invariant.
-/
import Derived.Test.Qxb6604575aChain
import Derived.Test.Qxb6604575aLocks
import Derived.Conc.RwLoneW
import Derived.Deep.RegionLaw
namespace Go.Proofs.Qxb6604575a
open Go.RowKit
open Go.RwLone
set_option linter.unusedSimpArgs false

/-- The chain's block, whatever its lock's two words. -/
def ChainL (w : World) (c : Nat) (a d : Int) (v : Value) : Prop :=
  w.heap[c]? = some (.cells #[.int .i32 a, .int .u32 0, .int .u32 0, .int .u32 0, .int .i32 d, .int .i32 0, v] 46 (0, 0))

theorem ChainL.set0 {w : World} {c : Nat} {a d : Int} {v : Value} (h : ChainL w c a d v) (a' : Int) : ChainL (w.setCell ⟨c, 0, none⟩ (.int .i32 a')) c a' d v := by
  unfold ChainL; rw [heap_setCell_same w c 0 _ _ _ h]; rfl
theorem ChainL.set4 {w : World} {c : Nat} {a d : Int} {v : Value} (h : ChainL w c a d v) (d' : Int) : ChainL (w.setCell ⟨c, 4, none⟩ (.int .i32 d')) c a d' v := by
  unfold ChainL; rw [heap_setCell_same w c 4 _ _ _ h]; rfl
theorem ChainL.set6 {w : World} {c : Nat} {a d : Int} {v : Value} (h : ChainL w c a d v) (v' : Value) : ChainL (w.setCell ⟨c, 6, none⟩ v') c a d v' := by
  unfold ChainL; rw [heap_setCell_same w c 6 _ _ _ h]; rfl
theorem ChainL.below {B c : Nat} {w w' : World} {a d : Int} {v : Value} (h : ChainL w c a d v) (hb : Below B w w') (hB : c < B) : ChainL w' c a d v := by
  unfold ChainL at *
  rw [hb.block c hB]; exact h
theorem ChainL.cell {w : World} {c : Nat} {a d : Int} {v : Value} (h : ChainL w c a d v) (j : Nat) : w.cell? ⟨c, j, none⟩ = #[.int .i32 a, .int .u32 0, .int .u32 0, .int .u32 0, .int .i32 d, .int .i32 0, v][j]? := cell_of_row w c j _ _ _ h
theorem ChainL.frozen {w : World} {c : Nat} {a d : Int} {v : Value} (h : ChainL w c a d v) (j : Nat) : w.frozen? ⟨c, j, none⟩ = false := frozen_of_row w c j _ _ h

theorem IOwn.ne {B g n cap c : Nat} {w : World} {a d : Int} {v : Value} {ps : List (ByteArray × Nat)} (h : IOwn B w (.slice (some ⟨g, 0, none⟩) n cap) ps) (hc : ChainL w c a d v) : g ≠ c := by
  intro e
  subst e
  rcases h.2 with ⟨h', _⟩ | ⟨g', cap', cur, h', _, hg, _⟩
  · simp at h'
  · simp only [Value.slice.injEq, Option.some.injEq, Addr.mk.injEq, and_true, true_and] at h'
    obtain ⟨rfl, _, _⟩ := h'
    unfold ChainL at hc
    rw [hg] at hc
    simp at hc

theorem IOwn.setOther {B g n cap c j : Nat} {w : World} {u : Value} {ps : List (ByteArray × Nat)} (h : IOwn B w (.slice (some ⟨g, 0, none⟩) n cap) ps) (hne : g ≠ c) : IOwn B (w.setCell ⟨c, j, none⟩ u) (.slice (some ⟨g, 0, none⟩) n cap) ps := by
  refine ⟨h.1, ?_⟩
  rcases h.2 with h0 | ⟨g', cap', cur, hv, hb, hg, r⟩
  · exact Or.inl h0
  · refine Or.inr ⟨g', cap', cur, hv, hb, ?_, r⟩
    simp only [Value.slice.injEq, Option.some.injEq, Addr.mk.injEq, and_true, true_and] at hv
    rw [Below.heap_setCell _ _ _ _ (by show g' ≠ c; omega)]; exact hg

set_option maxHeartbeats 1600000 in
/-- Remove of a name that the chain does not hold. -/
theorem remove_no (B c g cap : Nat) (ps : List (ByteArray × Nat)) (x : ByteArray) (w : World) (hB : B ≤ c) (hc : ChainL w c 0 0 (.slice (some ⟨g, 0, none⟩) ps.length cap)) (hr : IOwn B w (.slice (some ⟨g, 0, none⟩) ps.length cap) ps) (hn : ps.length ≤ 4096)
    (hno : ∀ r, IsIdx x (ps.map Prod.fst) r → r = -1) :
    Calls Try.prog 13 #[.pointer (some ⟨c, 0, none⟩), .string x] w fun e w' => e = .returned (.bool false) ∧ ChainL w' c 0 0 (.slice (some ⟨g, 0, none⟩) ps.length cap) ∧ IOwn B w' (.slice (some ⟨g, 0, none⟩) ps.length cap) ps ∧ Below B w w' := by
  have hne := hr.ne hc
  have hL := (hc.set0 1).set4 (-1073741824)
  have hRL : IOwn B ((w.setCell ⟨c, 0, none⟩ (.int .i32 1)).setCell ⟨c, 4, none⟩ (.int .i32 (-1073741824))) (.slice (some ⟨g, 0, none⟩) ps.length cap) ps := (hr.setOther hne).setOther hne
  have hBL : Below B w ((w.setCell ⟨c, 0, none⟩ (.int .i32 1)).setCell ⟨c, 4, none⟩ (.int .i32 (-1073741824))) := ((Below.refl B w).setCell (p := ⟨c, 0, none⟩) hB _).setCell (p := ⟨c, 4, none⟩) hB _
  have hsz : w.heap.size = ((w.setCell ⟨c, 0, none⟩ (.int .i32 1)).setCell ⟨c, 4, none⟩ (.int .i32 (-1073741824))).heap.size := by simp [World.setCell]
  have hlt : c < w.heap.size := (Array.getElem?_eq_some_iff.1 hc).1
  go_enter_defers Try.func13, Try.ntmps13
  go_wp2_with fail
  refine (wlock_free Try.rwWLib c 0 (.int .u32 0) (.int .u32 0) _ (hc.cell 0) (hc.cell 2) (hc.cell 3) (hc.cell 4) (hc.frozen 0) (hc.frozen 4)).mono ?_
  rintro e w' ⟨rfl, rfl⟩
  generalize (w.setCell ⟨c, 0, none⟩ (.int .i32 1)).setCell ⟨c, 4, none⟩ (.int .i32 (-1073741824)) = wL at *
  go_wp2_with fail
  refine (index_cell B c g cap ps x _ (hL.cell 6) hRL hn).mono ?_
  rintro e w1 ⟨r, rfl, hidx, hb1⟩
  obtain rfl := hno r hidx
  have h1 := hL.below hb1 (by omega)
  have hr1 : IOwn B w1 (.slice (some ⟨g, 0, none⟩) ps.length cap) ps := hRL.below hb1 (Nat.le_refl _)
  have hbb : Below B w w1 := hBL.trans (hb1.mono (by omega))
  go_wp2
  refine leaves_cons (f := 17) (args := #[.pointer (some ⟨c, 0, none⟩)]) (by simp) (by simp [go_sem]) ?_
  refine (wunlock_deferred Try.rwWLib c 0 (.int .u32 0) (.int .u32 0) .returning _ (h1.cell 0) (h1.cell 2) (h1.cell 3) (h1.cell 4) (h1.frozen 0) (h1.frozen 4)).mono ?_
  rintro e u' w'' ⟨rfl, rfl, rfl⟩
  refine ⟨_, results_tmp rfl _ _ _, rfl, (h1.set4 0).set0 0, (hr1.setOther hne).setOther hne, (hbb.setCell (p := ⟨c, 4, none⟩) hB _).setCell (p := ⟨c, 0, none⟩) hB _⟩

/-- A post that is False at a panic. -/
def noPanic (Q : Exit → Act → World → Prop) : Exit → Act → World → Prop
  | .panic _, _, _ => False
  | e, a, w => Q e a w
theorem noPanic_le (Q : Exit → Act → World → Prop) : ∀ e a w, noPanic Q e a w → Q e a w := by
  intro e a w h; cases e <;> first | exact h | exact h.elim
theorem noPanic_normal {Q : Exit → Act → World → Prop} {a : Act} {w : World} (h : Q .normal a w) : noPanic Q .normal a w := h

/-- The cells that move. -/
def moved (ps : List (ByteArray × Nat)) (i : Nat) : List Value := ICells (ps.drop (i + 1))
theorem moved_length (ps : List (ByteArray × Nat)) (i : Nat) : (moved ps i).length = (ps.length - (i + 1)) * 10 := by unfold moved; rw [ICells_length]; simp

theorem own_shrink {B : Nat} {e : TypeId} {size n cap g : Nat} {w : World} {xs : List Value} (h : w.ownsRow B e size (.slice (some ⟨g, 0, none⟩) n cap) n xs) (m : Nat) (hm : m ≤ n) :
    w.ownsRow B e size (.slice (some ⟨g, 0, none⟩) m cap) m (xs.take (m * size)) := by
  have hle : m * size ≤ n * size := Nat.mul_le_mul_right _ hm
  refine ⟨by rw [List.length_take, h.1]; omega, ?_⟩
  rcases h.2 with ⟨h', _⟩ | ⟨g', cap', cur, h', hb, hg, h1, h2, h3, h4⟩
  · simp at h'
  · simp only [Value.slice.injEq, Option.some.injEq, Addr.mk.injEq, and_true, true_and] at h'
    obtain ⟨rfl, rfl⟩ := h'
    refine Or.inr ⟨g, cap, cur, rfl, hb, hg, by omega, h2, h3, ?_⟩
    rw [← h4, List.take_take, Nat.min_eq_left hle]

theorem ICells_split (ps : List (ByteArray × Nat)) (i : Nat) : ICells ps = ICells (ps.take i) ++ ICells (ps.drop i) := by
  rw [← ICells_append, List.take_append_drop]
theorem ICells_take (ps : List (ByteArray × Nat)) (i : Nat) (hi : i ≤ ps.length) : (ICells ps).take (i * 10) = ICells (ps.take i) := by
  rw [ICells_split ps i, List.take_left' (by rw [ICells_length, List.length_take]; omega)]
theorem ICells_drop (ps : List (ByteArray × Nat)) (i : Nat) (hi : i ≤ ps.length) : (ICells ps).drop (i * 10) = ICells (ps.drop i) := by
  rw [ICells_split ps i, List.drop_left' (by rw [ICells_length, List.length_take]; omega)]
theorem ICells_one' (ps : List (ByteArray × Nat)) : ∀ u ∈ ICells ps, u.oneCell' = true := by
  intro u hu
  obtain ⟨p, _, hp⟩ := List.mem_flatMap.1 hu
  simp only [icell, List.mem_cons, List.not_mem_nil, or_false] at hp
  rcases hp with rfl | rfl | rfl | rfl | rfl | rfl | rfl | rfl | rfl | rfl <;> rfl

/-- Behind the moved cells the row holds all but the i-th. -/
theorem own_erased {B cap g i : Nat} {w : World} {ps : List (ByteArray × Nat)} (h : IOwn B w (.slice (some ⟨g, 0, none⟩) ps.length cap) ps) (hi : i < ps.length) :
    IOwn B (w.setCells g (i * 10) (moved ps i)) (.slice (some ⟨g, 0, none⟩) (ps.length - 1) cap) (ps.eraseIdx i) ∧ w.grownBy (w.setCells g (i * 10) (moved ps i)) (some g) := by
  have hlen := moved_length ps i
  obtain ⟨h1, h2⟩ := own_setCells (moved ps i) (i * 10) w _ h (by rw [hlen, ICells_length]; omega)
  refine ⟨?_, h2⟩
  have h3 := own_shrink h1 (ps.length - 1) (by omega)
  unfold IOwn
  have e0 : (ps.eraseIdx i).length = ps.length - 1 := by rw [List.length_eraseIdx_of_lt hi]
  have e1 : (ICells ps).take (i * 10) ++ moved ps i = ICells (ps.eraseIdx i) := by
    rw [ICells_take ps i (by omega), List.eraseIdx_eq_take_drop_succ, ICells_append]; rfl
  rw [e1, List.take_left' (by rw [ICells_length, e0])] at h3
  rw [e0]
  exact h3

set_option maxHeartbeats 1600000 in
set_option maxRecDepth 1000000 in
/-- Remove of a name that the chain holds at i. -/
theorem remove_yes (B c g cap i : Nat) (ps : List (ByteArray × Nat)) (x : ByteArray) (w : World) (hB : B ≤ c) (hc : ChainL w c 0 0 (.slice (some ⟨g, 0, none⟩) ps.length cap)) (hr : IOwn B w (.slice (some ⟨g, 0, none⟩) ps.length cap) ps) (hn : ps.length ≤ 4096)
    (hi : i < ps.length) (hyes : ∀ r, IsIdx x (ps.map Prod.fst) r → r = (i : Int)) :
    Calls Try.prog 13 #[.pointer (some ⟨c, 0, none⟩), .string x] w fun e w' => e = .returned (.bool true) ∧ ChainL w' c 0 0 (.slice (some ⟨g, 0, none⟩) (ps.length - 1) cap) ∧ IOwn B w' (.slice (some ⟨g, 0, none⟩) (ps.length - 1) cap) (ps.eraseIdx i) ∧ Below B w w' := by
  have hne := hr.ne hc
  have hL := (hc.set0 1).set4 (-1073741824)
  have hRL : IOwn B ((w.setCell ⟨c, 0, none⟩ (.int .i32 1)).setCell ⟨c, 4, none⟩ (.int .i32 (-1073741824))) (.slice (some ⟨g, 0, none⟩) ps.length cap) ps := (hr.setOther hne).setOther hne
  have hBL : Below B w ((w.setCell ⟨c, 0, none⟩ (.int .i32 1)).setCell ⟨c, 4, none⟩ (.int .i32 (-1073741824))) := ((Below.refl B w).setCell (p := ⟨c, 0, none⟩) hB _).setCell (p := ⟨c, 4, none⟩) hB _
  have hsz : w.heap.size = ((w.setCell ⟨c, 0, none⟩ (.int .i32 1)).setCell ⟨c, 4, none⟩ (.int .i32 (-1073741824))).heap.size := by simp [World.setCell]
  have hlt : c < w.heap.size := (Array.getElem?_eq_some_iff.1 hc).1
  have hcap : ps.length ≤ cap ∧ cap ≤ maxLen := by
    rcases hr.2 with ⟨h', _⟩ | ⟨g', cap', cur, h', _, _, h1, h2, _⟩
    · simp at h'
    · simp only [Value.slice.injEq, Option.some.injEq, Addr.mk.injEq, and_true, true_and] at h'
      obtain ⟨_, rfl⟩ := h'
      exact ⟨h1, h2⟩
  obtain ⟨hcap1, hcap2⟩ := hcap
  unfold maxLen at hcap2
  go_enter_defers Try.func13, Try.ntmps13
  go_wp2_with fail
  refine (wlock_free Try.rwWLib c 0 (.int .u32 0) (.int .u32 0) _ (hc.cell 0) (hc.cell 2) (hc.cell 3) (hc.cell 4) (hc.frozen 0) (hc.frozen 4)).mono ?_
  rintro e w' ⟨rfl, rfl⟩
  generalize (w.setCell ⟨c, 0, none⟩ (.int .i32 1)).setCell ⟨c, 4, none⟩ (.int .i32 (-1073741824)) = wL at *
  go_wp2_with fail
  refine (index_cell B c g cap ps x _ (hL.cell 6) hRL hn).mono ?_
  rintro e w1 ⟨r, rfl, hidx, hb1⟩
  obtain rfl := hyes r hidx
  have h1 := hL.below hb1 (by omega)
  have hr1 : IOwn B w1 (.slice (some ⟨g, 0, none⟩) ps.length cap) ps := hRL.below hb1 (Nat.le_refl _)
  have hbb : Below B w w1 := hBL.trans (hb1.mono (by omega))
  have H1 := hide h1
  have HR1 := hide hr1
  have HBB := hide hbb
  have HSZ := hide hsz
  have h6 : w1.cell? ⟨c, 6, none⟩ = some (.slice (some ⟨g, 0, none⟩) ps.length cap) := h1.cell 6
  clear h1 hr1 hbb hc hr hL hRL hBL hsz hb1 hidx hyes
  obtain ⟨i0, hi0, hz0, hz1, hz2⟩ := info_parts info58
  have hic : i ≤ cap := by omega
  have hwr : IntKind.i64.wrap ((i : Int) + 1) = (i : Int) + 1 := by rw [IntKind.wrap_i64]; omega
  have hp0 : (0 : Int) ≤ (i : Int) + 1 := by omega
  have hp1 : (i : Int) + 1 ≤ (ps.length : Int) := by omega
  have hp2 : ((i : Int) + 1).toNat = i + 1 := by omega
  obtain ⟨A, hA, hnews⟩ : ∃ A : Addr, (if cap = i + 1 then some (⟨g, 0, none⟩ : Addr) else some ⟨g, (i + 1) * 10, none⟩) = some A ∧ Hid (∀ j u, (moved ps i)[j]? = some u → w1.drew.cell? (A.add j) = some u) := by
    by_cases h : cap = i + 1
    · refine ⟨⟨g, 0, none⟩, by simp [h], fun j u hu => ?_⟩
      have h0 : (moved ps i).length = 0 := by rw [moved_length]; omega
      rw [List.length_eq_zero_iff.1 h0] at hu
      simp at hu
    · refine ⟨⟨g, (i + 1) * 10, none⟩, by simp [h], fun j u hu => ?_⟩
      have hj : j < (ps.length - (i + 1)) * 10 := by
        have := (List.getElem?_eq_some_iff.1 hu).1
        rwa [moved_length] at this
      rw [Addr.add_mid]
      show w1.cell? _ = _
      rw [World.ownsRow.cellAt (unhide HR1) ((i + 1) * 10 + j) (by omega), ← hu, moved, ← ICells_drop ps (i + 1) (by omega), List.getElem?_drop]
  have s1 : Hid ((moved ps i).length = (ps.length - (i + 1)) * 10) := moved_length ps i
  have s2 : Hid (∀ u ∈ moved ps i, u.oneCell' = true) := ICells_one' _
  have s3 : Hid (∀ j, j < (moved ps i).length → (w1.drew.cell? ⟨g, 0 + i * 10 + j, none⟩).isSome = true ∧ w1.drew.frozen? ⟨g, 0 + i * 10 + j, none⟩ = false) := by
    intro j hj
    rw [moved_length] at hj
    have := own_there (unhide HR1) (i * 10) ((ps.length - (i + 1)) * 10) (by omega) j hj
    rw [Nat.zero_add]
    exact this
  have k0 : (w1.drew.setCells g (i * 10) (moved ps i)).cell? ⟨c, 6, none⟩ = some (.slice (some ⟨g, 0, none⟩) ps.length cap) := by
    rw [World.cell?_setCells_out g _ _ _ _ (fun hb _ => absurd hb.symm hne)]; exact h6
  have e0 : (w1.drew.setCells g (i * 10) (moved ps i)).frozen? ⟨c, 6, none⟩ = false := (World.frozen?_setCells g _ _ _ _).trans ((unhide H1).frozen 6)
  obtain ⟨q1, q2⟩ := own_erased (i := i) (w := w1.drew) (unhide HR1) hi
  have q3 : ChainL (w1.drew.setCells g (i * 10) (moved ps i)) c 1 (-1073741824) (.slice (some ⟨g, 0, none⟩) ps.length cap) := by
    unfold ChainL; rw [q2.block c (by show c < w1.heap.size; exact (Array.getElem?_eq_some_iff.1 (unhide H1)).1) (by simpa using Ne.symm hne)]; exact unhide H1
  have q4 : Below B w (w1.drew.setCells g (i * 10) (moved ps i)) := ((unhide HBB).drew).grown q2 (by have := (unhide HBB).size; show B ≤ w1.heap.size; omega) (fun k hk => by simp at hk; subst hk; exact (World.ownsRow.lt (unhide HR1) g rfl).1)
  have Q1 := hide q1
  have Q3 := hide q3
  have Q4 := hide q4
  clear q1 q2 q3 q4 H1 HR1 HBB
  go_wp2_with fail
  refine Code.wp_mono (noPanic_le _) ?_
  go_region_law (refine step_append_room rfl (.tmp 24) (.tmp 31) 29 rfl 58 i0 10 Try.underlying29 hi0 hz1 g 0 i cap (by simp [Act.eval, Act.put]) A (ps.length - (i + 1)) (cap - (i + 1)) (moved ps i) (by simp [Act.eval, Act.put]) s1.out hnews.out s2.out (by omega) s3.out ?_)
  all_goals refine noPanic_normal ?_
  all_goals go_wp2
  all_goals
    rw [show i + (ps.length - (i + 1)) = ps.length - 1 by omega]
    have h1 := (unhide Q3).set6 (.slice (some ⟨g, 0, none⟩) (ps.length - 1) cap)
    have h2 := (unhide Q1).setOther (j := 6) (u := .slice (some ⟨g, 0, none⟩) (ps.length - 1) cap) hne
    have h3 := (unhide Q4).setCell (p := ⟨c, 6, none⟩) hB (.slice (some ⟨g, 0, none⟩) (ps.length - 1) cap)
    refine leaves_cons (f := 17) (args := #[.pointer (some ⟨c, 0, none⟩)]) (by simp) (by simp [go_sem]) ?_
    refine (wunlock_deferred Try.rwWLib c 0 (.int .u32 0) (.int .u32 0) .returning _ (h1.cell 0) (h1.cell 2) (h1.cell 3) (h1.cell 4) (h1.frozen 0) (h1.frozen 4)).mono ?_
    rintro e u' w'' ⟨rfl, rfl, rfl⟩
    exact ⟨_, results_tmp rfl _ _ _, rfl, (h1.set4 0).set0 0, (h2.setOther hne).setOther hne, (h3.setCell (p := ⟨c, 4, none⟩) hB _).setCell (p := ⟨c, 0, none⟩) hB _⟩
/-! ### The chain as an invariant over worlds that grow from w1 on -/
def Inv (w1 : World) (c g cap : Nat) (ps : List (ByteArray × Nat)) (W : World) : Prop :=
  ChainAt W c (.slice (some ⟨g, 0, none⟩) ps.length cap) ∧ IOwn w1.heap.size W (.slice (some ⟨g, 0, none⟩) ps.length cap) ps ∧ Below w1.heap.size w1 W ∧ ps.length ≤ 4096 ∧ w1.heap.size ≤ c

def IvPost (x : ByteArray) (w1 : World) (c g cap : Nat) (ps : List (ByteArray × Nat)) (e : Ending) (w' : World) : Prop :=
  ∃ r : Int, e = .returned (.int .i64 r) ∧ IsIdx x (ps.map Prod.fst) r ∧ Inv w1 c g cap ps w'

theorem inv_index {w1 W : World} {c g cap : Nat} {ps : List (ByteArray × Nat)} (x : ByteArray) (h : Inv w1 c g cap ps W) :
    Calls Try.prog 11 #[.pointer (some ⟨c, 0, none⟩), .string x] W fun e w' => IvPost x w1 c g cap ps e w' := by
  obtain ⟨h1, h2, h3, h4, h5⟩ := h
  refine (zzindex_any w1.heap.size c g cap ps x W h1 h2 h4).mono ?_
  rintro e w' ⟨r, he, hi, hb⟩
  exact ⟨r, he, hi, h1.below hb (Array.getElem?_eq_some_iff.1 h1).1, h2.below hb (Nat.le_refl _), h3.trans (hb.mono h3.size), h4, h5⟩

theorem inv_remove_no {w1 W : World} {c g cap : Nat} {ps : List (ByteArray × Nat)} (x : ByteArray) (h : Inv w1 c g cap ps W) (hno : ∀ r, IsIdx x (ps.map Prod.fst) r → r = -1) :
    Calls Try.prog 13 #[.pointer (some ⟨c, 0, none⟩), .string x] W fun e w' => e = .returned (.bool false) ∧ Inv w1 c g cap ps w' := by
  obtain ⟨h1, h2, h3, h4, h5⟩ := h
  refine (remove_no w1.heap.size c g cap ps x W h5 h1 h2 h4 hno).mono ?_
  rintro e w' ⟨he, q1, q2, q3⟩
  exact ⟨he, q1, q2, h3.trans q3, h4, h5⟩

theorem inv_remove_yes {w1 W : World} {c g cap : Nat} {ps : List (ByteArray × Nat)} (x : ByteArray) (i : Nat) (h : Inv w1 c g cap ps W) (hi : i < ps.length) (hyes : ∀ r, IsIdx x (ps.map Prod.fst) r → r = (i : Int)) :
    Calls Try.prog 13 #[.pointer (some ⟨c, 0, none⟩), .string x] W fun e w' => e = .returned (.bool true) ∧ Inv w1 c g cap (ps.eraseIdx i) w' := by
  obtain ⟨h1, h2, h3, h4, h5⟩ := h
  refine (remove_yes w1.heap.size c g cap i ps x W h5 h1 h2 h4 hi hyes).mono ?_
  rintro e w' ⟨he, q1, q2, q3⟩
  have el : (ps.eraseIdx i).length = ps.length - 1 := by rw [List.length_eraseIdx_of_lt hi]
  exact ⟨he, by rw [el]; exact q1, by rw [el]; exact q2, h3.trans q3, by omega, h5⟩

/-! ### Plain laws on first positions -/
theorem idx_self {ss : List ByteArray} {k : Nat} {r : Int} (hd : Dist ss) (hk : k < ss.length) (h : IsIdx (ss.getD k ByteArray.empty) ss r) : r = (k : Int) := by
  rcases h with ⟨m, hm, rfl, he, hf⟩ | ⟨_, hf⟩
  · by_cases e1 : m < k
    · exact absurd (by simpa using he) (hd k m e1 hk)
    · by_cases e2 : k < m
      · have := hf k e2; simp at this
      · omega
  · have := hf k hk; simp at this

theorem idx_uniq {x : ByteArray} {ss : List ByteArray} {r r' : Int} (h : IsIdx x ss r) (h' : IsIdx x ss r') : r = r' := by
  rcases h with ⟨m, hm, rfl, he, hf⟩ | ⟨rfl, hf⟩ <;> rcases h' with ⟨m', hm', rfl, he', hf'⟩ | ⟨rfl, hf'⟩
  · by_cases e1 : m < m'
    · rw [hf' m e1] at he; cases he
    · by_cases e2 : m' < m
      · rw [hf m' e2] at he'; cases he'
      · omega
  · rw [hf' m hm] at he; cases he
  · rw [hf m' hm'] at he'; cases he'
  · rfl

theorem idx_ex (x : ByteArray) (ss : List ByteArray) : ∃ r, IsIdx x ss r := by
  have key : ∀ n, n ≤ ss.length → (∃ k, k < n ∧ ((ss.getD k ByteArray.empty).toList == x.toList) = true ∧ ∀ j, j < k → ((ss.getD j ByteArray.empty).toList == x.toList) = false) ∨ ∀ j, j < n → ((ss.getD j ByteArray.empty).toList == x.toList) = false := by
    intro n
    induction n with
    | zero => intro _; exact Or.inr fun j h => absurd h (by omega)
    | succ n ih =>
      intro hn
      rcases ih (by omega) with ⟨k, hk, he, hf⟩ | hf
      · exact Or.inl ⟨k, by omega, he, hf⟩
      · cases hb : ((ss.getD n ByteArray.empty).toList == x.toList) with
        | true => exact Or.inl ⟨n, by omega, hb, hf⟩
        | false =>
          refine Or.inr fun j hj => ?_
          by_cases e : j = n
          · rw [e]; exact hb
          · exact hf j (by omega)
  rcases key ss.length (Nat.le_refl _) with ⟨k, hk, he, hf⟩ | hf
  · exact ⟨_, Or.inl ⟨k, hk, rfl, he, hf⟩⟩
  · exact ⟨_, Or.inr ⟨rfl, hf⟩⟩

theorem getD_erase (ss : List ByteArray) (m k : Nat) : (ss.eraseIdx m).getD k ByteArray.empty = if k < m then ss.getD k ByteArray.empty else ss.getD (k + 1) ByteArray.empty := by
  simp only [List.getD, List.getElem?_eraseIdx]
  split <;> rfl

theorem dist_erase {ss : List ByteArray} (hd : Dist ss) (m : Nat) (hm : m < ss.length) : Dist (ss.eraseIdx m) := by
  intro i j hj hi
  rw [List.length_eraseIdx_of_lt hm] at hi
  rw [getD_erase, getD_erase]
  by_cases h1 : j < m <;> by_cases h2 : i < m
  · rw [if_pos h1, if_pos h2]; exact hd i j hj (by omega)
  · rw [if_pos h1, if_neg h2]; exact hd (i + 1) j (by omega) (by omega)
  · omega
  · rw [if_neg h1, if_neg h2]; exact hd (i + 1) (j + 1) (by omega) (by omega)

/-- What was removed is found no more. -/
theorem idx_gone {x : ByteArray} {ss : List ByteArray} {m : Nat} (hd : Dist ss) (hm : m < ss.length) (he : ((ss.getD m ByteArray.empty).toList == x.toList) = true) {r : Int} (h : IsIdx x (ss.eraseIdx m) r) : r = -1 := by
  rcases h with ⟨k, hk, rfl, hke, _⟩ | ⟨rfl, _⟩
  · exfalso
    rw [List.length_eraseIdx_of_lt hm] at hk
    rw [getD_erase] at hke
    have hx : (ss.getD m ByteArray.empty).toList = x.toList := by simpa using he
    by_cases h1 : k < m
    · rw [if_pos h1] at hke
      have hy : (ss.getD k ByteArray.empty).toList = x.toList := by simpa using hke
      exact hd m k h1 hm (hy.trans hx.symm)
    · rw [if_neg h1] at hke
      have hy : (ss.getD (k + 1) ByteArray.empty).toList = x.toList := by simpa using hke
      exact hd (k + 1) m (by omega) (by omega) (hx.trans hy.symm)
  · rfl

/-- Every other name keeps its place, one lower behind the removed one. -/
theorem idx_other {ss : List ByteArray} {m j : Nat} (hd : Dist ss) (hm : m < ss.length) (hj : j < ss.length) (hne : j ≠ m) {r : Int} (h : IsIdx (ss.getD j ByteArray.empty) (ss.eraseIdx m) r) :
    r = if m < j then (j : Int) - 1 else (j : Int) := by
  by_cases h1 : m < j
  · rw [if_pos h1]
    have e : (ss.eraseIdx m).getD (j - 1) ByteArray.empty = ss.getD j ByteArray.empty := by
      rw [getD_erase, if_neg (by omega), show j - 1 + 1 = j by omega]
    rw [← e] at h
    have := idx_self (dist_erase hd m hm) (by rw [List.length_eraseIdx_of_lt hm]; omega) h
    omega
  · rw [if_neg h1]
    have e : (ss.eraseIdx m).getD j ByteArray.empty = ss.getD j ByteArray.empty := by rw [getD_erase, if_pos (by omega)]
    rw [← e] at h
    exact idx_self (dist_erase hd m hm) (by rw [List.length_eraseIdx_of_lt hm]; omega) h

theorem fst_erase (ps : List (ByteArray × Nat)) (i : Nat) : (ps.eraseIdx i).map Prod.fst = (ps.map Prod.fst).eraseIdx i := by
  induction ps generalizing i with
  | nil => rfl
  | cons p ps ih => cases i with
    | zero => rfl
    | succ i => simp [List.eraseIdx_cons_succ, ih]

end Go.Proofs.Qxb6604575a
