/-
  Seat b6604575a: the interceptors' row, ZZvalidatorReturning, zzChainOf, ZZchainOf, index, ZZindex.
-/
import Derived.Test.Qxb6604575aNames
import Derived.StillTactics
import Derived.Laws.Pointers
import Derived.Laws.EntriesVeiled
import Derived.Deep.MidRow
namespace Go.Proofs.Qxb6604575a
open Go.RowKit
set_option linter.unusedSimpArgs false

/-- The cells of one interceptor, as ZZvalidatorReturning makes it: its name s; b: the block of the captured result. -/
def icell (s : ByteArray) (b : Nat) : List Value := [.string s, .slice none 0 0, .string { data := #[] }, .int .i32 0, .int .i32 0, .string { data := #[] }, .bool false, .int .i64 3600000, .func (Fn.func 18) #[] #[.pointer (some ⟨b, 0, none⟩)], .nilFunc]
theorem icell_length (s : ByteArray) (b : Nat) : (icell s b).length = 10 := rfl

theorem all_icell (s : ByteArray) (b : Nat) : (icell s b).toArray.all (·.oneCell') = true :=
  all_oneCell_toArray (by intro v hv; simp only [icell, List.mem_cons, List.not_mem_nil, or_false] at hv; rcases hv with rfl | rfl | rfl | rfl | rfl | rfl | rfl | rfl | rfl | rfl <;> rfl)

/-- The cells of a row of interceptors. -/
def ICells (ps : List (ByteArray × Nat)) : List Value := ps.flatMap fun p => icell p.1 p.2
theorem ICells_nil : ICells [] = [] := rfl
theorem ICells_cons (p : ByteArray × Nat) (ps : List (ByteArray × Nat)) : ICells (p :: ps) = icell p.1 p.2 ++ ICells ps := rfl
theorem ICells_append (ps qs : List (ByteArray × Nat)) : ICells (ps ++ qs) = ICells ps ++ ICells qs := by simp [ICells]
theorem ICells_one (s : ByteArray) (b : Nat) : ICells [(s, b)] = icell s b := by simp [ICells]
theorem ICells_length (ps : List (ByteArray × Nat)) : (ICells ps).length = ps.length * 10 := by
  induction ps with
  | nil => rfl
  | cons p ps ih => rw [ICells_cons, List.length_append, ih, icell_length, List.length_cons]; omega

/-- The k-th of a row. -/
def at' (ps : List (ByteArray × Nat)) (k : Nat) : ByteArray × Nat := ps.getD k (ByteArray.empty, 0)

theorem ICells_get (ps : List (ByteArray × Nat)) (k j : Nat) (hk : k < ps.length) (hj : j < 10) : (ICells ps)[k * 10 + j]? = (icell (at' ps k).1 (at' ps k).2)[j]? := by
  induction ps generalizing k with
  | nil => exact absurd hk (by simp)
  | cons p ps ih =>
    rw [ICells_cons]
    cases k with
    | zero => rw [List.getElem?_append_left (by rw [icell_length]; omega)]; simp [at']
    | succ k =>
      rw [List.getElem?_append_right (by rw [icell_length]; omega), icell_length, show (k + 1) * 10 + j - 10 = k * 10 + j by omega, ih k (by simpa using hk)]
      simp [at']

/-- The slice v is the call's own and holds the interceptors ps. -/
def IOwn (B : Nat) (w : World) (v : Value) (ps : List (ByteArray × Nat)) : Prop := w.ownsRow B 58 10 v ps.length (ICells ps)

theorem own_below {B B' : Nat} {w w' : World} {e : TypeId} {size n : Nat} {v : Value} {xs : List Value} (h : w.ownsRow B e size v n xs) (hb : Below B' w w') (hB : w.heap.size ≤ B') : w'.ownsRow B e size v n xs := by
  refine ⟨h.1, ?_⟩
  rcases h.2 with h0 | ⟨g, cap, cur, hv, hbb, hg, r⟩
  · exact Or.inl h0
  · have hlt := (Array.getElem?_eq_some_iff.1 hg).1
    exact Or.inr ⟨g, cap, cur, hv, hbb, by rw [hb.block g (by omega)]; exact hg, r⟩

theorem irange {B g cap : Nat} {w : World} {ps : List (ByteArray × Nat)} (h : IOwn B w (.slice (some ⟨g, 0, none⟩) ps.length cap) ps) (k : Nat) (hk : k < ps.length) :
    w.rangeAt g (k * 10) (icell (at' ps k).1 (at' ps k).2) := by
  intro j v hv
  have hj : j < 10 := (List.getElem?_eq_some_iff.1 hv).1
  rw [World.ownsRow.cellAt h (k * 10 + j) (by omega), ICells_get ps k j hk hj]
  exact hv

/-- Many cells stored into an owned row. -/
theorem own_setCells {B : Nat} {e : TypeId} {size n cap g : Nat} : ∀ (vs : List Value) (o : Nat) (w : World) (xs : List Value), w.ownsRow B e size (.slice (some ⟨g, 0, none⟩) n cap) n xs → o + vs.length ≤ xs.length →
    (w.setCells g o vs).ownsRow B e size (.slice (some ⟨g, 0, none⟩) n cap) n (xs.take o ++ vs ++ xs.drop (o + vs.length)) ∧ w.grownBy (w.setCells g o vs) (some g)
  | [], o, w, xs, h, _ => by
    simp only [World.setCells, List.append_nil, List.length_nil, Nat.add_zero, List.take_append_drop]
    exact ⟨h, World.grownBy.refl _ _⟩
  | v :: vs, o, w, xs, h, hl => by
    obtain ⟨h1, h2⟩ := World.ownsRow.stored h o v
    obtain ⟨h3, h4⟩ := own_setCells vs (o + 1) _ _ h1 (by simp at hl ⊢; omega)
    rw [World.setCells]
    refine ⟨?_, ⟨h4.os.trans h2.os, h4.tape.trans h2.tape, h4.output.trans h2.output, Nat.le_trans h2.size h4.size, fun k hk hne => (h4.block k (Nat.lt_of_lt_of_le hk h2.size) hne).trans (h2.block k hk hne)⟩⟩
    have e1 : (xs.set o v).take (o + 1) = xs.take o ++ [v] := by
      rw [List.take_set, List.take_succ_eq_append_getElem (by simp at hl; omega), List.set_append_right _ _ (by simp; omega)]
      have : o - (xs.take o).length = 0 := by simp at hl ⊢; omega
      rw [this]; simp
    have e2 : (xs.set o v).drop (o + 1 + vs.length) = xs.drop (o + 1 + vs.length) := List.drop_set_of_lt (by omega)
    rw [e1, e2] at h3
    rw [show o + (v :: vs).length = o + 1 + vs.length by simp; omega]
    simpa using h3

theorem own_there {B : Nat} {e : TypeId} {size n cap g : Nat} {w : World} {xs : List Value} (h : w.ownsRow B e size (.slice (some ⟨g, 0, none⟩) n cap) n xs) (o m : Nat) (hl : o + m ≤ n * size) : w.there g o m := by
  intro j hj
  refine ⟨?_, World.ownsRow.frozenAt h _⟩
  rw [World.ownsRow.cellAt h (o + j) (by omega)]
  have : o + j < xs.length := by rw [h.1]; omega
  rw [List.getElem?_eq_getElem this]; rfl

theorem size58 : (Try.prog.info? 58).map (·.size) = some 10 := by kernel_rfl
theorem size_icell (s : ByteArray) (b : Nat) : (Try.prog.info? 58).map (·.size) = some (icell s b).toArray.size := size58
theorem info58 : (Try.prog.info? 58).map (fun i => (i.zero, i.size, i.bytes)) = some (some (.agg #[.string ByteArray.empty, .slice none 0 0, .string ByteArray.empty, .int .i32 0, .int .i32 0, .string ByteArray.empty, .bool false, .int .i64 0, .nilFunc, .nilFunc]), 10, 112) := by kernel_rfl

set_option maxHeartbeats 400000 in
theorem valRet (s : ByteArray) (w : World) :
    Calls Try.prog 14 #[.string s, .agg #[.bool false, .string ByteArray.empty, .slice none 0 0]] w fun e w' => e = .returned (.agg (icell s w.heap.size).toArray) ∧ Below w.heap.size w w' := by
  go_enter Try.func14, Try.ntmps14
  go_wp2
  simp [bodyPost, results, Try.results14, go_sem]
  exact ⟨rfl, ((Below.refl _ _).alloc (Nat.le_refl _) _).alloc (by simp) _⟩

def ChPost (ss : List ByteArray) (w : World) (e : Ending) (w' : World) : Prop :=
  ∃ g cap ps, e = .returned (.slice (some ⟨g, 0, none⟩) ps.length cap) ∧ ps.map Prod.fst = ss ∧ IOwn w.heap.size w' (.slice (some ⟨g, 0, none⟩) ps.length cap) ps ∧ Below w.heap.size w w'

/-- What the loop of zzChainOf has made so far. -/
def Part (B g : Nat) (w : World) (ss : List ByteArray) (k : Nat) : Prop :=
  ∃ ps tail, ps.length = k ∧ ps.map Prod.fst = ss.take k ∧ w.ownsRow B 58 10 (.slice (some ⟨g, 0, none⟩) ss.length ss.length) ss.length (ICells ps ++ tail)

theorem part_step {B g : Nat} {w : World} {ss : List ByteArray} {k : Nat} (h : Part B g w ss k) (hk : k < ss.length) (s : ByteArray) (hs : s = ss.getD k ByteArray.empty) (b : Nat) :
    w.there g (k * 10) 10 ∧ Part B g (w.setCells g (k * 10) (icell s b)) ss (k + 1) ∧ w.grownBy (w.setCells g (k * 10) (icell s b)) (some g) := by
  obtain ⟨ps, tail, h1, h2, h3⟩ := h
  have hx := h3.1
  rw [List.length_append, ICells_length, h1] at hx
  obtain ⟨h4, h5⟩ := own_setCells (icell s b) (k * 10) w _ h3 (by rw [List.length_append, ICells_length, h1, icell_length]; omega)
  refine ⟨own_there h3 (k * 10) 10 (by omega), ⟨ps ++ [(s, b)], tail.drop 10, by simp [h1], ?_, ?_⟩, h5⟩
  · rw [take_snoc ss k hk, List.map_append, h2, ← hs]; rfl
  · have e1 : (ICells ps ++ tail).take (k * 10) = ICells ps := by rw [List.take_left' (by rw [ICells_length, h1])]
    have e2 : (ICells ps ++ tail).drop (k * 10 + (icell s b).length) = tail.drop 10 := by
      rw [icell_length, show k * 10 + 10 = (ICells ps).length + 10 by rw [ICells_length, h1], List.drop_append]
      simp
    rw [e1, e2] at h4
    rw [ICells_append, ICells_one]
    exact h4

set_option maxHeartbeats 400000 in
theorem chainOf_any (v : Value) (ss : List ByteArray) (w : World) (hs : Strs w v ss) (hn : ss.length ≤ 4096) :
    Calls Try.prog 10 #[v] w fun e w' => ChPost ss w e w' := by
  obtain ⟨i, hi, hz0, hz1, hz2⟩ := info_parts info58
  obtain ⟨ao, cap, rfl, hf⟩ := hs.form
  have HF := hide hf
  clear hf hs
  go_enter Try.func10, Try.ntmps10
  go_wp2_with (at_make; refine wpList_make_full _ rfl _ _ 29 rfl w.heap.size 58 i _ 10 Try.underlying29 hi hz0 hz1 _ _ _ _ ss.length rfl rfl rfl rfl (by rw [hz2]; omega) (by unfold maxLen; omega) (Nat.le_refl _) ?_; intro w1 hown hgrow)
  have hb1 : Below w.heap.size w w1 := (Below.refl _ _).grown hgrow (Nat.le_refl _) (by simp)
  have hsz1 : w.heap.size < w1.heap.size := (World.ownsRow.lt hown w.heap.size rfl).2
  have HP : Part w.heap.size w.heap.size w1 ss 0 := ⟨[], _, rfl, rfl, hown⟩
  clear hown hgrow
  go_loopw [4] (fun i wr => ∃ k : Nat, k ≤ ss.length ∧ i = .int .i64 k ∧ Part w.heap.size w.heap.size wr ss k ∧ Below w.heap.size w wr ∧ w.heap.size < wr.heap.size) (fun i _ => ss.length - (intOf i).toNat)
  case atStart => exact ⟨0, Nat.zero_le _, rfl, HP, hb1, hsz1⟩
  case round =>
    obtain ⟨k, hk, rfl, hp, hbr, hsr⟩ := hrel
    by_cases hlt : k < ss.length
    · obtain ⟨b, off, rfl, hb, hc⟩ := unhide HF (by omega)
      obtain ⟨s, hs⟩ : ∃ s, s = ss.getD k ByteArray.empty := ⟨_, rfl⟩
      have hx : wr.cell? ⟨b, off + k, none⟩ = some (.string s) := by rw [hs]; exact (hbr.cell (p := ⟨b, off + k, none⟩) hb).trans (hc k hlt)
      have HS := hide hs
      clear hs hc
      go_wp2_with fail
      refine (valRet s _).mono ?_
      rintro e w2 ⟨rfl, hb2⟩
      obtain ⟨ps, tail, q1, q2, q3⟩ := hp
      have hp2 : Part w.heap.size w.heap.size w2 ss k := ⟨ps, tail, q1, q2, own_below q3 hb2 (Nat.le_refl _)⟩
      obtain ⟨t1, t2, t3⟩ := part_step hp2 hlt s (unhide HS) wr.heap.size
      have hb3 : Below w.heap.size w (w2.setCells w.heap.size (k * 10) (icell s wr.heap.size)) :=
        (hbr.trans (hb2.mono (by omega))).grown t3 (by have := hb2.size; omega) (fun k hk => by simp at hk; omega)
      have hs3 : w.heap.size < (w2.setCells w.heap.size (k * 10) (icell s wr.heap.size)).heap.size := by
        have := hb2.size; have := t3.size; omega
      have HT := hide t1
      have HP2 := hide t2
      have HB3 := hide hb3
      have HS3 := hide hs3
      clear t1 t2 t3 hb3 hs3 q1 q2 q3 hp2
      have hsz := size_icell s wr.heap.size
      have hal := all_icell s wr.heap.size
      have HT' : Hid (w2.there w.heap.size (k * 10) (icell s wr.heap.size).toArray.size) := HT
      have HSZ := hide hsz
      have HAL := hide hal
      clear hsz hal HT
      go_wp2_with (refine wpList_store_mid rfl 58 (.tmp 22) (.tmp 21) rfl w.heap.size (k * 10) (icell s wr.heap.size).toArray rfl rfl ?ht (by exact unhide HSZ) (by exact unhide HAL) ?_)
      case ht => exact unhide HT'
      go_roundw
      case rel => exact ⟨k + 1, by omega, by go_num, unhide HP2, unhide HB3, unhide HS3⟩
      case measure => simp [intOf]; omega
    · go_wp2
      go_ret
      obtain ⟨ps, tail, q1, q2, q3⟩ := hp
      have hkl : k = ss.length := by omega
      have hlen := q3.1
      rw [List.length_append, ICells_length, q1, hkl] at hlen
      have ht : tail = [] := List.eq_nil_of_length_eq_zero (by omega)
      subst ht
      rw [List.append_nil] at q3
      rw [List.take_of_length_le (by omega)] at q2
      exact ⟨w.heap.size, ss.length, ps, by rw [q1, hkl]; rfl, q2, by unfold IOwn; rw [q1, hkl]; exact q3, hbr⟩

/-- A chain lies at block c, unlocked, with the slice v. -/
def ChainAt (w : World) (c : Nat) (v : Value) : Prop :=
  w.heap[c]? = some (.cells #[.int .i32 0, .int .u32 0, .int .u32 0, .int .u32 0, .int .i32 0, .int .i32 0, v] 46 (0, 0))

theorem zzchainOf_any (a : Option Addr) (n cap : Nat) (w : World) :
    Calls Try.prog 9 #[.slice a n cap] w fun e w' => e = .returned (.pointer (some ⟨w.heap.size, 0, none⟩)) ∧ ChainAt w' w.heap.size (.slice a n cap) ∧ w' = w.alloc (.cells #[.int .i32 0, .int .u32 0, .int .u32 0, .int .u32 0, .int .i32 0, .int .i32 0, .slice a n cap] 46) := by
  go_enter Try.func9, Try.ntmps9
  go_wp2
  go_ret
  exact ⟨rfl, heap_alloc_new w _, rfl⟩

/-- r is where x stands first among ss, or -1. -/
def IsIdx (x : ByteArray) (ss : List ByteArray) (r : Int) : Prop :=
  (∃ k, k < ss.length ∧ r = (k : Int) ∧ ((ss.getD k ByteArray.empty).toList == x.toList) = true ∧ ∀ j, j < k → ((ss.getD j ByteArray.empty).toList == x.toList) = false) ∨
  (r = -1 ∧ ∀ j, j < ss.length → ((ss.getD j ByteArray.empty).toList == x.toList) = false)

def IxPost (x : ByteArray) (ss : List ByteArray) (w : World) (e : Ending) (w' : World) : Prop := ∃ r : Int, e = .returned (.int .i64 r) ∧ IsIdx x ss r ∧ Below w.heap.size w w'

theorem fst_at (ps : List (ByteArray × Nat)) (k : Nat) : (ps.map Prod.fst).getD k ByteArray.empty = (at' ps k).1 := by
  simp only [at', List.getD, List.getElem?_map]
  cases ps[k]? <;> rfl

set_option maxHeartbeats 400000 in
theorem index_cell (B c g cap : Nat) (ps : List (ByteArray × Nat)) (x : ByteArray) (w : World) (hc6 : w.cell? ⟨c, 6, none⟩ = some (.slice (some ⟨g, 0, none⟩) ps.length cap)) (hr : IOwn B w (.slice (some ⟨g, 0, none⟩) ps.length cap) ps) (hn : ps.length ≤ 4096) :
    Calls Try.prog 15 #[.pointer (some ⟨c, 0, none⟩), .string x] w fun e w' => IxPost x (ps.map Prod.fst) w e w' := by
  have hg : g < w.heap.size := (World.ownsRow.lt hr g rfl).2
  have HR := hide (irange hr)
  clear hr
  go_enter Try.func15, Try.ntmps15
  go_wp2
  go_loopw [12] (fun i wr => ∃ k : Nat, k ≤ ps.length ∧ i = .int .i64 k ∧ Below w.heap.size w wr ∧ Hid (∀ j, j < k → (((ps.map Prod.fst).getD j ByteArray.empty).toList == x.toList) = false)) (fun i _ => ps.length - (intOf i).toNat)
  case atStart => exact ⟨0, Nat.zero_le _, rfl, Below.refl _ _, fun j h => absurd h (by omega)⟩
  case round =>
    obtain ⟨k, hk, rfl, hbr, HJ⟩ := hrel
    by_cases hlt : k < ps.length
    · have hx : wr.rangeAt g (k * 10) (icell (at' ps k).1 (at' ps k).2) := fun j v hv => (hbr.cell (p := ⟨g, k * 10 + j, none⟩) hg).trans (unhide HR k hlt j v hv)
      obtain ⟨s, hs⟩ : ∃ s, s = (at' ps k).1 := ⟨_, rfl⟩
      rw [← hs] at hx
      rw [← fst_at ps k] at hs
      generalize (at' ps k).2 = b at hx
      have HX := hide hx
      have HS := hide hs
      clear hx hs
      go_wp2_with (refine wpList_load_mid rfl 58 (.tmp 15) rfl g _ rfl [.string s, .slice none 0 0, .string { data := #[] }, .int .i32 0, .int .i32 0, .string { data := #[] }, .bool false, .int .i64 3600000, .func (Fn.func 18) #[] #[.pointer (some ⟨b, 0, none⟩)], .nilFunc] _ (unhide HX) Try.underlying58 rfl size58 ?_)
      · go_ret
        exact ⟨_, rfl, Or.inl ⟨k, by simpa using hlt, rfl, by rw [← unhide HS]; assumption, unhide HJ⟩, hbr.alloc hbr.size _⟩
      · go_roundw
        case rel =>
          refine ⟨k + 1, by omega, by go_num, hbr.alloc hbr.size _, fun j hj => ?_⟩
          by_cases e : j = k
          · rw [e, ← unhide HS]; assumption
          · exact unhide HJ j (by omega)
        case measure => simp [intOf]; omega
    · go_wp2
      go_ret
      exact ⟨_, rfl, Or.inr ⟨rfl, fun j hj => unhide HJ j (by simp at hj; omega)⟩, hbr⟩

theorem index_any (B c g cap : Nat) (ps : List (ByteArray × Nat)) (x : ByteArray) (w : World) (hc : ChainAt w c (.slice (some ⟨g, 0, none⟩) ps.length cap)) (hr : IOwn B w (.slice (some ⟨g, 0, none⟩) ps.length cap) ps) (hn : ps.length ≤ 4096) :
    Calls Try.prog 15 #[.pointer (some ⟨c, 0, none⟩), .string x] w fun e w' => IxPost x (ps.map Prod.fst) w e w' :=
  index_cell B c g cap ps x w (by rw [cell_of_row w c 6 _ _ _ hc]; rfl) hr hn

theorem zzindex_any (B c g cap : Nat) (ps : List (ByteArray × Nat)) (x : ByteArray) (w : World) (hc : ChainAt w c (.slice (some ⟨g, 0, none⟩) ps.length cap)) (hr : IOwn B w (.slice (some ⟨g, 0, none⟩) ps.length cap) ps) (hn : ps.length ≤ 4096) :
    Calls Try.prog 11 #[.pointer (some ⟨c, 0, none⟩), .string x] w fun e w' => IxPost x (ps.map Prod.fst) w e w' := by
  go_enter Try.func11, Try.ntmps11
  go_wp2_with (go_at_call 15; refine (index_any B c g cap ps x _ hc hr hn).mono ?_; rintro e w' ⟨r, rfl, hi, hb⟩)
  go_ret
  exact ⟨_, rfl, hi, hb⟩

theorem ChainAt.below {B c : Nat} {w w' : World} {v : Value} (h : ChainAt w c v) (hb : Below B w w') (hB : c < B) : ChainAt w' c v := by
  unfold ChainAt at *
  rw [hb.block c hB]; exact h
theorem IOwn.below {B B' : Nat} {w w' : World} {v : Value} {ps : List (ByteArray × Nat)} (h : IOwn B w v ps) (hb : Below B' w w') (hB : w.heap.size ≤ B') : IOwn B w' v ps := own_below h hb hB


end Go.Proofs.Qxb6604575a
