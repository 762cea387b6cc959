/-
  Seat b6604575a: zzNamesBytes, zzDistinctNonEmpty.
-/
import Derived.Test.Qxb6604575aStrs
namespace Go.Proofs.Qxb6604575a
open Go.RowKit
set_option linter.unusedSimpArgs false

set_option maxHeartbeats 400000 in
theorem namesBytes_any (v : Value) (ss : List ByteArray) (x : ByteArray) (w : World) (hs : Strs w v ss) (hn : ss.length ≤ 4096) (hx : x.size ≤ 1048576) (ha : ∀ s ∈ ss, s.size ≤ 1048576) :
    Calls Try.prog 6 #[v, .string x] w fun e w' => ∃ r : Int, e = .returned (.int .i64 r) ∧ 0 ≤ r ∧ r ≤ 1099511627776 ∧ w' = w := by
  rcases hs with ⟨ao, cap, rfl, rfl⟩ | ⟨b, off, cap, rfl, hb, hc⟩
  · go_enter Try.func6, Try.ntmps6
    go_wp2
    refine wp_loop_rounds 1 ?_
    rw [rounds_succ]
    go_wp2
    go_ret
    exact ⟨_, rfl, by omega, by omega, rfl⟩
  · generalize hl : ss.length = n at *
    have HL : Hid (ss.length = n) := hl
    have HA : Hid (∀ s ∈ ss, s.size ≤ 1048576) := ha
    clear hl ha
    go_enter Try.func6, Try.ntmps6
    go_wp2
    go_loop [5, 6] (fun c i => ∃ k : Nat, k ≤ n ∧ i = .int .i64 k ∧ ∃ t : Int, 0 ≤ t ∧ t ≤ 268435456 + 1048576 * k ∧ c = .int .i64 t) (fun _ i => n - (intOf i).toNat)
    case atStart => exact ⟨0, Nat.zero_le _, rfl, _, by omega, by omega, rfl⟩
    case round =>
      obtain ⟨k, hk, rfl, t, ht0, ht1, rfl⟩ := hrel
      by_cases hlt : k < n
      · have hcx := hc k hlt
        obtain ⟨s, hs⟩ : ∃ s, s = ss.getD k ByteArray.empty := ⟨_, rfl⟩
        rw [← hs] at hcx
        have hsz : s.size ≤ 1048576 := wb_step (by rw [HL.out]; exact hlt) hs HA.out
        clear hs hc
        go_wp2
        go_round
        case rel => exact ⟨k + 1, by omega, by go_num, _, by omega, by omega, rfl⟩
        case measure => simp [intOf]; omega
      · go_wp2
        go_ret
        exact ⟨_, rfl, by omega, by omega, rfl⟩

/-- No two of the names are the same. -/
def Dist (ss : List ByteArray) : Prop := ∀ i j, j < i → i < ss.length → (ss.getD j ByteArray.empty).toList ≠ (ss.getD i ByteArray.empty).toList

def DnPost (ss : List ByteArray) (w : World) (e : Ending) (w' : World) : Prop := (∃ q, w' = w.drewN q) ∧ (e = .returned (.bool false) ∨ (e = .returned (.bool true) ∧ Dist ss))
theorem dn_no {ss : List ByteArray} {w : World} {e : Ending} {q : Nat} (h : e = .returned (.bool false)) : DnPost ss w e (w.drewN q) := ⟨⟨q, rfl⟩, Or.inl h⟩
theorem dn_yes {ss : List ByteArray} {w : World} {e : Ending} {q : Nat} (h : e = .returned (.bool true)) (h1 : Dist ss) : DnPost ss w e (w.drewN q) := ⟨⟨q, rfl⟩, Or.inr ⟨h, h1⟩⟩

theorem dm_step {ss : List ByteArray} {m : Nat} {u s : ByteArray} (hu : u = ss.getD m ByteArray.empty) (h : (u.toList == s.toList) = false) (hm : ∀ j, j < m → (ss.getD j ByteArray.empty).toList ≠ s.toList) :
    ∀ j, j < m + 1 → (ss.getD j ByteArray.empty).toList ≠ s.toList := by
  intro j hj
  by_cases e : j = m
  · subst e; rw [← hu]; simpa using h
  · exact hm j (by omega)
theorem dk_step {ss : List ByteArray} {k : Nat} {s : ByteArray} (hs : s = ss.getD k ByteArray.empty) (hk : ∀ i j, j < i → i < k → (ss.getD j ByteArray.empty).toList ≠ (ss.getD i ByteArray.empty).toList) (hm : ∀ j, j < k → (ss.getD j ByteArray.empty).toList ≠ s.toList) :
    ∀ i j, j < i → i < k + 1 → (ss.getD j ByteArray.empty).toList ≠ (ss.getD i ByteArray.empty).toList := by
  intro i j hj hi
  by_cases e : i = k
  · subst e; rw [← hs]; exact hm j hj
  · exact hk i j hj (by omega)

set_option maxHeartbeats 1000000 in
theorem distinct_any (v : Value) (ss : List ByteArray) (w : World) (hs : Strs w v ss) (hn : ss.length ≤ 4096) :
    Calls Try.prog 7 #[v] w fun e w' => DnPost ss w e w' := by
  obtain ⟨ao, cap, rfl, hf⟩ := hs.form
  have HF := hide hf
  clear hf hs
  go_enter Try.func7, Try.ntmps7
  go_wp2
  go_loopw [3] (fun i wr => ∃ k : Nat, k ≤ ss.length ∧ i = .int .i64 k ∧ (∃ q, wr = w.drewN q) ∧ Hid (∀ i j, j < i → i < k → (ss.getD j ByteArray.empty).toList ≠ (ss.getD i ByteArray.empty).toList)) (fun i _ => ss.length - (intOf i).toNat)
  case atStart => exact ⟨0, Nat.zero_le _, rfl, ⟨0, rfl⟩, fun i j _ h => absurd h (by omega)⟩
  case round =>
    obtain ⟨k, hk, rfl, ⟨q, rfl⟩, HD⟩ := hrel
    by_cases hlt : k < ss.length
    · obtain ⟨b, off, rfl, hb, hc⟩ := unhide HF (by omega)
      have HC := hide hc
      have hx := hc k hlt
      obtain ⟨s, hs⟩ : ∃ s, s = ss.getD k ByteArray.empty := ⟨_, rfl⟩
      rw [← hs] at hx
      have HS := hide hs
      clear hs hc
      go_wp2
      · go_ret
        exact dn_no rfl
      · go_loopw [4] (fun i wr => ∃ m : Nat, m ≤ k ∧ i = .int .i64 m ∧ (∃ q, wr = w.drewN q) ∧ Hid (∀ j, j < m → (ss.getD j ByteArray.empty).toList ≠ s.toList)) (fun i _ => k - (intOf i).toNat)
        case atStart => exact ⟨0, Nat.zero_le _, rfl, ⟨q, rfl⟩, fun j h => absurd h (by omega)⟩
        case round =>
          obtain ⟨m, hm, rfl, ⟨q', rfl⟩, HM⟩ := hrel
          by_cases hmk : m < k
          · have hy := unhide HC m (by omega)
            obtain ⟨u, hu⟩ : ∃ u, u = ss.getD m ByteArray.empty := ⟨_, rfl⟩
            rw [← hu] at hy
            have HU := hide hu
            clear hu
            have hml : m < ss.length := by omega
            go_wp2
            go_quiet (fail)
            go_wp2
            · go_ret
              rw [World.drewN_drewN]
              exact dn_no rfl
            · go_roundw
              case rel => exact ⟨m + 1, by omega, by go_num, ⟨q' + nq, rfl⟩, dm_step (unhide HU) ‹_› (unhide HM)⟩
              case measure => simp [intOf]; omega
          · go_wp2
            go_roundw
            case rel => exact ⟨k + 1, by omega, by go_num, ⟨q', rfl⟩, dk_step (unhide HS) (unhide HD) (fun j hj => unhide HM j (by omega))⟩
            case measure => simp [intOf]; omega
    · go_wp2
      go_ret
      exact dn_yes rfl (fun i j h1 h2 => unhide HD i j h1 (by omega))

end Go.Proofs.Qxb6604575a
