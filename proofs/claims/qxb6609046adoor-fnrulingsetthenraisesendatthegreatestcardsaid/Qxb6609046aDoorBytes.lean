/-
  THE WALK OF THE SIZE BOUND (4): it answers some bool; the world is as it was.
-/
import Derived.Test.Qxb6609046aDoorCalls
namespace Go.Proofs.Qxb6609046aDoor
open Go.RowKit

/-- WHAT A WALK IS TOLD OF A SLICE OF STRINGS THAT CAME IN. -/
def IsStrs (w : World) (a : Option Addr) (len : Nat) (T : Nat → ByteArray) : Prop :=
  len ≤ maxLen ∧ ∀ i, i < len → ∃ b off, a = some ⟨b, off, none⟩ ∧ b < w.heap.size ∧ w.cell? ⟨b, off + i, none⟩ = some (.string (T i)) ∧ (T i).size ≤ maxLen
/-- .. OF A SLICE OF INTEGERS. -/
def IsInts (w : World) (a : Option Addr) (len : Nat) (X : Nat → Int) : Prop :=
  len ≤ maxLen ∧ ∀ i, i < len → ∃ b off, a = some ⟨b, off, none⟩ ∧ b < w.heap.size ∧ w.cell? ⟨b, off + i, none⟩ = some (.int .i64 (X i)) ∧ (Lit.int .i64 (X i)).wf = true

/-- it answers some bool; and where it answers true, every string of the two slices is short -/
def Short (n : Nat) (T : Nat → ByteArray) : Prop := ∀ i, i < n → (T i).size ≤ 1048576
def Said (e : Ending) (l10 l11 : Nat) (T10 T11 : Nat → ByteArray) : Prop := ∃ t, e = .returned (.bool t) ∧ (t = true → Short l10 T10 ∧ Short l11 T11)
theorem said_no {e : Ending} {l10 l11 : Nat} {T10 T11 : Nat → ByteArray} (h : e = .returned (.bool false)) : Said e l10 l11 T10 T11 := ⟨false, h, fun h => by cases h⟩
theorem said_yes {e : Ending} {l10 l11 : Nat} {T10 T11 : Nat → ByteArray} (h : e = .returned (.bool true)) (h1 : Short l10 T10) (h2 : Short l11 T11) : Said e l10 l11 T10 T11 := ⟨true, h, fun _ => ⟨h1, h2⟩⟩
theorem short_zero (T : Nat → ByteArray) : Short 0 T := fun i hi => absurd hi (Nat.not_lt_zero i)
theorem short_succ {n : Nat} {T : Nat → ByteArray} (h : Short n T) (hs : (T n).size ≤ 1048576) : Short (n + 1) T := fun i hi => by
  by_cases e : i = n
  · subst e; exact hs
  · exact h i (by omega)

theorem bytes_any (l c s : Int) (t1 t2 t4 t5 t7 t8 : ByteArray) (a9 a10 a11 : Option Addr) (l9 l10 l11 k9 k10 k11 : Nat) (T10 T11 : Nat → ByteArray) (w : World)
    (h1 : t1.size ≤ maxLen) (h2 : t2.size ≤ maxLen) (h4 : t4.size ≤ maxLen) (h5 : t5.size ≤ maxLen) (h7 : t7.size ≤ maxLen) (h8 : t8.size ≤ maxLen) (h9 : l9 ≤ maxLen) (h10 : IsStrs w a10 l10 T10) (h11 : IsStrs w a11 l11 T11) :
    Calls Tryd.prog 4 #[.int .i64 l, .string t1, .string t2, .int .i64 c, .string t4, .string t5, .int .i64 s, .string t7, .string t8, .slice a9 l9 k9, .slice a10 l10 k10, .slice a11 l11 k11] w fun e w' => Said e l10 l11 T10 T11 ∧ w = w' := by
  have m10 := h10.1
  have m11 := h11.1
  have H10 : Hid (IsStrs w a10 l10 T10) := h10
  have H11 : Hid (IsStrs w a11 l11 T11) := h11
  clear h10 h11
  unfold maxLen at h1 h2 h4 h5 h7 h8 h9 m10 m11
  go_enter Tryd.func4, Tryd.ntmps4
  go_wp2
  any_goals (go_ret; exact ⟨said_no rfl, rfl⟩)
  go_loop [25, 26] (fun n i => ∃ (k : Nat) (z : Int), Hid (Short k T10) ∧ k ≤ l10 ∧ 0 ≤ z ∧ z ≤ 1048576 ∧ i = .int .i64 k ∧ n = .int .i64 z) (fun _ i => l10 - (intOf i).toNat)
  case atStart => exact ⟨0, _, short_zero _, Nat.zero_le _, by omega, by omega, rfl, rfl⟩
  case round =>
    obtain ⟨k, z, HS, hk, hz0, hz1, rfl, rfl⟩ := hrel
    by_cases hlt : k < l10
    · obtain ⟨b, off, ha, hb, hc, hs⟩ := H10.out.2 k hlt
      subst ha
      unfold maxLen at hs
      go_wp2
      any_goals (go_ret; exact ⟨said_no rfl, rfl⟩)
      go_round
      case rel => exact ⟨k + 1, _, short_succ HS.out (by omega), by omega, by omega, by omega, by go_num, rfl⟩
      case measure => simp [intOf]; omega
    · have HE : Hid (Short l10 T10) := by
        have e : k = l10 := by omega
        exact e ▸ HS.out
      go_wp2
      any_goals (go_ret; exact ⟨said_no rfl, rfl⟩)
      go_loop [25, 27] (fun n i => ∃ (k : Nat) (z : Int), Hid (Short k T11) ∧ k ≤ l11 ∧ 0 ≤ z ∧ z ≤ 1048576 ∧ i = .int .i64 k ∧ n = .int .i64 z) (fun _ i => l11 - (intOf i).toNat)
      case atStart => exact ⟨0, _, short_zero _, Nat.zero_le _, by omega, by omega, rfl, rfl⟩
      case round =>
        obtain ⟨k', z', HS', hk', hz0', hz1', rfl, rfl⟩ := hrel
        by_cases hlt' : k' < l11
        · obtain ⟨b, off, ha, hb, hc, hs⟩ := H11.out.2 k' hlt'
          subst ha
          unfold maxLen at hs
          go_wp2
          any_goals (go_ret; exact ⟨said_no rfl, rfl⟩)
          go_round
          case rel => exact ⟨k' + 1, _, short_succ HS'.out (by omega), by omega, by omega, by omega, by go_num, rfl⟩
          case measure => simp [intOf]; omega
        · go_wp2
          go_ret
          have e : k' = l11 := by omega
          exact ⟨said_yes rfl HE.out (e ▸ HS'.out), rfl⟩
end Go.Proofs.Qxb6609046aDoor
