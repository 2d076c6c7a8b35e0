/-
  THE WALKS OF THE SIZE BOUNDS (5, 11): each answers some bool; where it says true every string is short; the world is as it was.
-/
import Derived.Test.Qxb6609108aCalls
namespace Go.Proofs.Qxb6609108a
open Go.RowKit

def Short (n : Nat) (T : Nat → ByteArray) : Prop := ∀ i, i < n → (T i).size ≤ 1048576
theorem short_zero (T : Nat → ByteArray) : Short 0 T := fun i hi => absurd hi (Nat.not_lt_zero i)
theorem short_succ {n : Nat} {T : Nat → ByteArray} (h : Short n T) (hs : (T n).size ≤ 1048576) : Short (n + 1) T := fun i hi => by
  by_cases e : i = n
  · subst e; exact hs
  · exact h i (by omega)
def Said (e : Ending) (p : Prop) : Prop := ∃ t, e = .returned (.bool t) ∧ (t = true → p)
theorem said_no {e : Ending} {p : Prop} (h : e = .returned (.bool false)) : Said e p := ⟨false, h, fun h => by cases h⟩
theorem said_yes {e : Ending} {p : Prop} (h : e = .returned (.bool true)) (hp : p) : Said e p := ⟨true, h, fun _ => hp⟩

theorem bytes5_any (a : Option Addr) (len cap : Nat) (n : Int) (T : Nat → ByteArray) (w : World) (hs : IsStrs w a len T) :
    Calls Try.prog 5 #[.slice a len cap, .int .i64 n] w fun e w' => Said e (Short len T) ∧ w = w' := by
  have m := hs.1
  have HS : Hid (IsStrs w a len T) := hs
  clear hs
  unfold maxLen at m
  go_enter Try.func5, Try.ntmps5
  go_wp2
  any_goals (go_ret; exact ⟨said_no rfl, rfl⟩)
  go_loop [5, 6] (fun n i => ∃ (k : Nat) (z : Int), Hid (Short k T) ∧ k ≤ len ∧ 0 ≤ z ∧ z ≤ 1048576 ∧ i = .int .i64 k ∧ n = .int .i64 z) (fun _ i => len - (intOf i).toNat)
  case atStart => exact ⟨0, _, short_zero _, Nat.zero_le _, by omega, by omega, rfl, rfl⟩
  case round =>
    obtain ⟨k, z, HK, hk, hz0, hz1, rfl, rfl⟩ := hrel
    by_cases hlt : k < len
    · obtain ⟨b, off, ha, hb, hc, hs⟩ := HS.out.2 k hlt
      subst ha
      unfold maxLen at hs
      go_wp2
      any_goals (go_ret; exact ⟨said_no rfl, rfl⟩)
      go_round
      case rel => exact ⟨k + 1, _, short_succ HK.out (by omega), by omega, by omega, by omega, by go_num, rfl⟩
      case measure => simp [intOf]; omega
    · have e : k = len := by omega
      go_wp2
      go_ret
      exact ⟨said_yes rfl (e ▸ HK.out), rfl⟩

theorem bytes11_any (a0 : Option Addr) (len0 cap0 : Nat) (T0 : Nat → ByteArray) (a1 : Option Addr) (len1 cap1 : Nat) (T1 : Nat → ByteArray) (w : World) (h0 : IsStrs w a0 len0 T0) (h1 : IsStrs w a1 len1 T1) :
    Calls Try.prog 11 #[.slice a0 len0 cap0, .slice a1 len1 cap1] w fun e w' => Said e (Short len0 T0 ∧ Short len1 T1) ∧ w = w' := by
  have m0 := h0.1
  have m1 := h1.1
  have H0 : Hid (IsStrs w a0 len0 T0) := h0
  have H1 : Hid (IsStrs w a1 len1 T1) := h1
  clear h0 h1
  unfold maxLen at m0 m1
  go_enter Try.func11, Try.ntmps11
  go_wp2
  any_goals (go_ret; exact ⟨said_no rfl, rfl⟩)
  go_loop [5, 6] (fun n i => ∃ (k : Nat) (z : Int), Hid (Short k T0) ∧ k ≤ len0 ∧ 0 ≤ z ∧ z ≤ 1048576 ∧ i = .int .i64 k ∧ n = .int .i64 z) (fun _ i => len0 - (intOf i).toNat)
  case atStart => exact ⟨0, _, short_zero _, Nat.zero_le _, by omega, by omega, rfl, rfl⟩
  case round =>
    obtain ⟨k, z, HK, hk, hz0, hz1, rfl, rfl⟩ := hrel
    by_cases hlt : k < len0
    · obtain ⟨b, off, ha, hb, hc, hs⟩ := H0.out.2 k hlt
      subst ha
      unfold maxLen at hs
      go_wp2
      any_goals (go_ret; exact ⟨said_no rfl, rfl⟩)
      go_round
      case rel => exact ⟨k + 1, _, short_succ HK.out (by omega), by omega, by omega, by omega, by go_num, rfl⟩
      case measure => simp [intOf]; omega
    · have HE : Hid (Short len0 T0) := by
        have e : k = len0 := by omega
        exact e ▸ HK.out
      go_wp2
      any_goals (go_ret; exact ⟨said_no rfl, rfl⟩)
      go_loop [5, 7] (fun n i => ∃ (k : Nat) (z : Int), Hid (Short k T1) ∧ k ≤ len1 ∧ 0 ≤ z ∧ z ≤ 1048576 ∧ i = .int .i64 k ∧ n = .int .i64 z) (fun _ i => len1 - (intOf i).toNat)
      case atStart => exact ⟨0, _, short_zero _, Nat.zero_le _, by omega, by omega, rfl, rfl⟩
      case round =>
        obtain ⟨k', z', HK', hk', hz0', hz1', rfl, rfl⟩ := hrel
        by_cases hlt' : k' < len1
        · obtain ⟨b, off, ha, hb, hc, hs⟩ := H1.out.2 k' hlt'
          subst ha
          unfold maxLen at hs
          go_wp2
          any_goals (go_ret; exact ⟨said_no rfl, rfl⟩)
          go_round
          case rel => exact ⟨k' + 1, _, short_succ HK'.out (by omega), by omega, by omega, by omega, by go_num, rfl⟩
          case measure => simp [intOf]; omega
        · have e : k' = len1 := by omega
          go_wp2
          go_ret
          exact ⟨said_yes rfl ⟨HE.out, e ▸ HK'.out⟩, rfl⟩
end Go.Proofs.Qxb6609108a
