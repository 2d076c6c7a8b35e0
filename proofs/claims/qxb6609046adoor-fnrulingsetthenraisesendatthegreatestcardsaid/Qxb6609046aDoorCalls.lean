/-
  THE WALKS OF THIS SEAT's CALLEES.
-/
import Derived.Test.Qxb6609046aDoorRows
import Derived.WalkKit
import Derived.ProofKit
import Derived.RegionTactic
import Derived.BigRegion
import Derived.BigQuiet
import Derived.Deep.QuietTactic
import Derived.ChangeAlike
namespace Go.Proofs.Qxb6609046aDoor
open Go.RowKit

def S0 : ByteArray := ⟨#[109, 97, 110, 97, 103, 101, 109, 101, 110, 116]⟩
def S1 : ByteArray := ⟨#[98, 111, 97, 114, 100]⟩
def S2 : ByteArray := ⟨#[115, 104, 97, 114, 101, 104, 111, 108, 100, 101, 114, 115]⟩
/-- the name of a tier -/
def nameOf (l : Int) : ByteArray := if l = 0 then S0 else if l = 1 then S1 else if l = 2 then S2 else ⟨#[]⟩

/-- THE VARIABLE levelNames AS THE TEXT LAYS IT. -/
def Names (w : World) : Prop := w.cell? ⟨0, 0, none⟩ = some (.string S0) ∧ w.cell? ⟨0, 1, none⟩ = some (.string S1) ∧ w.cell? ⟨0, 2, none⟩ = some (.string S2)

theorem levelName_any (l : Int) (w : World) : Calls Tryd.prog 8 #[.int .i64 l] w fun e w' => e = .returned (.string (nameOf l)) ∧ w' = w := by
  by_cases h0 : l = 0
  · subst h0
    go_enter Tryd.func8, Tryd.ntmps8
    go_wp2
    go_ret
    exact ⟨rfl, rfl⟩
  have e0 : (l == 0) = false := by simp [h0]
  by_cases h1 : l = 1
  · subst h1
    go_enter Tryd.func8, Tryd.ntmps8
    go_wp2
    go_ret
    exact ⟨rfl, rfl⟩
  have e1 : (l == 1) = false := by simp [h1]
  by_cases h2 : l = 2
  · subst h2
    go_enter Tryd.func8, Tryd.ntmps8
    go_wp2
    go_ret
    exact ⟨rfl, rfl⟩
  have e2 : (l == 2) = false := by simp [h2]
  have hn : Ending.returned (Value.string ⟨#[]⟩) = .returned (.string (nameOf l)) := by simp [nameOf, h0, h1, h2]
  have HN : Hid (Ending.returned (Value.string ⟨#[]⟩) = .returned (.string (nameOf l))) := hn
  clear hn
  go_enter Tryd.func8, Tryd.ntmps8
  go_wp2
  go_ret
  exact ⟨HN.out, rfl⟩

theorem string_any (l : Int) (w : World) (h0 : 0 ≤ l) (h2 : l ≤ 2) (hn : Names w) : Calls Tryd.prog 11 #[.int .i64 l] w fun e w' => e = .returned (.string (nameOf l)) ∧ w' = w := by
  obtain ⟨n0, n1, n2⟩ := hn
  obtain rfl | rfl | rfl : l = 0 ∨ l = 1 ∨ l = 2 := by omega
  all_goals
    go_enter Tryd.func11, Tryd.ntmps11
    go_wp2
    go_ret
    exact ⟨rfl, rfl⟩

theorem newKind_any (id : ByteArray) (w : World) : Calls Tryd.prog 6 #[.string id] w fun e w' => e = .returned (.pointer (some ⟨w.heap.size, 0, none⟩)) ∧ ∃ c1 c2 c3 c4, w' = w.alloc (.cells #[.string id, c1, c2, c3, c4] 49) := by
  go_enter Tryd.func6, Tryd.ntmps6
  go_wp2
  go_ret
  exact ⟨rfl, _, _, _, _, rfl⟩

theorem newEffect_any (o t : Int) (vo ar fi : ByteArray) (w : World) : Calls Tryd.prog 7 #[.int .i64 o, .int .i64 t, .string vo, .string ar, .string fi] w fun e w' =>
    e = .returned (.agg #[.int .i64 o, .int .i64 t, .string vo, .string ar, .string fi]) ∧ w' = w.alloc (.cells #[.int .i64 o, .int .i64 t, .string vo, .string ar, .string fi] 39) := by
  go_enter Tryd.func7, Tryd.ntmps7
  go_wp2
  exact bodyPost_ret (v := .agg #[.int .i64 o, .int .i64 t, .string vo, .string ar, .string fi]) (by simp [results, Tryd.results7, go_sem]) rfl ⟨rfl, rfl⟩

theorem lowered_any (r : Nat) (n : Int) (w : World) (h : w.cell? ⟨r, 6, none⟩ = some (.int .i64 n)) : Calls Tryd.prog 9 #[.pointer (some ⟨r, 0, none⟩)] w fun e w' => e = .returned (.int .i64 n) ∧ w' = w := by
  go_enter Tryd.func9, Tryd.ntmps9
  go_wp2
  go_ret
  exact ⟨rfl, rfl⟩
end Go.Proofs.Qxb6609046aDoor
