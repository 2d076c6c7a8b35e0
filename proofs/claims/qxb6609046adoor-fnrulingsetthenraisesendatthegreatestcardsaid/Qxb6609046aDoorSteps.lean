/-
  THE CONTRACTS OF ZZapply (5) AS THE LAW USES THEM: one a kind of rule.
-/
import Derived.Test.Qxb6609046aDoorZZ
import Derived.Test.Qxb6609046aDoorBytes
namespace Go.Proofs.Qxb6609046aDoor
open Go.RowKit

/-- WHAT 'AT MOST' LEAVES. -/
def Most (w' : World) (r : Nat) (L t : Int) (ru vo id ar : ByteArray) : Prop :=
  (t < L ∧ ∃ x, Rul w' r t ru vo (.pointer (some ⟨x, 0, none⟩)) t ∧ Exm w' x id (nameOf L) (nameOf t) ar) ∨ (¬ t < L ∧ Rul w' r L ru vo (.pointer none) 0)

theorem zz_most (r kb : Nat) (L t : Int) (ru vo id ve ar fi : ByteArray) (w : World) (hr : Rul w r L ru vo (.pointer none) 0) (hk : w.cell? ⟨kb, 0, none⟩ = some (.string id)) (hN : Names w) (h0 : 0 ≤ t) (h2 : L ≤ 2) :
    Calls Tryd.prog 5 #[.pointer (some ⟨r, 0, none⟩), .pointer (some ⟨kb, 0, none⟩), .agg #[.int .i64 2, .int .i64 t, .string ve, .string ar, .string fi]] w fun e w' => e = .returned .nilIface ∧ Most w' r L t ru vo id ar ∧ Below r w w' := by
  by_cases ht : t < L
  · refine (zz_over r kb L 0 t ru vo id ve ar fi _ w hr hk hN ht h0 h2).mono ?_
    rintro e w' ⟨rfl, hb, x, hR, hE⟩
    exact ⟨rfl, .inl ⟨ht, x, hR, hE⟩, hb⟩
  · refine (zz_under r kb L 0 t ru vo ve ar fi _ w hr ht).mono ?_
    rintro e w' ⟨rfl, hR, hb⟩
    exact ⟨rfl, .inr ⟨ht, hR⟩, hb⟩

theorem zz_least (r kb : Nat) (s low : Int) (X : Nat → Int) (r0 v0 : ByteArray) (I V : Nat → ByteArray) (k : Nat) (ar fi : ByteArray) (ex : Value) (w : World) (hr : Rul w r (levTo s X k) (ruleTo s X r0 I k) (voteTo s X v0 V k) ex low) (hk : w.cell? ⟨kb, 0, none⟩ = some (.string (I k))) :
    Calls Tryd.prog 5 #[.pointer (some ⟨r, 0, none⟩), .pointer (some ⟨kb, 0, none⟩), .agg #[.int .i64 1, .int .i64 (X k), .string (V k), .string ar, .string fi]] w fun e w' => e = .returned .nilIface ∧ Rul w' r (levTo s X (k + 1)) (ruleTo s X r0 I (k + 1)) (voteTo s X v0 V (k + 1)) ex low ∧ Below r w w' := by
  by_cases ht : X k < levTo s X k
  · refine (zz_low r kb _ low (X k) _ _ (V k) ar fi ex w hr ht).mono ?_
    rintro e w' ⟨rfl, hR, hb⟩
    exact ⟨rfl, by rw [lev_low ht, rule_low ht, voteTo_low ht]; exact hR, hb⟩
  · refine (zz_up r kb _ low (X k) _ _ (I k) (V k) ar fi ex w hr hk ht).mono ?_
    rintro e w' ⟨rfl, hR, hb⟩
    exact ⟨rfl, by rw [lev_up ht, rule_up ht, voteTo_up ht]; exact hR, hb⟩
end Go.Proofs.Qxb6609046aDoor
