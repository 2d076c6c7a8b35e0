/-
  THE ARGUMENTS OPENED; THE LISTED VARIABLE's CELLS.
-/
import Derived.Test.Qxb6609046aDoorBytes
import Derived.Deep.Slices
import Derived.ProofKit
import Derived.OpenShut
import Derived.LaidMore
import Derived.Lay
import Derived.WalkSmall
import Derived.Stop.Joined
namespace Go.Proofs.Qxb6609046aDoor
open Go.ChangeShapes Go.WideShapes Go.ChangeAt Go.RowKit

theorem cells9 : Tryd.prog.cellsOf 9 = 1 := by kernel_rfl
theorem cells3 : Tryd.prog.cellsOf 3 = 1 := by kernel_rfl

def strOf : Value → ByteArray | .string s => s | _ => ⟨#[]⟩

theorem spot_none {W : World} {x : Addr} {v : Value} (h : W.cell? (x.add 0) = some v) : x.spot = none := by
  simpa [Addr.add] using World.cell?_spot h

theorem open_strs {H : Type} {enc : TypeId × Value → H} {W : World} {base : Nat} {held : Bool} {a : Option Addr} {len cap : Nat} {d : DataW H} {p : List MemPlace}
    (h : DataW.Trod enc Tryd.prog W base (fun _ => true) held 23 (.slice a len cap) d p) : ∃ T, IsStrs W a len T := by
  obtain ⟨fuel, hf⟩ := h
  rcases Deep.open_slice1 Tryd.underlying23 cells9 hf with ⟨hcs, _⟩ | ⟨x, l, c, m, n, V, D, P0, hcs, _, hl, hm, hmm, _, hx⟩
  · simp [Value.cells] at hcs
    obtain ⟨rfl, rfl, rfl⟩ := hcs
    exact ⟨fun _ => ⟨#[]⟩, Nat.zero_le _, fun _ hi => absurd hi (Nat.not_lt_zero _)⟩
  · simp [Value.cells] at hcs
    obtain ⟨rfl, rfl, rfl⟩ := hcs
    simp at hmm
    subst hmm
    refine ⟨fun i => strOf (V i), by omega, fun i hi => ?_⟩
    obtain ⟨c0, t0⟩ := hx i (by omega)
    obtain ⟨y0, e0, _, f0⟩ := DataW.trod_string Tryd.underlying9 t0
    simp only [List.cons.injEq, and_true] at e0
    have hs := spot_none (hx 0 (by omega)).1
    obtain ⟨b, off, spot⟩ := x
    simp only at hs
    subst hs
    rw [add_plain] at c0
    have g0 : strOf (V i) = y0 := by rw [e0]; rfl
    refine ⟨b, off, rfl, World.block_lt_of_cell? _ _ c0, ?_, ?_⟩
    · show _ = some (Value.string (strOf (V i)))
      rw [g0, ← e0]; exact c0
    · show (strOf (V i)).size ≤ maxLen
      rw [g0]; exact f0

theorem open_nums {H : Type} {enc : TypeId × Value → H} {W : World} {base : Nat} {held : Bool} {a : Option Addr} {len cap : Nat} {d : DataW H} {p : List MemPlace}
    (h : DataW.Trod enc Tryd.prog W base (fun _ => true) held 22 (.slice a len cap) d p) : ∃ X, IsInts W a len X := by
  obtain ⟨fuel, hf⟩ := h
  rcases Deep.open_slice1 Tryd.underlying22 cells3 hf with ⟨hcs, _⟩ | ⟨x, l, c, m, n, V, D, P0, hcs, _, hl, hm, hmm, _, hx⟩
  · simp [Value.cells] at hcs
    obtain ⟨rfl, rfl, rfl⟩ := hcs
    exact ⟨fun _ => 0, Nat.zero_le _, fun _ hi => absurd hi (Nat.not_lt_zero _)⟩
  · simp [Value.cells] at hcs
    obtain ⟨rfl, rfl, rfl⟩ := hcs
    simp at hmm
    subst hmm
    refine ⟨fun i => intOf (V i), by omega, fun i hi => ?_⟩
    obtain ⟨c0, t0⟩ := hx i (by omega)
    obtain ⟨y0, e0, _, f0⟩ := DataW.trod_int Tryd.underlying3 t0
    simp only [List.cons.injEq, and_true] at e0
    have hs := spot_none (hx 0 (by omega)).1
    obtain ⟨b, off, spot⟩ := x
    simp only at hs
    subst hs
    rw [add_plain] at c0
    have g0 : intOf (V i) = y0 := by rw [e0]; rfl
    refine ⟨b, off, rfl, World.block_lt_of_cell? _ _ c0, ?_, ?_⟩
    · show _ = some (Value.int .i64 (intOf (V i)))
      rw [g0, ← e0]; exact c0
    · show (Lit.int .i64 (intOf (V i))).wf = true
      rw [g0]; exact f0

/-- the listed variable's name, as the given specification has it -/
def nm : String := Rows.fnRulingSetThenRaisesEndAtTheGreatestSpec.vars.headD ""
theorem gNames : Tryd.prog.globalNamed nm = some 0 := by kernel_rfl
theorem tNames : (Tryd.prog.globals[0]?).map (·.type) = some 54 := by kernel_rfl

/-- WHAT THE CONDITION GIVES THE WALK: the variable's three cells. -/
theorem names_of_laid {W : World} (h : laidMetH Tryd.prog Rows.fnRulingSetThenRaisesEndAtTheGreatestRow.laid W) : Names W := by
  rw [MakeChecks.laidMetH_plain _ _ _ (by kernel_rfl)] at h
  obtain ⟨ps, ⟨g, t, cs, fuel, p, q, hg, ht, hv, hd, _, _⟩, _, _⟩ := h
  obtain rfl := Option.some.inj (gNames.symm.trans hg)
  obtain rfl := Option.some.inj (tNames.symm.trans ht)
  obtain ⟨xs, m, _, ex, _, hl, hel⟩ := DataW.trod_array Tryd.underlying54 hd
  have e3 := (DataW.agg.inj (Prod.mk.inj ex).1).symm
  match xs, hl, e3, hel with
  | [x0, x1, x2], _, e3, hel =>
    simp only [List.map_cons, List.map_nil, List.cons.injEq, and_true] at e3
    have key : ∀ (i : Nat) (x : DataW Unit × List MemPlace) (s : ByteArray), i < 3 → [x0, x1, x2][i]? = some x → x.1 = .lit (.string s.data.toList) → W.cell? ⟨0, i, none⟩ = some (.string s) := by
      intro i x s hi hx hxs
      have hE := hel i hi
      rw [cells9, Nat.mul_one, hx] at hE
      obtain ⟨z, e1, e2, _⟩ := DataW.trod_string Tryd.underlying9 hE
      rw [e2] at hxs
      simp only [DataW.lit.injEq, Lit.string.injEq] at hxs
      have hz : z = s := by
        cases z; cases s
        simp only [ByteArray.mk.injEq]
        exact Array.toList_inj.1 hxs
      subst hz
      rw [World.var?_cell hg hv i]
      have h0 : ((cs.toList.drop i).take 1)[0]? = some (.string z) := by rw [e1]; rfl
      simpa using h0
    exact ⟨key 0 x0 S0 (by decide) rfl e3.1, key 1 x1 S1 (by decide) rfl e3.2.1, key 2 x2 S2 (by decide) rfl e3.2.2⟩
end Go.Proofs.Qxb6609046aDoor
