/-
  A SLICE OF STRINGS THAT CAME IN, OPENED AT EVERY INDEX.
-/
import Derived.Test.Qxb6609108aCalls
import Derived.Deep.Slices
namespace Go.Proofs.Qxb6609108a
open Go.ChangeShapes Go.WideShapes Go.ChangeAt Go.RowKit

theorem cells9 : Try.prog.cellsOf 9 = 1 := by kernel_rfl

def strOf : Value → ByteArray | .string s => s | _ => E

theorem spot_none {W : World} {x : Addr} {v : Value} (h : W.cell? (x.add 0) = some v) : x.spot = none := by
  simpa [Addr.add] using World.cell?_spot h

theorem open_strs {H : Type} {enc : TypeId × Value → H} {W : World} {base : Nat} {held : Bool} {a : Option Addr} {len cap : Nat} {d : DataW H} {p : List MemPlace}
    (h : DataW.Trod enc Try.prog W base (fun _ => true) held 22 (.slice a len cap) d p) : ∃ T, IsStrs W a len T ∧ (a = none → len = 0) := by
  obtain ⟨fuel, hf⟩ := h
  rcases Deep.open_slice1 Try.underlying22 cells9 hf with ⟨hcs, _⟩ | ⟨x, l, c, m, n, V, D, P0, hcs, _, hl, hm, hmm, _, hx⟩
  · simp [Value.cells] at hcs
    obtain ⟨rfl, rfl, rfl⟩ := hcs
    exact ⟨fun _ => E, ⟨Nat.zero_le _, fun _ hi => absurd hi (Nat.not_lt_zero _)⟩, fun _ => rfl⟩
  · simp [Value.cells] at hcs
    obtain ⟨rfl, rfl, rfl⟩ := hcs
    simp at hmm
    subst hmm
    refine ⟨fun i => strOf (V i), ⟨by omega, fun i hi => ?_⟩, fun e => by cases e⟩
    obtain ⟨c0, t0⟩ := hx i (by omega)
    obtain ⟨y0, e0, _, f0⟩ := DataW.trod_string Try.underlying9 t0
    simp only [List.cons.injEq, and_true] at e0
    have hs := spot_none (hx 0 (by omega)).1
    obtain ⟨b, off, spot⟩ := x
    simp only at hs
    subst hs
    rw [add_plain] at c0
    have g0 : strOf (V i) = y0 := by rw [e0]; rfl
    refine ⟨b, off, rfl, World.block_lt_of_cell? _ _ c0, ?_, ?_⟩
    · show _ = some (Value.string (strOf (V i)))
      rw [g0, ← e0]; exact c0
    · show (strOf (V i)).size ≤ maxLen
      rw [g0]; exact f0
end Go.Proofs.Qxb6609108a
