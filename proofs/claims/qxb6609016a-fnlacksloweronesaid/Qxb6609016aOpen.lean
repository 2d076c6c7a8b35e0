/-
  A SLICE OF ENTRIES THAT CAME IN, OPENED AT EVERY INDEX.
-/
import Derived.Test.Qxb6609016aWalks
import Derived.Deep.SlicePairs
namespace Go.Proofs.Qxb6609016a
open Go.RowKit

theorem cells42 : Try.prog.cellsOf 42 = 2 := by kernel_rfl
theorem cells23 : Try.prog.cellsOf 23 = 1 := by kernel_rfl

theorem open_entries {H : Type} {enc : TypeId × Value → H} {W : World} {base : Nat} {held : Bool} {a : Option Addr} {len cap : Nat} {d : DataW H} {p : List MemPlace}
    (h : DataW.Trod enc Try.prog W base (fun _ => true) held 22 (.slice a len cap) d p) : ∃ X Y, IsEntries W a len X Y := by
  obtain ⟨fuel, hf⟩ := h
  rcases Deep.open_slice_pairs Try.underlying22 Try.underlying42 cells42 rfl rfl cells23 cells23 hf with ⟨hcs, _⟩ | ⟨x, l, c, m, n, V0, V1, D0, D1, P0, P1, hcs, _, hl, hm, hmm, _, hx⟩
  · simp [Value.cells] at hcs
    obtain ⟨rfl, rfl, rfl⟩ := hcs
    exact ⟨fun _ => 0, fun _ => 0, Nat.zero_le _, fun _ hi => absurd hi (Nat.not_lt_zero _)⟩
  · simp [Value.cells] at hcs
    obtain ⟨rfl, rfl, rfl⟩ := hcs
    simp at hmm
    subst hmm
    refine ⟨fun i => intOf (V0 i), fun i => intOf (V1 i), by omega, fun i hi => ?_⟩
    obtain ⟨c0, c1, t0, t1⟩ := hx i (by omega)
    obtain ⟨y0, e0, _, f0⟩ := DataW.trod_int Try.underlying23 t0
    obtain ⟨y1, e1, _, f1⟩ := DataW.trod_int Try.underlying23 t1
    simp only [List.cons.injEq, and_true] at e0 e1
    obtain ⟨b, off, spot⟩ := x
    have hspot : spot = none := by simpa [Addr.add] using World.cell?_spot (hx 0 (by omega)).1
    subst hspot
    rw [WideShapes.add_plain] at c0 c1
    have g0 : intOf (V0 i) = y0 := by rw [e0]; rfl
    have g1 : intOf (V1 i) = y1 := by rw [e1]; rfl
    refine ⟨b, off, rfl, World.block_lt_of_cell? _ _ c1, ?_, ?_, ?_, ?_⟩
    · show _ = some (Value.int .u64 (intOf (V0 i)))
      rw [g0, ← e0]; exact c0
    · show _ = some (Value.int .u64 (intOf (V1 i)))
      rw [g1, ← e1]; exact c1
    · show (Lit.int .u64 (intOf (V0 i))).wf = true
      rw [g0]; exact f0
    · show (Lit.int .u64 (intOf (V1 i))).wf = true
      rw [g1]; exact f1
end Go.Proofs.Qxb6609016a
