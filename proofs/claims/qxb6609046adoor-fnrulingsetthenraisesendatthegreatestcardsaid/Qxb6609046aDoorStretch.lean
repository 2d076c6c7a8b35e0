/-
  SMALL FACTS FOR THE LAW's WALK, AND THE STRETCHES OF A BODY.
-/
import Derived.Test.Qxb6609046aDoorSteps
namespace Go.Proofs.Qxb6609046aDoor
open Go.RowKit

/-- what is left of a body behind its first statements -/
def dropSeq : Nat → Code → Code
  | 0, c => c
  | k + 1, .seq _ b => dropSeq k b
  | _ + 1, c => c

theorem bel_alloc' {a w : World} {B : Nat} (hl : B ≤ a.heap.size) (h : Below B a w) (o : Obj) : Below B a (w.alloc o) := h.alloc (by have := h.size; omega) o
theorem keep_drew {X : World} {a : Addr} {v : Value} (h : X.cell? a = some v) : X.drew.cell? a = some v := h
theorem kind_cell (X : World) (id : ByteArray) (d1 d2 d3 d4 : Value) : (X.alloc (.cells #[.string id, d1, d2, d3, d4] 49)).cell? ⟨X.heap.size, 0, none⟩ = some (.string id) := by
  rw [World.cell?_alloc_at _ _ _ _ rfl]; rfl
theorem made_rul (w : World) (l : Int) (t1 t2 : ByteArray) (m : Value) : Rul (w.alloc (.cells #[.int .i64 l, .string t1, .string t2, .pointer none, .slice none 0 0, .slice none 0 0, .int .i64 0, m] 31)) w.heap.size l t1 t2 (.pointer none) 0 := by
  constructor <;> simp
end Go.Proofs.Qxb6609046aDoor
