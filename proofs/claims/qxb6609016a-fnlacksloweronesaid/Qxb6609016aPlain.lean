/-
  THE PLAIN LAWS OF THIS SEAT: no Go text in sight. 'afterB': what CountAfter answers; 'seqAt': the number a map as read bears at a key; 'Lacks': what 'lacks' looks for.
-/
import Derived.Maps.Ext
import Derived.OpenShut
import Derived.Laws.Bits64
namespace Go.Proofs.Qxb6609016a
open Go.Maps

def afterB (a b : Int) : Bool := if a = 0 then false else if b = 0 then true else (a != b && decide (IntKind.u64.wrap (a - b) < 9223372036854775808))

theorem after_zero (b : Int) : afterB 0 b = false := by simp [afterB]
theorem after_none {a : Int} (h : a ≠ 0) : afterB a 0 = true := by simp [afterB, h]
theorem after_self (a : Int) : afterB a a = false := by
  simp [afterB]
theorem after_else {a b : Int} (h : a ≠ 0) (h' : b ≠ 0) : afterB a b = (a != b && decide (IntKind.u64.wrap (a - b) < 9223372036854775808)) := by simp [afterB, h, h']

theorem wrap_zero {a b : Int} (ha : (Lit.int .u64 a).wf = true) (hb : (Lit.int .u64 b).wf = true) : (IntKind.u64.wrap (a - b) != 0) = (a != b) := by
  have h1 := bounds_u64 ha
  have h2 := bounds_u64 hb
  rw [IntKind.wrap_u64, Bool.eq_iff_iff]
  simp only [bne_iff_ne, ne_eq]
  omega

section
variable {H : Type}

/-- the key of number x -/
def key (x : Int) : Lit := .int .u64 x
/-- the number of a datum -/
def num : DataW H → Int
  | .lit (.int _ c) => c
  | _ => 0
/-- the element of number c -/
def elem (c : Int) : DataW H := .lit (.int .u64 c)
/-- WHAT STANDS AT KEY x, nought where nothing does. -/
def seqAt (D : DataW H) (x : Int) : Int := num (D.atKey (key x) (elem 0))
/-- 'O holds something that comes after what L holds at that key' -/
def Lacks (L O : DataW H) : Prop := ∃ x, Maps.has O (key x) = true ∧ afterB (seqAt O x) (seqAt L x) = true

theorem key_ne {x y : Int} (h : x ≠ y) : key x ≠ key y := by
  intro e
  simp [key] at e
  exact h e
theorem isKey (x : Int) : WideAt.IsKeyLit (key x) := trivial

theorem seqAt_put_same {D : DataW H} (hD : IsMap D) (k c : Int) : seqAt (D.put (key k) (elem c)) k = c := by
  unfold seqAt
  rw [atKey_put_same hD (isKey k)]
  rfl
theorem seqAt_put_other {D : DataW H} {x k : Int} (h : x ≠ k) (c : Int) : seqAt (D.put (key k) (elem c)) x = seqAt D x := by
  unfold seqAt
  rw [atKey_put_other (key_ne h)]
theorem seqAt_del_other {D : DataW H} {x k : Int} (h : x ≠ k) : seqAt (D.del (key k)) x = seqAt D x := by
  unfold seqAt
  rw [atKey_del_other (key_ne h)]

/-- PUTTING k:v INTO O. -/
theorem lacks_insert (L : DataW H) {O : DataW H} (hO : IsMap O) (k v : Int) : Lacks L (O.put (key k) (elem v)) ↔ (Lacks L (O.del (key k)) ∨ afterB v (seqAt L k) = true) := by
  constructor
  · rintro ⟨x, hx, hc⟩
    by_cases h : x = k
    · subst h
      rw [seqAt_put_same hO] at hc
      exact .inr hc
    · rw [seqAt_put_other h] at hc
      rw [has_put_other (key_ne h)] at hx
      exact .inl ⟨x, by rw [has_del_other (key_ne h)]; exact hx, by rw [seqAt_del_other h]; exact hc⟩
  · rintro (⟨x, hx, hc⟩ | hc)
    · by_cases h : x = k
      · subst h
        rw [has_del_same] at hx
        cases hx
      · rw [has_del_other (key_ne h)] at hx
        rw [seqAt_del_other h] at hc
        exact ⟨x, by rw [has_put_other (key_ne h)]; exact hx, by rw [seqAt_put_other h]; exact hc⟩
    · exact ⟨k, has_put_same hO (isKey k) _, by rw [seqAt_put_same hO]; exact hc⟩

/-- A STATE LACKS NOTHING OF ITSELF. -/
theorem lacks_self (O : DataW H) : ¬ Lacks O O := by
  rintro ⟨x, _, hc⟩
  rw [after_self] at hc
  cases hc

/-- A STATE THAT DIFFERS FROM O AT k ALONE. -/
theorem lacks_lower {O : DataW H} (hO : IsMap O) (k v : Int) : Lacks (O.put (key k) (elem v)) O ↔ (Maps.has O (key k) = true ∧ afterB (seqAt O k) v = true) := by
  constructor
  · rintro ⟨x, hx, hc⟩
    by_cases h : x = k
    · subst h
      rw [seqAt_put_same hO] at hc
      exact ⟨hx, hc⟩
    · rw [seqAt_put_other h, after_self] at hc
      cases hc
  · rintro ⟨hx, hc⟩
    exact ⟨k, hx, by rw [seqAt_put_same hO]; exact hc⟩

/-- THE MAP OF A LIST OF ENTRIES, after n rounds: the ids X, the counts Y. -/
def entriesTo (X Y : Nat → Int) : Nat → DataW H
  | 0 => .map []
  | n + 1 => (entriesTo X Y n).put (key (X n)) (elem (Y n))
theorem entriesTo_isMap (X Y : Nat → Int) : ∀ n, IsMap (entriesTo (H := H) X Y n)
  | 0 => isMap_empty
  | n + 1 => (entriesTo_isMap X Y n).put _ _

end
end Go.Proofs.Qxb6609016a
