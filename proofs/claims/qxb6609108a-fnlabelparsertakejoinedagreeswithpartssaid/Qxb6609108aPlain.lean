/-
  THE PLAIN LAWS OF THIS SEAT: no Go text in sight.
-/
import Derived.Laws.Strings
namespace Go.Proofs.Qxb6609108a
open Go

/-- the empty string -/
def E : ByteArray := ⟨#[]⟩
theorem empty_eq {s : ByteArray} (h : s.toList.isEmpty = true) : s = E := by
  rw [ByteArray.toList_eq] at h
  obtain ⟨⟨l⟩⟩ := s
  simp at h
  subst h
  rfl
theorem empty_E : E.toList.isEmpty = true := by rw [ByteArray.toList_eq]; rfl

/-- what stands at position n -/
def tokAt (T : Nat → ByteArray) (len n : Nat) : ByteArray := if n < len then T n else E
/-- the position behind a take -/
def nxt (T : Nat → ByteArray) (len n : Nat) : Nat := if n < len ∧ (T n).toList.isEmpty = false then n + 1 else n

theorem tok_lt {T : Nat → ByteArray} {len n : Nat} (h : n < len) : tokAt T len n = T n := by simp [tokAt, h]
theorem tok_end {T : Nat → ByteArray} {len : Nat} : tokAt T len len = E := by simp [tokAt]
theorem nxt_go {T : Nat → ByteArray} {len n : Nat} (h : n < len) (he : (T n).toList.isEmpty = false) : nxt T len n = n + 1 := by simp [nxt, h, he]
theorem nxt_end {T : Nat → ByteArray} {len : Nat} : nxt T len len = len := by simp [nxt]
theorem nxt_empty {T : Nat → ByteArray} {len n : Nat} (he : (T n).toList.isEmpty = true) : nxt T len n = n := by simp [nxt, he]
theorem nxt_le {T : Nat → ByteArray} {len n : Nat} (h : n ≤ len) : nxt T len n ≤ len := by unfold nxt; split <;> omega

/-- j IS THE END OF THE RUN OF NON-EMPTY TOKENS THAT STARTS AT n. -/
structure RunEnd (T : Nat → ByteArray) (len n j : Nat) : Prop where
  lo : n ≤ j
  hi : j ≤ len
  mid : ∀ m, n ≤ m → m < j → (T m).toList.isEmpty = false
  stop : j = len ∨ (T j).toList.isEmpty = true

/-- the position after k takes -/
def posAt (n j k : Nat) : Nat := if n + k < j then n + k else j
section
variable {T : Nat → ByteArray} {len n j k : Nat}
theorem pos_zero (h : n ≤ j) : posAt n j 0 = n := by unfold posAt; split <;> omega
theorem pos_le (h : RunEnd T len n j) : posAt n j k ≤ len := by have := h.hi; unfold posAt; split <;> omega
theorem pos_go (h : n + k < j) : posAt n j k = n + k := by simp [posAt, h]
theorem pos_stop (h : ¬ n + k < j) : posAt n j k = j := by simp [posAt, h]
theorem tok_go (h : RunEnd T len n j) (hk : n + k < j) : tokAt T len (posAt n j k) = T (n + k) := by
  have := h.hi
  rw [pos_go hk, tok_lt (by omega)]
theorem tok_stop (h : RunEnd T len n j) (hk : ¬ n + k < j) : tokAt T len (posAt n j k) = E := by
  rw [pos_stop hk]
  rcases h.stop with e | e
  · rw [e]; exact tok_end
  · by_cases hl : j < len
    · rw [tok_lt hl]; exact empty_eq e
    · simp [tokAt, hl]
theorem nxt_pos_go (h : RunEnd T len n j) (hk : n + k < j) : nxt T len (posAt n j k) = n + k + 1 := by
  have := h.hi
  rw [pos_go hk, nxt_go (by omega) (h.mid _ (by omega) hk)]
theorem nxt_pos_stop (h : RunEnd T len n j) (hk : ¬ n + k < j) : nxt T len (posAt n j k) = j := by
  rw [pos_stop hk]
  rcases h.stop with e | e
  · rw [e]; exact nxt_end
  · exact nxt_empty e
theorem pos_succ_go (hk : n + k < j) : posAt n j (k + 1) = n + k + 1 := by unfold posAt; split <;> omega
theorem pos_succ_stop (hk : ¬ n + k < j) : posAt n j (k + 1) = j := by unfold posAt; split <;> omega
end

/-! ### two lists joined -/
/-- the first la of A, then B -/
def join (A B : Nat → ByteArray) (la : Nat) (m : Nat) : ByteArray := if m < la then A m else B (m - la)
section
variable {A B : Nat → ByteArray} {la lb n : Nat}
theorem join_left (h : n < la) : join A B la n = A n := by simp [join, h]
theorem join_right : join A B la (la + n) = B n := by
  unfold join
  rw [if_neg (by omega), Nat.add_sub_cancel_left]
theorem tok_join_left (h : n < la) : tokAt (join A B la) (la + lb) n = A n := by rw [tok_lt (by omega), join_left h]
theorem nxt_join_left (h : n < la) (he : (A n).toList.isEmpty = false) : nxt (join A B la) (la + lb) n = n + 1 := nxt_go (by omega) (by rw [join_left h]; exact he)
theorem tok_join_right : tokAt (join A B la) (la + lb) (la + n) = tokAt B lb n := by
  unfold tokAt
  by_cases h : n < lb
  · rw [if_pos (by omega), if_pos h, join_right]
  · rw [if_neg (by omega), if_neg h]
theorem nxt_join_right : nxt (join A B la) (la + lb) (la + n) = la + nxt B lb n := by
  unfold nxt
  rw [join_right]
  by_cases h : n < lb ∧ (B n).toList.isEmpty = false
  · rw [if_pos h, if_pos ⟨by omega, h.2⟩]; omega
  · rw [if_neg h, if_neg (fun e => h ⟨by omega, e.2⟩)]
end
end Go.Proofs.Qxb6609108a
