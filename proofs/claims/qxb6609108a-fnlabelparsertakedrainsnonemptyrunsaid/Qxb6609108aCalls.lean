/-
  THE WALKS OF THIS SEAT's CALLEES: peek (12), take (13), their shims, the parser's maker (7), the copy of a slice of strings (6).
-/
import Derived.Test.Qxb6609108aRows
import Derived.Test.Qxb6609108aPlain
import Derived.WalkKit
import Derived.ProofKit
import Derived.BigQuiet
import Derived.Deep.QuietTactic
import Derived.Deep.OwnRows
import Derived.WalkSmall
import Derived.WalkSpells
namespace Go.Proofs.Qxb6609108a
open Go.RowKit

/-- WHAT A WALK IS TOLD OF A SLICE OF STRINGS. -/
def IsStrs (w : World) (a : Option Addr) (len : Nat) (T : Nat → ByteArray) : Prop :=
  len ≤ maxLen ∧ ∀ i, i < len → ∃ b off, a = some ⟨b, off, none⟩ ∧ b < w.heap.size ∧ w.cell? ⟨b, off + i, none⟩ = some (.string (T i)) ∧ (T i).size ≤ maxLen
theorem IsStrs.below {w w' : World} {a : Option Addr} {len : Nat} {T : Nat → ByteArray} (h : IsStrs w a len T) (hb : Below w.heap.size w w') : IsStrs w' a len T := by
  refine ⟨h.1, fun i hi => ?_⟩
  obtain ⟨b, off, e, hlt, c0, f0⟩ := h.2 i hi
  exact ⟨b, off, e, Nat.lt_of_lt_of_le hlt hb.size, (hb.cell (by exact hlt)).trans c0, f0⟩

/-- A PARSER IN BLOCK p: its tokens, its position. -/
structure Par (w : World) (p : Nat) (a : Option Addr) (len cap : Nat) (n : Int) : Prop where
  c0 : w.cell? ⟨p, 0, none⟩ = some (.slice a len cap)
  c1 : w.cell? ⟨p, 1, none⟩ = some (.int .i64 n)
  f1 : w.frozen? ⟨p, 1, none⟩ = false

theorem newParser_any (a : Option Addr) (len cap : Nat) (n : Int) (w : World) : Calls Try.prog 7 #[.slice a len cap, .int .i64 n] w fun e w' => e = .returned (.pointer (some ⟨w.heap.size, 0, none⟩)) ∧ w' = w.alloc (.cells #[.slice a len cap, .int .i64 n] 31) := by
  go_enter Try.func7, Try.ntmps7
  go_wp2
  go_ret
  exact ⟨rfl, rfl⟩

theorem next_any (p : Nat) (a : Option Addr) (len cap : Nat) (n : Int) (w : World) (hp : Par w p a len cap n) : Calls Try.prog 10 #[.pointer (some ⟨p, 0, none⟩)] w fun e w' => e = .returned (.int .i64 n) ∧ w = w' := by
  obtain ⟨c0, c1, f1⟩ := hp
  go_enter Try.func10, Try.ntmps10
  go_wp2
  go_ret
  exact ⟨rfl, rfl⟩

theorem grown_drewN (w : World) (q : Nat) (row : Option Nat) : w.grownBy (w.drewN q) row := ⟨rfl, rfl, rfl, Nat.le_refl _, fun _ _ _ => rfl⟩
theorem grown_set (w : World) (p i : Nat) (v : Value) (q : Nat) : w.grownBy ((w.drewN q).setCell ⟨p, i, none⟩ v) (some p) :=
  ⟨rfl, rfl, rfl, by simp [World.setCell, World.drewN], fun k _ h => Below.heap_setCell (w.drewN q) ⟨p, i, none⟩ v k (fun e => h (by rw [e]))⟩
theorem Par.lt {w : World} {p : Nat} {a : Option Addr} {len cap : Nat} {n : Int} (h : Par w p a len cap n) : p < w.heap.size := World.block_lt_of_cell? _ _ h.c0
theorem Par.drewN {w : World} {p : Nat} {a : Option Addr} {len cap : Nat} {n : Int} (h : Par w p a len cap n) (q : Nat) : Par (w.drewN q) p a len cap n := ⟨h.c0, h.c1, h.f1⟩
theorem Par.set {w : World} {p : Nat} {a : Option Addr} {len cap : Nat} {n : Int} (h : Par w p a len cap n) (m : Int) (q : Nat) : Par ((w.drewN q).setCell ⟨p, 1, none⟩ (.int .i64 m)) p a len cap m := by
  refine ⟨?_, World.cell?_setCell_same _ _ _ h.c1, ?_⟩
  · rw [World.cell?_setCell_other _ _ _ _ (by intro e; injection e with _ e2 _; cases e2)]; exact h.c0
  · rw [World.frozen?_setCell]; exact h.f1
theorem Par.kept {w w' : World} {p : Nat} {a : Option Addr} {len cap : Nat} {n : Int} {row : Option Nat} (h : Par w p a len cap n) (hg : w.grownBy w' row) (hne : some p ≠ row) : Par w' p a len cap n := by
  have hb := hg.block p h.lt hne
  exact ⟨(World.cell?_of_block (w := w) hb).trans h.c0, (World.cell?_of_block (w := w) hb).trans h.c1, (World.frozen?_of_block (w := w) hb).trans h.f1⟩

theorem peek_end (p : Nat) (a : Option Addr) (len cap : Nat) (w : World) (hp : Par w p a len cap len) : Calls Try.prog 12 #[.pointer (some ⟨p, 0, none⟩)] w fun e w' => e = .returned (.string E) ∧ ∃ q, w' = w.drewN q := by
  obtain ⟨c0, c1, f1⟩ := hp
  go_enter Try.func12, Try.ntmps12
  go_wp2
  go_quiet (fail)
  go_wp2
  go_ret
  exact ⟨rfl, _, rfl⟩

theorem peek_mid (p : Nat) (a : Option Addr) (len cap n : Nat) (T : Nat → ByteArray) (w : World) (hp : Par w p a len cap n) (hs : IsStrs w a len T) (hn : n < len) : Calls Try.prog 12 #[.pointer (some ⟨p, 0, none⟩)] w fun e w' => e = .returned (.string (T n)) ∧ ∃ q, w' = w.drewN q := by
  obtain ⟨c0, c1, f1⟩ := hp
  obtain ⟨b, off, rfl, hb, hc, _⟩ := hs.2 n hn
  clear hs
  have hne : ((n : Int) == (len : Int)) = false := by simp; omega
  have i0 : (0 : Int) ≤ (n : Int) := by omega
  have i1 : (n : Int) < (len : Int) := by omega
  go_enter Try.func12, Try.ntmps12
  go_wp2
  go_quiet (fail)
  go_wp2
  go_quiet (fail)
  go_wp2
  go_ret
  exact ⟨rfl, _, World.drewN_drewN _ _ _⟩

/-- PEEK, at every position. -/
theorem peek_any (p : Nat) (a : Option Addr) (len cap n : Nat) (T : Nat → ByteArray) (w : World) (hp : Par w p a len cap n) (hs : IsStrs w a len T) (hn : n ≤ len) : Calls Try.prog 12 #[.pointer (some ⟨p, 0, none⟩)] w fun e w' => e = .returned (.string (tokAt T len n)) ∧ ∃ q, w' = w.drewN q := by
  by_cases h : n < len
  · rw [tok_lt h]
    exact peek_mid p a len cap n T w hp hs h
  · obtain rfl : n = len := by omega
    rw [tok_end]
    exact peek_end p a n cap w hp

/-- TAKE, at every position. -/
theorem take_any (p : Nat) (a : Option Addr) (len cap n : Nat) (T : Nat → ByteArray) (w : World) (hp : Par w p a len cap n) (hs : IsStrs w a len T) (hn : n ≤ len) (hl : len ≤ 1048576) :
    Calls Try.prog 13 #[.pointer (some ⟨p, 0, none⟩)] w fun e w' => e = .returned (.string (tokAt T len n)) ∧ Par w' p a len cap (nxt T len n : Nat) ∧ w.grownBy w' (some p) := by
  have HP : Hid (Par w p a len cap n) := hp
  by_cases h : n < len ∧ (T n).toList.isEmpty = false
  · have HX : Hid (nxt T len n = n + 1) := nxt_go h.1 h.2
    have hb : (!(T n).toList.isEmpty) = true := by simp [h.2]
    have c1 := hp.c1
    have f1 := hp.f1
    have hpk := fun w' hp' hs' => peek_mid p a len cap n T w' hp' hs' h.1
    have HK := hpk w hp hs
    rw [tok_lt h.1]
    clear hs hpk hp
    obtain ⟨h1, h2⟩ := h
    go_enter Try.func13, Try.ntmps13
    go_wp2_with fail
    refine HK.mono ?_
    rintro e w1 ⟨rfl, q, rfl⟩
    clear HK h2
    go_wp2
    go_ret
    refine ⟨rfl, ?_, grown_set _ _ _ _ _⟩
    rw [HX.out]
    exact HP.out.set _ _
  · have HX : Hid (nxt T len n = n) := by show nxt T len n = n; unfold nxt; rw [if_neg h]
    have ht : tokAt T len n = E := by
      by_cases h1 : n < len
      · rw [tok_lt h1]
        exact empty_eq (by cases e : (T n).toList.isEmpty; (· exact absurd ⟨h1, e⟩ h); rfl)
      · simp [tokAt, h1]
    have HK := peek_any p a len cap n T w hp hs hn
    rw [ht] at HK ⊢
    have hb : (!E.toList.isEmpty) = false := by rw [empty_E]; rfl
    clear hs h ht hp
    go_enter Try.func13, Try.ntmps13
    go_wp2_with fail
    refine HK.mono ?_
    rintro e w1 ⟨rfl, q, rfl⟩
    clear HK
    go_wp2
    go_ret
    refine ⟨rfl, ?_, grown_drewN _ _ _⟩
    rw [HX.out]
    exact HP.out.drewN _

/-- ZZPeek (8). -/
theorem zzPeek_any (p : Nat) (a : Option Addr) (len cap n : Nat) (T : Nat → ByteArray) (w : World) (hp : Par w p a len cap n) (hs : IsStrs w a len T) (hn : n ≤ len) : Calls Try.prog 8 #[.pointer (some ⟨p, 0, none⟩)] w fun e w' => e = .returned (.string (tokAt T len n)) ∧ ∃ q, w' = w.drewN q := by
  have HK := peek_any p a len cap n T w hp hs hn
  clear hp hs
  go_enter Try.func8, Try.ntmps8
  go_wp2_with fail
  refine HK.mono ?_
  rintro e w1 ⟨rfl, q, rfl⟩
  clear HK
  go_wp2
  go_ret
  exact ⟨rfl, _, rfl⟩

/-- ZZTake (9). -/
theorem zzTake_any (p : Nat) (a : Option Addr) (len cap n : Nat) (T : Nat → ByteArray) (w : World) (hp : Par w p a len cap n) (hs : IsStrs w a len T) (hn : n ≤ len) (hl : len ≤ 1048576) :
    Calls Try.prog 9 #[.pointer (some ⟨p, 0, none⟩)] w fun e w' => e = .returned (.string (tokAt T len n)) ∧ Par w' p a len cap (nxt T len n : Nat) ∧ w.grownBy w' (some p) := by
  have HK := take_any p a len cap n T w hp hs hn hl
  clear hp hs
  go_enter Try.func9, Try.ntmps9
  go_wp2_with fail
  refine HK.mono ?_
  rintro e w1 ⟨rfl, hp1, hg1⟩
  have HP1 : Hid (Par w1 p a len cap (nxt T len n : Nat)) := hp1
  clear HK hp1
  go_wp2
  go_ret
  exact ⟨rfl, HP1.out, hg1⟩

theorem info9 : (Try.prog.info? 9).map (fun i => (i.zero, i.size, i.bytes)) = some (some (.string ⟨#[]⟩), 1, 16) := by kernel_rfl

/-- the copy's cells after k rounds -/
def rowTo (T : Nat → ByteArray) (k : Nat) (i : Nat) : Value := if i < k then .string (T i) else .string ⟨#[]⟩
theorem rowTo_succ (T : Nat → ByteArray) (k i : Nat) : (if i = k then Value.string (T k) else rowTo T k i) = rowTo T (k + 1) i := by
  unfold rowTo
  by_cases h : i = k
  · subst h; simp
  · rw [if_neg h]
    by_cases h2 : i < k
    · rw [if_pos h2, if_pos (by omega)]
    · rw [if_neg h2, if_neg (by omega)]

/-- WHAT A COPY LEAVES: a slice that reads as T, in memory of its own or nil. -/
def Copied (e : Ending) (w w' : World) (len : Nat) (T : Nat → ByteArray) : Prop := ∃ a cap, e = .returned (.slice a len cap) ∧ (a = none → len = 0) ∧ IsStrs w' a len T ∧ Below w.heap.size w w'

set_option maxRecDepth 100000 in
set_option maxHeartbeats 400000 in
theorem clone_any (a : Option Addr) (len cap : Nat) (T : Nat → ByteArray) (w : World) (hs : IsStrs w a len T) (h0 : a = none → len = 0) (hl : len ≤ 1048576) :
    Calls Try.prog 6 #[.slice a len cap] w fun e w' => Copied e w w' len T := by
  have q22 := fun (w : World) (a : Option Addr) (n c n' c' : Nat) => Lib.run_eql_slice_nil (P := Try.prog) w 22 9 a n c n' c' Try.underlying22
  have HS : Hid (IsStrs w a len T) := hs
  clear hs
  cases a with
  | none =>
    obtain rfl := h0 rfl
    go_enter Try.func6, Try.ntmps6
    go_wp2
    go_ret
    exact ⟨none, 0, rfl, fun _ => rfl, HS.out, Below.refl _ _⟩
  | some x =>
    clear h0
    have hmk := fun w => run_make_row' (P := Try.prog) 22 9 (.string ⟨#[]⟩) 16 Try.underlying22 info9 rfl .i64 .i64 len (by omega) (by omega) w
    go_enter Try.func6, Try.ntmps6
    go_wp2
    clear hmk q22
    go_loopw [4] (fun i wr => ∃ k : Nat, k ≤ len ∧ i = .int .i64 k ∧ wr.rowIs w.heap.size 9 len (rowTo T k) ∧ Below w.heap.size w wr) (fun i _ => len - (intOf i).toNat)
    case atStart => exact ⟨0, Nat.zero_le _, rfl, (World.rowIs_made w _ len 9).congr (fun i _ => rfl), (Below.refl _ _).alloc (Nat.le_refl _) _⟩
    case round =>
      obtain ⟨k, hk, rfl, hrow, hnx⟩ := hrel
      by_cases hlt : k < len
      · obtain ⟨b, off, hx, hb, hc, _⟩ := HS.out.2 k hlt
        obtain rfl : x = ⟨b, off, none⟩ := Option.some.inj hx
        have c0 : wr.cell? ⟨b, off + k, none⟩ = some (.string (T k)) := (hnx.cell (by exact hb)).trans hc
        obtain ⟨v0, hv0⟩ : ∃ v, wr.cell? ⟨w.heap.size, k, none⟩ = some v := ⟨_, hrow.cell hlt⟩
        have hf0 := hrow.frozen k
        have HROW : Hid (wr.rowIs w.heap.size 9 len (rowTo T k)) := hrow
        clear hrow hc hx
        go_wp2
        go_roundw
        case rel => exact ⟨k + 1, by omega, by go_num, (HROW.out.set k _).congr (fun i hi => rowTo_succ T k i), hnx.setCell (by exact Nat.le_refl _) _⟩
        case measure => simp [intOf]; omega
      · obtain rfl : len = k := by omega
        have HROW : Hid (wr.rowIs w.heap.size 9 len (rowTo T len)) := hrow
        clear hrow
        go_wp2
        go_ret
        refine ⟨_, _, rfl, (fun h => by cases h), ⟨HS.out.1, fun i hi => ⟨w.heap.size, 0, rfl, HROW.out.lt, ?_, ?_⟩⟩, hnx⟩
        · rw [Nat.zero_add, HROW.out.cell hi]
          simp [rowTo, hi]
        · obtain ⟨_, _, _, _, _, hsz⟩ := HS.out.2 i hi
          exact hsz
end Go.Proofs.Qxb6609108a
