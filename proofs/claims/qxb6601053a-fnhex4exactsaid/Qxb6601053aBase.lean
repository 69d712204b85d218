/-
  Seat b6601053a: words for what the walks read: a slice of bytes, by an index function; how it carries over 'Below'; the plain words on hexadecimal digits.
-/
import Derived.Test.Qxb6601053aRows
import Derived.WalkKit
import Derived.WalkSpells
import Derived.WalkLawsBesides
import Derived.Deep.LoopGhost
import Derived.Deep.OwnRows
import Derived.Lib.SliceRun
import Derived.Laws.CopyOwn
import Derived.PlainAid
namespace Go.Proofs.Qxb6601053a
open Go.RowKit

theorem Try.info5 : (Try.prog.info? 5).map (fun i => (i.zero, i.size, i.bytes)) = some (some (.int .u8 0), 1, 1) := by kernel_rfl

theorem hide {p : Prop} (h : p) : Hid p := h

/-- The slice at address a (nil or not) of n bytes reads as f. -/
def BytesAt (w : World) (a : Option Addr) (n : Nat) (f : Nat → Nat) : Prop :=
  ∀ j, j < n → ∃ b off, a = some ⟨b, off, none⟩ ∧ w.cell? ⟨b, off + j, none⟩ = some (.int .u8 (f j : Int))

/-- Each is a byte. -/
def Small (n : Nat) (f : Nat → Nat) : Prop := ∀ j, j < n → f j < 256

theorem BytesAt.below {w w' : World} {a : Option Addr} {n : Nat} {f : Nat → Nat} (h : BytesAt w a n f) (hb : Below w.heap.size w w') : BytesAt w' a n f := by
  intro j hj
  obtain ⟨b, off, ha, hc⟩ := h j hj
  exact ⟨b, off, ha, (hb.cell (p := ⟨b, off + j, none⟩) (World.block_lt_of_cell? _ _ hc)).trans hc⟩

theorem BytesAt.nil {w : World} {n : Nat} {f : Nat → Nat} (h : BytesAt w none n f) : n = 0 := by
  rcases Nat.eq_zero_or_pos n with e | e
  · exact e
  · obtain ⟨b, off, ha, _⟩ := h 0 e
    cases ha

/-- Two 'Below's, each at its own world's size. -/
theorem below_step {a b c : World} (h : Below a.heap.size a b) (k : Below b.heap.size b c) : Below a.heap.size a c :=
  h.trans (k.mono h.size)

/-- The value of a hexadecimal digit. -/
def hexv (c : Nat) : Option Nat :=
  if 48 ≤ c ∧ c ≤ 57 then some (c - 48) else if 97 ≤ c ∧ c ≤ 102 then some (c - 87) else if 65 ≤ c ∧ c ≤ 70 then some (c - 55) else none

theorem hexv_lt {c h : Nat} (e : hexv c = some h) : h < 16 := by
  unfold hexv at e
  split at e
  · cases e; omega
  · split at e
    · cases e; omega
    · split at e
      · cases e; omega
      · cases e

/-- The value of the first k digits from o on. -/
def hexs (f : Nat → Nat) (o : Nat) : Nat → Option Nat
  | 0 => some 0
  | k + 1 => (hexs f o k).bind fun r => (hexv (f (o + k))).map fun h => r * 16 + h

theorem hexs_no {f : Nat → Nat} {o k : Nat} (h : hexv (f (o + k)) = none) : hexs f o (k + 1) = none := by
  show (hexs f o k).bind _ = none
  rw [h]
  cases hexs f o k <;> rfl

theorem hexs_yes {f : Nat → Nat} {o k r d : Nat} (hr : hexs f o k = some r) (h : hexv (f (o + k)) = some d) : hexs f o (k + 1) = some (r * 16 + d) := by
  show (hexs f o k).bind _ = _
  rw [hr, h]; rfl

theorem hexs_stay {f : Nat → Nat} {o k : Nat} (h : hexs f o k = none) : ∀ j, k ≤ j → hexs f o j = none := by
  intro j hj
  induction j with
  | zero => obtain rfl : k = 0 := by omega
            exact h
  | succ j ih =>
    by_cases e : k = j + 1
    · subst e; exact h
    · show (hexs f o j).bind _ = none
      rw [ih (by omega)]; rfl

theorem hexs_lt {f : Nat → Nat} {o : Nat} : ∀ {k r : Nat}, hexs f o k = some r → r < 16 ^ k := by
  intro k
  induction k with
  | zero => intro r h; cases h; decide
  | succ k ih =>
    intro r h
    have h' : (hexs f o k).bind (fun r => (hexv (f (o + k))).map fun h => r * 16 + h) = some r := h
    cases e : hexs f o k with
    | none => rw [e] at h'; cases h'
    | some q =>
      rw [e] at h'
      cases e2 : hexv (f (o + k)) with
      | none => rw [e2] at h'; cases h'
      | some d =>
        rw [e2] at h'
        cases h'
        have := ih e
        have := hexv_lt e2
        rw [Nat.pow_succ]
        show q * 16 + d < 16 ^ k * 16
        omega

/-- What hex4 answers. -/
def hex4 (f : Nat → Nat) (n a : Nat) : Option Nat := if a + 6 ≤ n ∧ f a = 92 ∧ f (a + 1) = 117 then hexs f (a + 2) 4 else none

end Go.Proofs.Qxb6601053a
