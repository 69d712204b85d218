/-
  Seat b6603844a: words for what the walks read: a slice of 64-bit words, by an index function; how it carries over 'Below'; the plain words on bits.
-/
import Derived.Test.Qxb6603844aRows
import Derived.WalkKit
import Derived.WalkSpells
import Derived.WalkLawsBesides
import Derived.Deep.LoopGhost
import Derived.Deep.OwnRows
import Derived.Deep.QuietTactic
import Derived.BigQuiet
import Derived.BigRegion
import Derived.Lib.SliceRun
import Derived.Deep.AppendSrc
namespace Go.Proofs.Qxb6603844a
open Go.RowKit

theorem Try.info30 : (Try.prog.info? 30).map (fun i => (i.zero, i.size, i.bytes)) = some (some (.int .u64 0), 1, 8) := by kernel_rfl

theorem hide {p : Prop} (h : p) : Hid p := h

/-- The slice at address a (nil or not) of n words reads as f. -/
def WordsAt (w : World) (a : Option Addr) (n : Nat) (f : Nat → Nat) : Prop :=
  ∀ j, j < n → ∃ b off, a = some ⟨b, off, none⟩ ∧ w.cell? ⟨b, off + j, none⟩ = some (.int .u64 (f j : Int))

/-- Each is a word. -/
def Small (n : Nat) (f : Nat → Nat) : Prop := ∀ j, j < n → f j < 18446744073709551616

theorem WordsAt.below {w w' : World} {a : Option Addr} {n : Nat} {f : Nat → Nat} (h : WordsAt w a n f) (hb : Below w.heap.size w w') : WordsAt w' a n f := by
  intro j hj
  obtain ⟨b, off, ha, hc⟩ := h j hj
  exact ⟨b, off, ha, (hb.cell (p := ⟨b, off + j, none⟩) (World.block_lt_of_cell? _ _ hc)).trans hc⟩

theorem WordsAt.nil {w : World} {n : Nat} {f : Nat → Nat} (h : WordsAt w none n f) : n = 0 := by
  rcases Nat.eq_zero_or_pos n with e | e
  · exact e
  · obtain ⟨b, off, ha, _⟩ := h 0 e
    cases ha

theorem WordsAt.congr {w : World} {a : Option Addr} {n : Nat} {f g : Nat → Nat} (h : WordsAt w a n f) (e : ∀ j, j < n → f j = g j) : WordsAt w a n g := by
  intro j hj
  obtain ⟨b, off, ha, hc⟩ := h j hj
  exact ⟨b, off, ha, by rw [hc, e j hj]⟩

/-- Two 'Below's, each at its own world's size. -/
theorem below_step {a b c : World} (h : Below a.heap.size a b) (k : Below b.heap.size b c) : Below a.heap.size a c :=
  h.trans (k.mono h.size)

/-- Bit j of the n words f; none beyond them. -/
def bitAt (n : Nat) (f : Nat → Nat) (j : Nat) : Bool := decide (j / 64 < n) && (f (j / 64)).testBit (j % 64)

end Go.Proofs.Qxb6603844a
