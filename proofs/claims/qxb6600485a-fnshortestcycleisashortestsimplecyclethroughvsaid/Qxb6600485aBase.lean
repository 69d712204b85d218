/-
  Seat b6600485a: words for what the walks read: a slice of ints, a slice of such slices, by index functions; how they carry over 'Below'.
-/
import Derived.Test.Qxb6600485aRows
import Derived.WalkKit
import Derived.WalkSpells
import Derived.WalkLawsBesides
import Derived.Deep.LoopGhost
import Derived.Deep.OwnRows
import Derived.Deep.QuietTactic
import Derived.BigQuiet
import Derived.BigRegion
import Derived.Lib.SliceRun
namespace Go.Proofs.Qxb6600485a
open Go.RowKit

theorem Try.info3 : (Try.prog.info? 3).map (fun i => (i.zero, i.size, i.bytes)) = some (some (.int .i64 0), 1, 8) := by kernel_rfl
theorem Try.info22 : (Try.prog.info? 22).map (fun i => (i.zero, i.size, i.bytes)) = some (some (.slice none 0 0), 1, 24) := by kernel_rfl

theorem hide {p : Prop} (h : p) : Hid p := h

/-- The slice at address a (nil or not) of n ints reads as f. -/
def IntsAt (w : World) (a : Option Addr) (n : Nat) (f : Nat → Int) : Prop :=
  ∀ j, j < n → ∃ b off, a = some ⟨b, off, none⟩ ∧ w.cell? ⟨b, off + j, none⟩ = some (.int .i64 (f j))

/-- The slice at address a of n rows; row i has L i ints, E i. -/
def RowsAt (w : World) (a : Option Addr) (n : Nat) (L : Nat → Nat) (E : Nat → Nat → Int) : Prop :=
  ∀ i, i < n → ∃ b off a' c', a = some ⟨b, off, none⟩ ∧ w.cell? ⟨b, off + i, none⟩ = some (.slice a' (L i) c') ∧ IntsAt w a' (L i) (E i)

theorem IntsAt.below {w w' : World} {a : Option Addr} {n : Nat} {f : Nat → Int} (h : IntsAt w a n f) (hb : Below w.heap.size w w') : IntsAt w' a n f := by
  intro j hj
  obtain ⟨b, off, ha, hc⟩ := h j hj
  exact ⟨b, off, ha, (hb.cell (p := ⟨b, off + j, none⟩) (World.block_lt_of_cell? _ _ hc)).trans hc⟩

theorem RowsAt.below {w w' : World} {a : Option Addr} {n : Nat} {L : Nat → Nat} {E : Nat → Nat → Int} (h : RowsAt w a n L E) (hb : Below w.heap.size w w') : RowsAt w' a n L E := by
  intro i hi
  obtain ⟨b, off, a', c', ha, hc, hr⟩ := h i hi
  exact ⟨b, off, a', c', ha, (hb.cell (p := ⟨b, off + i, none⟩) (World.block_lt_of_cell? _ _ hc)).trans hc, hr.below hb⟩

theorem IntsAt.nil {w : World} {n : Nat} {f : Nat → Int} (h : IntsAt w none n f) : n = 0 := by
  rcases Nat.eq_zero_or_pos n with e | e
  · exact e
  · obtain ⟨b, off, ha, _⟩ := h 0 e
    cases ha

theorem RowsAt.nil {w : World} {n : Nat} {L : Nat → Nat} {E : Nat → Nat → Int} (h : RowsAt w none n L E) : n = 0 := by
  rcases Nat.eq_zero_or_pos n with e | e
  · exact e
  · obtain ⟨b, off, a', c', ha, _⟩ := h 0 e
    cases ha

theorem IntsAt.congr {w : World} {a : Option Addr} {n : Nat} {f g : Nat → Int} (h : IntsAt w a n f) (e : ∀ j, j < n → f j = g j) : IntsAt w a n g := by
  intro j hj
  obtain ⟨b, off, ha, hc⟩ := h j hj
  exact ⟨b, off, ha, by rw [hc, e j hj]⟩

/-- The same, in blocks from B on. -/
def IntsFrom (B : Nat) (w : World) (a : Option Addr) (n : Nat) (f : Nat → Int) : Prop :=
  ∀ j, j < n → ∃ b off, a = some ⟨b, off, none⟩ ∧ B ≤ b ∧ w.cell? ⟨b, off + j, none⟩ = some (.int .i64 (f j))

theorem IntsFrom.at {B : Nat} {w : World} {a : Option Addr} {n : Nat} {f : Nat → Int} (h : IntsFrom B w a n f) : IntsAt w a n f := by
  intro j hj
  obtain ⟨b, off, ha, _, hc⟩ := h j hj
  exact ⟨b, off, ha, hc⟩

theorem IntsFrom.below {B : Nat} {w w' : World} {a : Option Addr} {n : Nat} {f : Nat → Int} (h : IntsFrom B w a n f) (hb : Below w.heap.size w w') : IntsFrom B w' a n f := by
  intro j hj
  obtain ⟨b, off, ha, hB, hc⟩ := h j hj
  exact ⟨b, off, ha, hB, (hb.cell (p := ⟨b, off + j, none⟩) (World.block_lt_of_cell? _ _ hc)).trans hc⟩

theorem IntsFrom.mono {B B' : Nat} {w : World} {a : Option Addr} {n : Nat} {f : Nat → Int} (h : IntsFrom B w a n f) (hB : B' ≤ B) : IntsFrom B' w a n f := by
  intro j hj
  obtain ⟨b, off, ha, hb, hc⟩ := h j hj
  exact ⟨b, off, ha, Nat.le_trans hB hb, hc⟩

theorem cell_setCell_other (w : World) (p q : Addr) (u : Value) (h : q.block ≠ p.block) : (w.setCell p u).cell? q = w.cell? q :=
  World.cell?_of_block (w := w) (Below.heap_setCell w p u q.block h)

/-- A store below B. -/
theorem IntsFrom.setCell {B : Nat} {w : World} {a : Option Addr} {n : Nat} {f : Nat → Int} (h : IntsFrom B w a n f) {p : Addr} (hp : p.block < B) (u : Value) : IntsFrom B (w.setCell p u) a n f := by
  intro j hj
  obtain ⟨b, off, ha, hb, hc⟩ := h j hj
  exact ⟨b, off, ha, hb, by rw [cell_setCell_other _ _ _ _ (show b ≠ p.block by omega)]; exact hc⟩

/-- Two 'Below's, each at its own world's size. -/
theorem below_step {a b c : World} (h : Below a.heap.size a b) (k : Below b.heap.size b c) : Below a.heap.size a c :=
  h.trans (k.mono h.size)

end Go.Proofs.Qxb6600485a
