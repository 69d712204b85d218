/-
  Seat b6600485a: how the arguments ([]int, [][]int) read: from the form's reading to IntsAt, RowsAt.
-/
import Derived.Test.Qxb6600485aBase
import Derived.ProofKit
import Derived.OpenShut
import Derived.ShutString
import Derived.ChangeOld
import Derived.Deep.Matrix
namespace Go.Proofs.Qxb6600485a
open Go.ChangeShapes Go.WideShapes Go.ChangeAt Go.RowKit

theorem own : ownKnob Try.prog.godebug = none := by kernel_rfl
theorem laidOut : laidOutB Try.prog = true := by kernel_rfl

theorem cell_at {w : World} {x : Addr} {j : Nat} {v v0 : Value} (h0 : w.cell? (x.add 0) = some v0) (h : w.cell? (x.add j) = some v) : ∃ b off, x = ⟨b, off, none⟩ ∧ w.cell? ⟨b, off + j, none⟩ = some v := by
  obtain ⟨b, off, sp⟩ := x
  have hs : sp = none := by simpa [Addr.add] using World.cell?_spot h0
  subst hs
  exact ⟨b, off, rfl, by rw [← add_plain]; exact h⟩

section
variable {H : Type} {enc : TypeId × Value → H} {W : World}

theorem open_ids {a : Option Addr} {len cap : Nat} {d : DataW H} {p : List MemPlace} (h : DataW.Trod enc Try.prog W 0 (fun _ => true) true 22 (.slice a len cap) d p) :
    len ≤ 9223372036854775807 ∧ ∃ I, IntsAt W a len I := by
  obtain ⟨fuel, hf⟩ := h
  rcases open_ints Try.underlying22 Try.underlying3 (by kernel_rfl) hf with ⟨hcs, _⟩ | ⟨x, l, c, zs, hcs, _, hl, hm, hz, _, hcell, hwz⟩
  · simp [Value.cells] at hcs
    obtain ⟨rfl, rfl, rfl⟩ := hcs
    exact ⟨by omega, fun _ => 0, fun j hj => absurd hj (Nat.not_lt_zero _)⟩
  · simp [Value.cells] at hcs
    obtain ⟨rfl, rfl, rfl⟩ := hcs
    simp only [if_true] at hz
    unfold maxLen at hm
    refine ⟨by omega, fun j => zs.getD j 0, fun j hj => ?_⟩
    obtain ⟨b, off, e, hc⟩ := cell_at (hcell 0 (by omega)) (hcell j (by omega))
    exact ⟨b, off, by rw [e], hc⟩

theorem open_edges {a : Option Addr} {len cap : Nat} {d : DataW H} {p : List MemPlace} (h : DataW.Trod enc Try.prog W 0 (fun _ => true) true 23 (.slice a len cap) d p) :
    len ≤ 9223372036854775807 ∧ ∃ L E, (∀ i, i < len → L i ≤ 9223372036854775807) ∧ RowsAt W a len L E := by
  obtain ⟨fuel, hf⟩ := h
  rcases Go.Deep.open_int_rows Try.underlying23 Try.underlying22 Try.underlying3 (by kernel_rfl) (by kernel_rfl) hf with ⟨hcs, _⟩ | ⟨x, l, c, A, L, C, Z, hcs, _, hl, hm, _, hrow⟩
  · simp [Value.cells] at hcs
    obtain ⟨rfl, rfl, rfl⟩ := hcs
    exact ⟨by omega, fun _ => 0, fun _ _ => 0, fun _ _ => Nat.zero_le _, fun j hj => absurd hj (Nat.not_lt_zero _)⟩
  · simp [Value.cells] at hcs
    obtain ⟨rfl, rfl, rfl⟩ := hcs
    unfold maxLen at hm
    refine ⟨by omega, L, fun i j => (Z i).getD j 0, fun i hi => ?_, fun i hi => ?_⟩
    · obtain ⟨_, h1, h2, _⟩ := hrow i (by omega)
      unfold maxLen at h2
      omega
    · obtain ⟨hc, h1, h2, h3, _, h5, h6⟩ := hrow i (by omega)
      obtain ⟨b, off, e, hc'⟩ := cell_at (hrow 0 (by omega)).1 hc
      refine ⟨b, off, A i, C i, by rw [e], hc', fun j hj => ?_⟩
      cases hA : A i with
      | none => have := h5 hA; omega
      | some y =>
        obtain ⟨b2, off2, e2, hc2⟩ := cell_at ((h6 y hA).2 0 (by omega)) ((h6 y hA).2 j (by omega))
        exact ⟨b2, off2, by rw [e2], hc2⟩

end
end Go.Proofs.Qxb6600485a
