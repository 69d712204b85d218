/-
  Seat b6601053a: how an argument of type []byte reads: from the form's reading to BytesAt.
-/
import Derived.Test.Qxb6601053aBase
import Derived.ProofKit
import Derived.OpenShut
import Derived.ShutString
import Derived.ChangeOld
namespace Go.Proofs.Qxb6601053a
open Go.ChangeShapes Go.WideShapes Go.ChangeAt Go.RowKit

theorem own : ownKnob Try.prog.godebug = none := by kernel_rfl
theorem laidOut : laidOutB Try.prog = true := by kernel_rfl

theorem cell_at {w : World} {x : Addr} {j : Nat} {v v0 : Value} (h0 : w.cell? (x.add 0) = some v0) (h : w.cell? (x.add j) = some v) : ∃ b off, x = ⟨b, off, none⟩ ∧ w.cell? ⟨b, off + j, none⟩ = some v := by
  obtain ⟨b, off, sp⟩ := x
  have hs : sp = none := by simpa [Addr.add] using World.cell?_spot h0
  subst hs
  exact ⟨b, off, rfl, by rw [← add_plain]; exact h⟩

theorem open_bytes {H : Type} {enc : TypeId × Value → H} {W : World} {a : Option Addr} {len cap : Nat} {d : DataW H} {p : List MemPlace} (h : DataW.Trod enc Try.prog W 0 (fun _ => true) true 27 (.slice a len cap) d p) :
    len ≤ 9223372036854775807 ∧ ∃ f, BytesAt W a len f ∧ Small len f := by
  obtain ⟨fuel, hf⟩ := h
  rcases open_ints Try.underlying27 Try.underlying5 (by kernel_rfl) hf with ⟨hcs, _⟩ | ⟨x, l, c, zs, hcs, _, hl, hm, hz, _, hcell, hwz⟩
  · simp [Value.cells] at hcs
    obtain ⟨rfl, rfl, rfl⟩ := hcs
    exact ⟨by omega, fun _ => 0, fun j hj => absurd hj (Nat.not_lt_zero _), fun j hj => absurd hj (Nat.not_lt_zero _)⟩
  · simp [Value.cells] at hcs
    obtain ⟨rfl, rfl, rfl⟩ := hcs
    simp only [if_true] at hz
    unfold maxLen at hm
    have hb : ∀ j, j < zs.length → 0 ≤ zs.getD j 0 ∧ zs.getD j 0 < 256 := by
      intro j hj
      have hmem : zs.getD j 0 ∈ zs := by
        rw [List.getD_eq_getElem?_getD, List.getElem?_eq_getElem hj]
        exact List.getElem_mem hj
      have := bounds_u8 (hwz _ hmem)
      omega
    refine ⟨by omega, fun j => (zs.getD j 0).toNat, fun j hj => ?_, fun j hj => ?_⟩
    · obtain ⟨b, off, e, hc⟩ := cell_at (hcell 0 (by omega)) (hcell j (by omega))
      refine ⟨b, off, by rw [e], ?_⟩
      rw [hc]
      have := hb j (by omega)
      show some (Value.int .u8 (zs.getD j 0)) = some (.int .u8 (((zs.getD j 0).toNat : Nat) : Int))
      rw [show (((zs.getD j 0).toNat : Nat) : Int) = zs.getD j 0 by omega]
    · have := hb j (by omega)
      show (zs.getD j 0).toNat < 256
      omega

end Go.Proofs.Qxb6601053a
