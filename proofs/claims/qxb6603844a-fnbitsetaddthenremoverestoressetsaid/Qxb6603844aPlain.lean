/-
  Seat b6603844a: the plain laws of add: which bits are there behind it.
-/
import Derived.Test.Qxb6603844aAdd
namespace Go.Proofs.Qxb6603844a

theorem pad_bit (n : Nat) (f : Nat → Nat) (q t : Nat) : (pad n f q).testBit t = (decide (q < n) && (f q).testBit t) := by
  unfold pad
  by_cases e : q < n
  · rw [if_pos e]; simp [e]
  · rw [if_neg e]; simp [e]

theorem addN_ge (n i : Nat) : n ≤ addN n i ∧ i / 64 < addN n i := by unfold addN; omega
theorem addN_le (n i M : Nat) (h : n ≤ M) (hi : i / 64 < M) : addN n i ≤ M := by unfold addN; omega

theorem addF_small {n i : Nat} {f : Nat → Nat} (h : Small n f) : Small (addN n i) (addF n f i) := by
  intro j hj
  have hp := pad_small (m := addN n i) h j hj
  unfold addF
  by_cases e : j = i / 64
  · rw [if_pos e]
    exact (bits_or_nat _ _ hp (two_pow_le (by omega))).2
  · rw [if_neg e]; exact hp

theorem addF_bit (n i : Nat) (f : Nat → Nat) (q t : Nat) : (addF n f i q).testBit t = ((decide (q < n) && (f q).testBit t) || (decide (q = i / 64) && decide (t = i % 64))) := by
  unfold addF
  by_cases e : q = i / 64
  · rw [if_pos e, testBit_or_pow, pad_bit]; simp [e]
  · rw [if_neg e, pad_bit]; simp [e]

/-- Behind add: the old bits, and i's. -/
theorem bit_add (n i : Nat) (f : Nat → Nat) (j : Nat) : bitAt (addN n i) (addF n f i) j = (bitAt n f j || decide (j = i)) := by
  have hge := addN_ge n i
  unfold bitAt
  rw [addF_bit]
  have ej : decide (j = i) = (decide (j / 64 = i / 64) && decide (j % 64 = i % 64)) := by
    rw [Bool.eq_iff_iff]; simp; omega
  rw [ej]
  by_cases h1 : j / 64 < n
  · have h2 : j / 64 < addN n i := by omega
    simp [h1, h2]
  · by_cases h2 : j / 64 < addN n i
    · simp [h1, h2]
    · have h3 : ¬ j / 64 = i / 64 := by omega
      simp [h1, h2, h3]

theorem addF_zero {n i : Nat} {f : Nat → Nat} {q : Nat} (hq : q ≠ i / 64) : addF n f i q = pad n f q := by unfold addF; rw [if_neg hq]

theorem addF_pos (n i : Nat) (f : Nat → Nat) : addF n f i (i / 64) ≠ 0 := by
  intro e
  have := addF_bit n i f (i / 64) (i % 64)
  rw [e, Nat.zero_testBit] at this
  simp at this

/-- add keeps the invariant. -/
theorem wf_add {nw nn i : Nat} {f g : Nat → Nat} (h : WF nw f nn g) : WF (addN nw i) (addF nw f i) (addN nn (i / 64)) (addF nn g (i / 64)) := by
  obtain ⟨h1, h2⟩ := h
  refine ⟨by unfold addN; omega, fun m hm => ?_⟩
  rw [bit_add]
  have hge := addN_ge nw i
  by_cases e : m = i / 64
  · have hp := addF_pos nw i f
    rw [← e] at hp hge
    simp [e]
    rw [← e]
    exact ⟨hge.2, hp⟩
  · rw [addF_zero e]
    have hb : bitAt nn g m = (decide (m < nw) && decide (f m ≠ 0)) := by
      by_cases hmn : m < 64 * nn
      · exact h2 m hmn
      · have : ¬ m / 64 < nn := by omega
        have h3 : ¬ m < nw := by omega
        unfold bitAt
        simp [this, h3]
    rw [hb]
    unfold pad
    by_cases h3 : m < nw
    · have h4 : m < addN nw i := by omega
      simp [h3, h4, e]
    · simp [h3, e]

end Go.Proofs.Qxb6603844a
