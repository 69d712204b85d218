/-
  Seat b6600485a: slices.Reverse at []int (31), of a slice that the caller itself has made.
-/
import Derived.Test.Qxb6600485aOwn
namespace Go.Proofs.Qxb6600485a
open Go.RowKit

/-- Of w to w' the cells off .. off + m - 1 of block g alone have turned. -/
structure Only (g off m : Nat) (w w' : World) : Prop where
  os : w'.os = w.os
  tape : w'.tape = w.tape
  output : w'.output = w.output
  size : w'.heap.size = w.heap.size
  block : ∀ k, k ≠ g → w'.heap[k]? = w.heap[k]?
  frozen : ∀ a, w'.frozen? a = w.frozen? a
  out : ∀ o, (o < off ∨ off + m ≤ o) → w'.cell? ⟨g, o, none⟩ = w.cell? ⟨g, o, none⟩

theorem addr_ne {g o o' : Nat} (h : o ≠ o') : (⟨g, o, none⟩ : Addr) ≠ ⟨g, o', none⟩ := fun e => h (Addr.mk.inj e).2.1

theorem Only.refl (g off m : Nat) (w : World) : Only g off m w w := ⟨rfl, rfl, rfl, rfl, fun _ _ => rfl, fun _ => rfl, fun _ _ => rfl⟩
theorem Only.drew {g off m : Nat} {w w' : World} (h : Only g off m w w') : Only g off m w w'.drew := ⟨h.os, h.tape, h.output, h.size, h.block, h.frozen, h.out⟩
theorem Only.set {g off m : Nat} {w w' : World} (h : Only g off m w w') {t : Nat} (ht : t < m) (u : Value) : Only g off m w (w'.setCell ⟨g, off + t, none⟩ u) := by
  refine ⟨h.os, h.tape, h.output, by simp [h.size], fun k hk => (Below.heap_setCell _ _ _ _ hk).trans (h.block k hk), fun a => by simp [h.frozen], fun o ho => ?_⟩
  rw [World.cell?_setCell_other _ _ _ _ (addr_ne (by omega))]
  exact h.out o ho

def Reversed (g off m : Nat) (w : World) (f : Nat → Int) (e : Ending) (w' : World) : Prop :=
  e = .returned (.tuple #[]) ∧ Only g off m w w' ∧ ∀ t, t < m → w'.cell? ⟨g, off + t, none⟩ = some (.int .i64 (f (m - 1 - t)))

/-- What cell t holds when i pairs have changed places. -/
def revd (m i : Nat) (f : Nat → Int) (t : Nat) : Int := if t < i ∨ m ≤ t + i then f (m - 1 - t) else f t

theorem revd_lo (m i : Nat) (f : Nat → Int) (h : i + i < m) : revd m i f i = f i := by unfold revd; rw [if_neg (by omega)]
theorem revd_hi (m i : Nat) (f : Nat → Int) (h : i + i + 1 < m) : revd m i f (m - 1 - i) = f (m - 1 - i) := by unfold revd; rw [if_neg (by omega)]
theorem revd_end (m i : Nat) (f : Nat → Int) (h : m ≤ i + i + 1) (t : Nat) (ht : t < m) : revd m i f t = f (m - 1 - t) := by
  unfold revd
  by_cases e : t < i ∨ m ≤ t + i
  · rw [if_pos e]
  · rw [if_neg e]
    have : t = m - 1 - t := by omega
    rw [← this]

theorem rev_step {w : World} {g off m i j : Nat} {f : Nat → Int} (hj : j = m - 1 - i) (hij : i < j)
    (h : ∀ t, t < m → w.cell? ⟨g, off + t, none⟩ = some (.int .i64 (revd m i f t))) :
    ∀ t, t < m → ((w.setCell ⟨g, off + i, none⟩ (.int .i64 (f j))).setCell ⟨g, off + j, none⟩ (.int .i64 (f i))).cell? ⟨g, off + t, none⟩ = some (.int .i64 (revd m (i + 1) f t)) := by
  intro t ht
  by_cases e1 : t = j
  · subst e1
    rw [World.cell?_setCell_same (u := .int .i64 (revd m i f t))]
    · unfold revd; rw [if_pos (by omega), show m - 1 - t = i by omega]
    · rw [World.cell?_setCell_other _ _ _ _ (addr_ne (by omega))]
      exact h t ht
  · rw [World.cell?_setCell_other _ _ _ _ (addr_ne (by omega))]
    by_cases e2 : t = i
    · subst e2
      rw [World.cell?_setCell_same (u := .int .i64 (revd m t f t)) _ _ _ (h t ht)]
      unfold revd; rw [if_pos (by omega), hj]
    · rw [World.cell?_setCell_other _ _ _ _ (addr_ne (by omega)), h t ht]
      unfold revd
      by_cases c : t < i ∨ m ≤ t + i
      · rw [if_pos c, if_pos (by omega)]
      · rw [if_neg c, if_neg (by omega)]

set_option maxHeartbeats 1000000 in
theorem reverse_any (ao : Option Addr) (g off m c : Nat) (f : Nat → Int) (w : World) (hm : m ≤ 4294967296) (ha : 0 < m → ao = some ⟨g, off, none⟩)
    (h : ∀ i, i < m → w.cell? ⟨g, off + i, none⟩ = some (.int .i64 (f i))) (hf : ∀ i, i < m → w.frozen? ⟨g, off + i, none⟩ = false) :
    Calls Try.prog 31 #[.slice ao m c] w fun e w' => Reversed g off m w f e w' := by
  go_enter Try.func31, Try.ntmps31
  go_wp2
  go_loopg [2, 3] m (fun k i j wr => ∃ s : Nat, s + k = m ∧ i = .int .i64 s ∧ j = .int .i64 ((m : Int) - 1 - s) ∧ Only g off m w wr ∧ ∀ t, t < m → wr.cell? ⟨g, off + t, none⟩ = some (.int .i64 (revd m s f t)))
  case atStart => exact ⟨0, by omega, rfl, by go_num, Only.refl _ _ _ _, fun t ht => by rw [h t ht]; unfold revd; rw [if_neg (by omega)]⟩
  case round =>
    obtain ⟨s, hs, rfl, rfl, ho, hc⟩ := hrel
    by_cases hlt : s + s + 1 < m
    · obtain ⟨j, hj⟩ : ∃ j : Nat, j = m - 1 - s := ⟨_, rfl⟩
      have hji : ((m : Int) - 1 - s) = (j : Int) := by omega
      have hjs : s < j := by omega
      have hjm : j < m := by omega
      have hsm : s < m := by omega
      have c1 : wr.cell? ⟨g, off + s, none⟩ = some (.int .i64 (f s)) := by rw [hc s hsm, revd_lo _ _ _ (by omega)]
      have c2 : wr.cell? ⟨g, off + j, none⟩ = some (.int .i64 (f j)) := by rw [hc j hjm, hj, revd_hi _ _ _ (by omega)]
      have f1 : wr.frozen? ⟨g, off + s, none⟩ = false := by rw [ho.frozen]; exact hf s hsm
      have f2 : wr.frozen? ⟨g, off + j, none⟩ = false := by rw [ho.frozen]; exact hf j hjm
      obtain rfl := ha (by omega)
      have R := rev_step hj hjs hc
      have HJ := hide hj
      rw [hji]
      clear hc h hf hji hj ha
      go_wp2
      go_region
      go_wp2
      go_roundg (gk - 1)
      case measure => omega
      case rel =>
        have := HJ.out
        exact ⟨s + 1, by omega, by go_num, by go_num, ((ho.set hsm _).set hjm _).drew, R⟩
    · have hge : ¬ (s : Int) < (m : Int) - 1 - s := by omega
      go_wp2
      go_end0
      exact ⟨rfl, ho, fun t ht => by rw [hc t ht, revd_end _ _ _ (by omega) t ht]⟩

end Go.Proofs.Qxb6600485a
