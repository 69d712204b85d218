/-
  Seat b6600485a: the plain law of walks along first edges: no Go here. A walk dies at a node without edges, or repeats a node; never both; the first root whose walk repeats is one.
-/
import Derived.Test.Qxb6600485aBfs
namespace Go.Proofs.Qxb6600485a

/-- k steps along the first edges. -/
def it (T : Nat → Nat → Nat) (v : Nat) : Nat → Nat
  | 0 => v
  | k + 1 => T (it T v k) 0

theorem it_lt {n v : Nat} {L : Nat → Nat} {T : Nat → Nat → Nat} (hT : ∀ u, u < n → ∀ j, j < L u → T u j < n) (hv : v < n) : ∀ k, (∀ i, i < k → 0 < L (it T v i)) → it T v k < n
  | 0, _ => hv
  | k + 1, h => hT _ (it_lt hT hv k (fun i hi => h i (by omega))) 0 (h k (by omega))

theorem it_add (T : Nat → Nat → Nat) (v p : Nat) : ∀ k, it T (it T v p) k = it T v (p + k)
  | 0 => rfl
  | k + 1 => by show T (it T (it T v p) k) 0 = T (it T v (p + k)) 0; rw [it_add T v p k]

theorem all_succ {p : Nat → Prop} {s : Nat} (h : ∀ i, i < s → p i) (hs : p s) : ∀ i, i < s + 1 → p i := by
  intro i hi
  by_cases e : i = s
  · subst e; exact hs
  · exact h i (by omega)

/-- The walk from r dies. -/
def Dies (L : Nat → Nat) (T : Nat → Nat → Nat) (r : Nat) : Prop := ∃ s, L (it T r s) = 0 ∧ ∀ i, i < s → 0 < L (it T r i)

/-- The walk from r comes, at step s, for the first time to a node where it has been: at step p. -/
structure Rep (L : Nat → Nat) (T : Nat → Nat → Nat) (r p s : Nat) : Prop where
  lt : p < s
  eq : it T r p = it T r s
  pos : ∀ i, i < s → 0 < L (it T r i)
  inj : ∀ i j, i < s → j < s → it T r i = it T r j → i = j

section
variable {L : Nat → Nat} {T : Nat → Nat → Nat}

/-- A walk that repeats goes round for ever. -/
theorem rep_pos {r p s : Nat} (h : Rep L T r p s) : ∀ i, ∃ j, j < s ∧ it T r i = it T r j := by
  intro i
  induction i with
  | zero => exact ⟨0, by have := h.lt; omega, rfl⟩
  | succ i ih =>
    obtain ⟨j, hj, e⟩ := ih
    have e2 : it T r (i + 1) = it T r (j + 1) := by show T (it T r i) 0 = T (it T r j) 0; rw [e]
    by_cases hs : j + 1 < s
    · exact ⟨j + 1, hs, e2⟩
    · obtain rfl : j + 1 = s := by omega
      exact ⟨p, h.lt, by rw [e2, h.eq]⟩

theorem rep_not_dies {r p s : Nat} (h : Rep L T r p s) (hd : Dies L T r) : False := by
  obtain ⟨t, ht, _⟩ := hd
  obtain ⟨j, hj, e⟩ := rep_pos h t
  have := h.pos j hj
  rw [e] at ht
  omega

theorem rep_unique {r p s p' s' : Nat} (h : Rep L T r p s) (h' : Rep L T r p' s') : p = p' ∧ s = s' := by
  have key : ∀ {p s p' s' : Nat}, Rep L T r p s → Rep L T r p' s' → ¬ s < s' := by
    intro p s p' s' h h' hlt
    have := h'.inj p s (by have := h.lt; omega) hlt h.eq
    have := h.lt
    omega
  have es : s = s' := Nat.le_antisymm (Nat.le_of_not_lt (key h' h)) (Nat.le_of_not_lt (key h h'))
  subst es
  exact ⟨h.inj p p' h.lt h'.lt (by rw [h.eq, h'.eq]), rfl⟩

/-- A step ahead of a walk that dies. -/
theorem dies_of_step {r : Nat} (h0 : 0 < L r) (hd : Dies L T (T r 0)) : Dies L T r := by
  obtain ⟨s, hs, hp⟩ := hd
  have key : ∀ i, it T (T r 0) i = it T r (i + 1) := by
    intro i
    have := it_add T r 1 i
    rw [show 1 + i = i + 1 by omega] at this
    exact this
  refine ⟨s + 1, by rw [← key]; exact hs, fun i hi => ?_⟩
  match i with
  | 0 => exact h0
  | i + 1 => rw [← key]; exact hp i (by omega)

/-- .. k steps ahead. -/
theorem dies_of_steps {r : Nat} : ∀ k, (∀ i, i < k → 0 < L (it T r i)) → Dies L T (it T r k) → Dies L T r
  | 0, _, h => h
  | k + 1, hp, h => dies_of_steps k (fun i hi => hp i (by omega)) (dies_of_step (hp k (by omega)) h)

/-- .. and all behind die too. -/
theorem dies_later {r : Nat} (hd : Dies L T r) : ∀ k, (∀ i, i < k → 0 < L (it T r i)) → Dies L T (it T r k) := by
  intro k hp
  obtain ⟨s, hs, hps⟩ := hd
  have hk : k ≤ s := by
    refine Nat.le_of_not_lt fun hlt => ?_
    have := hp s hlt
    omega
  refine ⟨s - k, by rw [it_add, show k + (s - k) = s by omega]; exact hs, fun i hi => by rw [it_add]; exact hps _ (by omega)⟩

/-- n + 1 distinct nodes below n: no. -/
theorem walk_short {n r s : Nat} (hT : ∀ u, u < n → ∀ j, j < L u → T u j < n) (hr : r < n) (hp : ∀ i, i < s → 0 < L (it T r i)) (hinj : ∀ i j, i < s → j < s → it T r i = it T r j → i = j) : s ≤ n :=
  pigeon n s (it T r) (fun i hi => it_lt hT hr i (fun j hj => hp j (by omega))) hinj

/-- Closed walks from the repeated node, on a graph of out-degree at most one. -/
theorem rep_closed {r p s : Nat} (h : Rep L T r p s) : Closed L T (it T r p) (s - p) (fun j => it T r (p + j)) := by
  have hlt := h.lt
  refine ⟨by omega, rfl, ?_, fun i hi => ⟨0, h.pos _ (by omega), rfl⟩⟩
  show it T r (p + (s - p)) = it T r p
  rw [show p + (s - p) = s by omega, h.eq]

theorem rep_shortest {n r p s m : Nat} {q : Nat → Nat} (hT : ∀ u, u < n → ∀ j, j < L u → T u j < n) (hr : r < n) (h1 : ∀ u, u < n → L u ≤ 1) (h : Rep L T r p s)
    (hq : Closed L T (it T r p) m q) (hmin : ∀ k' q', Closed L T (it T r p) k' q' → m ≤ k') : m = s - p ∧ ∀ j, j ≤ m → q j = it T r (p + j) := by
  have hlt := h.lt
  have hv : it T r p < n := it_lt hT hr p (fun i hi => h.pos i (by omega))
  have hq' : ∀ i, i ≤ m → q i = it T r (p + i) ∧ q i < n := by
    intro i
    induction i with
    | zero => intro _; exact ⟨hq.first, by rw [hq.first]; exact hv⟩
    | succ i ih =>
      intro hi
      obtain ⟨e, hl⟩ := ih (by omega)
      obtain ⟨j, hj, hjT⟩ := hq.edge i (by omega)
      have := h1 _ hl
      obtain rfl : j = 0 := by omega
      have hlt := hT _ hl 0 hj
      refine ⟨?_, by rw [← hjT]; exact hlt⟩
      rw [← hjT, e]; rfl
  have h2 := hmin _ _ (rep_closed h)
  refine ⟨Nat.le_antisymm h2 (Nat.le_of_not_lt fun hlt2 => ?_), fun j hj => (hq' j hj).1⟩
  have e := (hq' m (Nat.le_refl _)).1
  rw [hq.last] at e
  have := h.inj p (p + m) hlt (by omega) e
  have := hq.pos
  omega

end
end Go.Proofs.Qxb6600485a
