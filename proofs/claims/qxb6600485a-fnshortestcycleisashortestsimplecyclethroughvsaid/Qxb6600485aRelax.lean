/-
  Seat b6600485a: plain laws, no Go here: cutting a loop out of a walk; a shortest closed walk is simple; relaxation rounds ('D x': the distance found so far, below 0 where there is none).
-/
import Derived.Test.Qxb6600485aBfs
namespace Go.Proofs.Qxb6600485a

/-- A walk of t edges from v. -/
structure Walk (L : Nat → Nat) (T : Nat → Nat → Nat) (v t : Nat) (q : Nat → Nat) : Prop where
  first : q 0 = v
  edge : ∀ i, i < t → Edge L T (q i) (q (i + 1))

/-- The loop between i and j cut out. -/
def cutOut (q : Nat → Nat) (i j : Nat) (s : Nat) : Nat := if s ≤ i then q s else q (s + (j - i))

section
variable {L : Nat → Nat} {T : Nat → Nat → Nat} {n v : Nat}

theorem walk_lt {t : Nat} {q : Nat → Nat} (hT : ∀ u, u < n → ∀ j, j < L u → T u j < n) (hv : v < n) (h : Walk L T v t q) : ∀ i, i ≤ t → q i < n := by
  intro i
  induction i with
  | zero => intro _; rw [h.first]; exact hv
  | succ i ih =>
    intro hi
    obtain ⟨j, hj, e⟩ := h.edge i (by omega)
    rw [← e]
    exact hT _ (ih (by omega)) j hj

theorem cutOut_walk {t i j : Nat} {q : Nat → Nat} (h : Walk L T v t q) (hij : i < j) (hj : j ≤ t) (e : q i = q j) : Walk L T v (t - (j - i)) (cutOut q i j) ∧ cutOut q i j (t - (j - i)) = q t := by
  refine ⟨⟨?_, fun s hs => ?_⟩, ?_⟩
  · unfold cutOut; rw [if_pos (Nat.zero_le _)]; exact h.first
  · unfold cutOut
    by_cases h1 : s + 1 ≤ i
    · rw [if_pos (by omega), if_pos h1]; exact h.edge s (by omega)
    · rw [if_neg h1]
      by_cases h2 : s ≤ i
      · rw [if_pos h2]
        obtain rfl : s = i := by omega
        rw [e, show s + 1 + (j - s) = j + 1 by omega]
        exact h.edge j (by omega)
      · rw [if_neg h2, show s + 1 + (j - i) = s + (j - i) + 1 by omega]
        exact h.edge _ (by omega)
  · unfold cutOut
    by_cases h1 : t - (j - i) ≤ i
    · rw [if_pos h1, show t - (j - i) = i by omega, e, show j = t by omega]
    · rw [if_neg h1, show t - (j - i) + (j - i) = t by omega]

theorem closed_walk {k : Nat} {q : Nat → Nat} (h : Closed L T v k q) : Walk L T v k q := ⟨h.first, h.edge⟩

/-- A shortest closed walk meets no node twice before it closes. -/
theorem closed_simple {k : Nat} {q : Nat → Nat} (h : Closed L T v k q) (hmin : ∀ k' q', Closed L T v k' q' → k ≤ k') : ∀ i j, i < k → j < k → q i = q j → i = j := by
  have key : ∀ i j, i < j → j < k → q i ≠ q j := by
    intro i j hij hj e
    obtain ⟨h1, h2⟩ := cutOut_walk (closed_walk h) hij (by omega) e
    have := hmin (k - (j - i)) (cutOut q i j) ⟨by omega, h1.first, by rw [h2]; exact h.last, h1.edge⟩
    omega
  intro i j hi hj e
  rcases Nat.lt_trichotomy i j with hlt | he | hgt
  · exact absurd e (key i j hlt hj)
  · exact he
  · exact absurd e.symm (key j i hgt hi)

theorem closed_le {k : Nat} {q : Nat → Nat} (hT : ∀ u, u < n → ∀ j, j < L u → T u j < n) (hv : v < n) (h : Closed L T v k q) (hmin : ∀ k' q', Closed L T v k' q' → k ≤ k') : k ≤ n :=
  pigeon n k q (fun i hi => walk_lt hT hv (closed_walk h) i (by omega)) (closed_simple h hmin)

/-- A walk that does not come back to v. -/
structure AWalk (L : Nat → Nat) (T : Nat → Nat → Nat) (v t : Nat) (q : Nat → Nat) : Prop where
  w : Walk L T v t q
  ne : ∀ i, 0 < i → i ≤ t → q i ≠ v

/-- Two of more than n places below n hold one. -/
theorem two_same {t : Nat} {q : Nat → Nat} (hq : ∀ i, i ≤ t → q i < n) (ht : n ≤ t) : ∃ i j, i < j ∧ j ≤ t ∧ q i = q j := by
  refine Classical.byContradiction fun hno => ?_
  have := pigeon n (t + 1) q (fun i hi => hq i (by omega)) (fun i j hi hj e => by
    rcases Nat.lt_trichotomy i j with hlt | he | hgt
    · exact absurd ⟨i, j, hlt, by omega, e⟩ hno
    · exact he
    · exact absurd ⟨j, i, hgt, by omega, e.symm⟩ hno)
  omega

/-- .. cut down to fewer than n edges. -/
theorem awalk_short (hT : ∀ u, u < n → ∀ j, j < L u → T u j < n) (hv : v < n) : ∀ m t q, t ≤ m → AWalk L T v t q → ∃ t' q', t' < n ∧ t' ≤ t ∧ AWalk L T v t' q' ∧ q' t' = q t
  | 0, t, q, hm, h => ⟨t, q, by omega, Nat.le_refl _, h, rfl⟩
  | m + 1, t, q, hm, h => by
    by_cases hlt : t < n
    · exact ⟨t, q, hlt, Nat.le_refl _, h, rfl⟩
    · obtain ⟨i, j, hij, hj, e⟩ := two_same (walk_lt hT hv h.w) (by omega)
      obtain ⟨h1, h2⟩ := cutOut_walk h.w hij hj e
      obtain ⟨t', q', a1, a2, a3, a4⟩ := awalk_short hT hv m (t - (j - i)) (cutOut q i j) (by omega) ⟨h1, fun s h0 hs => by
        unfold cutOut
        by_cases h3 : s ≤ i
        · rw [if_pos h3]; exact h.ne s h0 (by omega)
        · rw [if_neg h3]; exact h.ne _ (by omega) (by omega)⟩
      exact ⟨t', q', a1, by omega, a3, by rw [a4, h2]⟩

/-- The last round trip of a closed walk. -/
theorem closed_last {k : Nat} {q : Nat → Nat} (h : Closed L T v k q) : ∃ t p, t + 1 ≤ k ∧ AWalk L T v t p ∧ Edge L T (p t) v := by
  have key : ∀ m i, m + i + 1 = k → q i = v → ∃ t p, t + 1 ≤ k ∧ AWalk L T v t p ∧ Edge L T (p t) v := by
    intro m
    induction m using Nat.strongRecOn with
    | _ m ih =>
      intro i hm hi
      by_cases hx : ∃ j, i < j ∧ j < k ∧ q j = v
      · obtain ⟨j, h1, h2, h3⟩ := hx
        exact ih (k - 1 - j) (by omega) j (by omega) h3
      · refine ⟨k - 1 - i, fun s => q (i + s), by omega, ⟨⟨hi, fun s hs => h.edge (i + s) (by omega)⟩, fun s h0 hs e => hx ⟨i + s, by omega, by omega, e⟩⟩, ?_⟩
        have := h.edge (k - 1) (by have := h.pos; omega)
        rw [show k - 1 + 1 = k by have := h.pos; omega, h.last] at this
        show Edge L T (q (i + (k - 1 - i))) v
        rwa [show i + (k - 1 - i) = k - 1 by omega]
  exact key (k - 1) 0 (by have := h.pos; omega) h.first

/-- What has been found is there: walks of those lengths. -/
structure Sound (n v : Nat) (L : Nat → Nat) (T : Nat → Nat → Nat) (D : Nat → Int) : Prop where
  root : D v = 0
  walk : ∀ x, x < n → 0 ≤ D x → ∃ q, Walk L T v (D x).toNat q ∧ q (D x).toNat = x

/-- All walks of at most r edges are known. -/
def KnowsTo (v : Nat) (L : Nat → Nat) (T : Nat → Nat → Nat) (D : Nat → Int) (r : Nat) : Prop := ∀ t q, t ≤ r → AWalk L T v t q → 0 ≤ D (q t) ∧ D (q t) ≤ (t : Int)

def Knows (v : Nat) (L : Nat → Nat) (T : Nat → Nat → Nat) (D : Nat → Int) : Prop := ∀ t q, AWalk L T v t q → 0 ≤ D (q t) ∧ D (q t) ≤ (t : Int)

/-- Within a round that began with D0: all edges of the nodes below u, and j of u's, have been looked at. -/
structure Round (n v : Nat) (L : Nat → Nat) (T : Nat → Nat → Nat) (D0 D : Nat → Int) (ch : Bool) (u j : Nat) : Prop where
  sound : Sound n v L T D
  mono : ∀ x, x < n → 0 ≤ D0 x → 0 ≤ D x ∧ D x ≤ D0 x
  done : ∀ x, x < u → 0 ≤ D0 x → ∀ i, i < L x → T x i ≠ v → 0 ≤ D (T x i) ∧ D (T x i) ≤ D0 x + 1
  part : 0 ≤ D0 u → ∀ i, i < j → T u i ≠ v → 0 ≤ D (T u i) ∧ D (T u i) ≤ D0 u + 1
  same : ch = false → ∀ x, x < n → D x = D0 x

theorem knowsTo_start {D : Nat → Int} (h : Sound n v L T D) : KnowsTo v L T D 0 := by
  intro t q ht hq
  obtain rfl : t = 0 := by omega
  rw [hq.w.first, h.root]
  exact ⟨Int.le_refl _, Int.le_refl _⟩

theorem round_start {D : Nat → Int} (h : Sound n v L T D) : Round n v L T D D false 0 0 :=
  ⟨h, fun _ _ h0 => ⟨h0, Int.le_refl _⟩, fun _ hx => absurd hx (Nat.not_lt_zero _), fun _ _ hi => absurd hi (Nat.not_lt_zero _), fun _ _ _ => rfl⟩

/-- A node without a distance is passed over. -/
theorem round_pass {D0 D : Nat → Int} {ch : Bool} {u : Nat} (h : Round n v L T D0 D ch u 0) (hu : u < n) (hD : D u < 0) : Round n v L T D0 D ch (u + 1) 0 := by
  refine ⟨h.sound, h.mono, fun x hx h0 => ?_, fun _ _ hi => absurd hi (Nat.not_lt_zero _), h.same⟩
  by_cases e : x = u
  · subst e
    have := (h.mono x hu h0).1
    omega
  · exact h.done x (by omega) h0

theorem round_next {D0 D : Nat → Int} {ch : Bool} {u j : Nat} (h : Round n v L T D0 D ch u j) (hj : L u ≤ j) : Round n v L T D0 D ch (u + 1) 0 := by
  refine ⟨h.sound, h.mono, fun x hx h0 i hi => ?_, fun _ _ hi => absurd hi (Nat.not_lt_zero _), h.same⟩
  by_cases e : x = u
  · subst e; exact h.part h0 i (by omega)
  · exact h.done x (by omega) h0 i hi

/-- Nothing to gain by this edge. -/
theorem round_skip {D0 D : Nat → Int} {ch : Bool} {u j : Nat} (h : Round n v L T D0 D ch u j) (hu : u < n) (hne : T u j ≠ v → 0 ≤ D (T u j) ∧ D (T u j) ≤ D u + 1) : Round n v L T D0 D ch u (j + 1) := by
  refine ⟨h.sound, h.mono, h.done, fun h0 i hi hv => ?_, h.same⟩
  by_cases e : i = j
  · subst e
    have h1 := hne hv
    have h2 := h.mono u hu h0
    exact ⟨h1.1, by omega⟩
  · exact h.part h0 i (by omega) hv

/-- The distance over this edge is taken. -/
theorem round_take {D0 D : Nat → Int} {ch : Bool} {u j y : Nat} (h : Round n v L T D0 D ch u j) (hu : u < n) (hj : j < L u) (hy : T u j = y) (hyn : y < n) (hyv : y ≠ v) (hD : 0 ≤ D u) (hless : D y < 0 ∨ D u + 1 < D y) :
    Round n v L T D0 (fun x => if x = y then D u + 1 else D x) true u (j + 1) := by
  have down : ∀ x, 0 ≤ D x → 0 ≤ (if x = y then D u + 1 else D x) ∧ (if x = y then D u + 1 else D x) ≤ D x := by
    intro x hx
    by_cases e : x = y
    · subst e; rw [if_pos rfl]; omega
    · rw [if_neg e]; omega
  refine ⟨⟨?_, fun x hx h0 => ?_⟩, fun x hx h0 => ?_, fun x hx h0 i hi hv => ?_, fun h0 i hi hv => ?_, fun hc => by cases hc⟩
  · show (if v = y then D u + 1 else D v) = 0
    rw [if_neg (fun e => hyv e.symm)]; exact h.sound.root
  · by_cases e : x = y
    · subst e
      simp only [if_true] at h0 ⊢
      obtain ⟨q, hq, hqe⟩ := h.sound.walk u hu hD
      have ht : (D u + 1).toNat = (D u).toNat + 1 := by omega
      rw [ht]
      refine ⟨fun s => if s ≤ (D u).toNat then q s else x, ⟨?_, fun s hs => ?_⟩, ?_⟩
      · show (if 0 ≤ (D u).toNat then q 0 else x) = v
        rw [if_pos (Nat.zero_le _)]; exact hq.first
      · show Edge L T (if s ≤ (D u).toNat then q s else x) (if s + 1 ≤ (D u).toNat then q (s + 1) else x)
        rw [if_pos (by omega)]
        by_cases e2 : s = (D u).toNat
        · rw [if_neg (by omega), e2, hqe]
          exact ⟨j, hj, hy⟩
        · rw [if_pos (by omega)]; exact hq.edge s (by omega)
      · show (if (D u).toNat + 1 ≤ (D u).toNat then _ else x) = x
        rw [if_neg (by omega)]
    · simp only [if_neg e] at h0 ⊢
      exact h.sound.walk x hx h0
  · have h1 := h.mono x hx h0
    have h2 := down x h1.1
    exact ⟨h2.1, Int.le_trans h2.2 h1.2⟩
  · have h1 := h.done x hx h0 i hi hv
    have h2 := down (T x i) h1.1
    exact ⟨h2.1, Int.le_trans h2.2 h1.2⟩
  · by_cases e : i = j
    · subst e
      have h2 := h.mono u hu h0
      simp only [hy, if_true]
      omega
    · have h1 := h.part h0 i (by omega) hv
      have h2 := down (T u i) h1.1
      exact ⟨h2.1, Int.le_trans h2.2 h1.2⟩

theorem knowsTo_round {D0 D : Nat → Int} {ch : Bool} {r : Nat} (hT : ∀ u, u < n → ∀ j, j < L u → T u j < n) (hv : v < n) (hk : KnowsTo v L T D0 r) (h : Round n v L T D0 D ch n 0) : KnowsTo v L T D (r + 1) := by
  intro t q ht hq
  have hlt := walk_lt hT hv hq.w
  by_cases e : t = r + 1
  · subst e
    have h0 := hk r q (Nat.le_refl _) ⟨⟨hq.w.first, fun i hi => hq.w.edge i (by omega)⟩, fun i h0 hi => hq.ne i h0 (by omega)⟩
    obtain ⟨j, hj, hjT⟩ := hq.w.edge r (by omega)
    have h1 := h.done (q r) (hlt r (by omega)) h0.1 j hj (by rw [hjT]; exact hq.ne _ (by omega) (by omega))
    rw [hjT] at h1
    exact ⟨h1.1, by omega⟩
  · have h0 := hk t q (by omega) hq
    have h1 := h.mono (q t) (hlt t (Nat.le_refl _)) h0.1
    exact ⟨h1.1, by omega⟩

/-- A round that changed nothing: all is known. -/
theorem knows_fix {D0 D : Nat → Int} (hT : ∀ u, u < n → ∀ j, j < L u → T u j < n) (hv : v < n) (h : Round n v L T D0 D false n 0) : Knows v L T D := by
  intro t q hq
  have hlt := walk_lt hT hv hq.w
  have key : ∀ i, i ≤ t → 0 ≤ D (q i) ∧ D (q i) ≤ (i : Int) := by
    intro i
    induction i with
    | zero => intro _; rw [hq.w.first, h.sound.root]; exact ⟨Int.le_refl _, Int.le_refl _⟩
    | succ i ih =>
      intro hi
      have h0 := ih (by omega)
      have hl := hlt i (by omega)
      rw [h.same rfl _ hl] at h0
      obtain ⟨j, hj, hjT⟩ := hq.w.edge i (by omega)
      have h1 := h.done (q i) hl h0.1 j hj (by rw [hjT]; exact hq.ne _ (by omega) hi)
      rw [hjT] at h1
      exact ⟨h1.1, by omega⟩
  exact key t (Nat.le_refl _)

/-- n rounds: all is known. -/
theorem knows_all {D : Nat → Int} {r : Nat} (hT : ∀ u, u < n → ∀ j, j < L u → T u j < n) (hv : v < n) (hk : KnowsTo v L T D r) (hr : n ≤ r) : Knows v L T D := by
  intro t q hq
  obtain ⟨t', q', h1, h2, h3, h4⟩ := awalk_short hT hv t t q (Nat.le_refl _) hq
  have := hk t' q' (by omega) h3
  rw [h4] at this
  exact ⟨this.1, by omega⟩

/-- The least over the edges to v of the nodes below u, and of j of u's. -/
structure Best (n v : Nat) (L : Nat → Nat) (T : Nat → Nat → Nat) (D : Nat → Int) (b : Int) (u j : Nat) : Prop where
  least : ∀ x, x < u → 0 ≤ D x → ∀ i, i < L x → T x i = v → 0 ≤ b ∧ b ≤ D x + 1
  part : 0 ≤ D u → ∀ i, i < j → T u i = v → 0 ≤ b ∧ b ≤ D u + 1
  from_ : 0 ≤ b → ∃ x, x < n ∧ 0 ≤ D x ∧ Edge L T x v ∧ b = D x + 1

theorem best_start (D : Nat → Int) : Best n v L T D (-1) 0 0 := ⟨fun _ hx => absurd hx (Nat.not_lt_zero _), fun _ _ hi => absurd hi (Nat.not_lt_zero _), fun h => by omega⟩

theorem best_next {D : Nat → Int} {b : Int} {u j : Nat} (h : Best n v L T D b u j) (hj : D u < 0 ∨ L u ≤ j) : Best n v L T D b (u + 1) 0 := by
  refine ⟨fun x hx h0 i hi => ?_, fun _ _ hi => absurd hi (Nat.not_lt_zero _), h.from_⟩
  by_cases e : x = u
  · subst e; exact h.part h0 i (by omega)
  · exact h.least x (by omega) h0 i hi

theorem best_skip {D : Nat → Int} {b : Int} {u j : Nat} (h : Best n v L T D b u j) (hs : T u j = v → 0 ≤ b ∧ b ≤ D u + 1) : Best n v L T D b u (j + 1) := by
  refine ⟨h.least, fun h0 i hi hv => ?_, h.from_⟩
  by_cases e : i = j
  · subst e; exact hs hv
  · exact h.part h0 i (by omega) hv

theorem best_take {D : Nat → Int} {b : Int} {u j : Nat} (h : Best n v L T D b u j) (hu : u < n) (hj : j < L u) (hD : 0 ≤ D u) (hv : T u j = v) (hb : b < 0 ∨ D u + 1 < b) : Best n v L T D (D u + 1) u (j + 1) := by
  refine ⟨fun x hx h0 i hi hxv => ?_, fun h0 i hi hiv => ⟨by omega, Int.le_refl _⟩, fun _ => ⟨u, hu, hD, ⟨j, hj, hv⟩, rfl⟩⟩
  have := h.least x hx h0 i hi hxv
  omega

/-- The answer: a shortest closed walk's length. -/
theorem best_end {D : Nat → Int} {b : Int} (hT : ∀ u, u < n → ∀ j, j < L u → T u j < n) (hv : v < n) (h : Best n v L T D b n 0) (hs : Sound n v L T D) (hk : Knows v L T D) (hb : 0 ≤ b) :
    ∃ (k : Nat) (q : Nat → Nat), b = (k : Int) ∧ Closed L T v k q ∧ ∀ k' q', Closed L T v k' q' → k ≤ k' := by
  obtain ⟨x, hx, h0, he, hbx⟩ := h.from_ hb
  obtain ⟨q, hq, hqe⟩ := hs.walk x hx h0
  refine ⟨(D x).toNat + 1, fun s => if s ≤ (D x).toNat then q s else v, by omega, ⟨by omega, ?_, ?_, fun s hs' => ?_⟩, fun k' q' hq' => ?_⟩
  · show (if 0 ≤ (D x).toNat then q 0 else v) = v
    rw [if_pos (Nat.zero_le _)]; exact hq.first
  · show (if (D x).toNat + 1 ≤ (D x).toNat then _ else v) = v
    rw [if_neg (by omega)]
  · show Edge L T (if s ≤ (D x).toNat then q s else v) (if s + 1 ≤ (D x).toNat then q (s + 1) else v)
    rw [if_pos (by omega)]
    by_cases e : s = (D x).toNat
    · rw [if_neg (by omega), e, hqe]; exact he
    · rw [if_pos (by omega)]; exact hq.edge s (by omega)
  · obtain ⟨t, p, ht, hp, hpe⟩ := closed_last hq'
    have hkt := hk t p hp
    have hpl := walk_lt hT hv hp.w t (Nat.le_refl _)
    obtain ⟨j, hj, hjT⟩ := hpe
    have := h.least (p t) hpl hkt.1 j hj hjT
    omega

end
end Go.Proofs.Qxb6600485a
