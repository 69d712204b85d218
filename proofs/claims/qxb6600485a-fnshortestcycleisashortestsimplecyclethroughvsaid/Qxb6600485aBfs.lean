/-
  Seat b6600485a: the plain law of the breadth-first search: no Go here. A graph on the nodes below n: node u has L u edges, to T u 0, T u 1, ..
  'o 0, o 1, .. , o (c - 1)': the nodes in the order in which they came into the queue; the first h of them have been dealt with; 'd': their depth; 'F': the node that each was first reached from, -1 where there is none.
-/
namespace Go.Proofs.Qxb6600485a

/-- An edge from u to y. -/
def Edge (L : Nat → Nat) (T : Nat → Nat → Nat) (u y : Nat) : Prop := ∃ j, j < L u ∧ T u j = y

/-- A closed walk of k edges from v to v. -/
structure Closed (L : Nat → Nat) (T : Nat → Nat → Nat) (v k : Nat) (q : Nat → Nat) : Prop where
  pos : 0 < k
  first : q 0 = v
  last : q k = v
  edge : ∀ i, i < k → Edge L T (q i) (q (i + 1))

structure Bfs (n v : Nat) (L : Nat → Nat) (T : Nat → Nat → Nat) (F : Nat → Int) (d o : Nat → Nat) (c h : Nat) : Prop where
  cpos : 0 < c
  hle : h ≤ c
  o0 : o 0 = v
  d0 : d v = 0
  inj : ∀ i j, i < c → j < c → o i = o j → i = j
  lt : ∀ i, i < c → o i < n
  par : ∀ i, i < c → o i ≠ v → ∃ p, p < c ∧ F (o i) = (o p : Int) ∧ Edge L T (o p) (o i) ∧ d (o i) = d (o p) + 1
  neg : ∀ x, x < n → (∀ i, i < c → o i ≠ x) → F x < 0
  seen : ∀ i, i < c → o i ≠ v → 0 ≤ F (o i)
  mono : ∀ i j, i ≤ j → j < c → d (o i) ≤ d (o j)
  done : ∀ i, i < h → ∀ y, Edge L T (o i) y → y ≠ v ∧ ∃ p, p < c ∧ o p = y ∧ d y ≤ d (o i) + 1

/-- .. and within the edges of node 'o h', j of which have been followed. -/
structure BfsIn (n v : Nat) (L : Nat → Nat) (T : Nat → Nat → Nat) (F : Nat → Int) (d o : Nat → Nat) (c h j : Nat) : Prop where
  b : Bfs n v L T F d o c h
  hlt : h < c
  span : ∀ i, i < c → d (o i) ≤ d (o h) + 1
  part : ∀ i, i < j → T (o h) i ≠ v ∧ ∃ p, p < c ∧ o p = T (o h) i ∧ d (T (o h) i) ≤ d (o h) + 1

section
variable {n v : Nat} {L : Nat → Nat} {T : Nat → Nat → Nat} {F : Nat → Int} {d o : Nat → Nat} {c h j : Nat}

theorem bfs_start (hv : v < n) (hF : ∀ x, x < n → F x < 0) : Bfs n v L T F (fun _ => 0) (fun _ => v) 1 0 where
  cpos := Nat.one_pos
  hle := Nat.zero_le _
  o0 := rfl
  d0 := rfl
  inj := fun i j hi hj _ => by omega
  lt := fun _ _ => hv
  par := fun _ _ hne => absurd rfl hne
  neg := fun x hx _ => hF x hx
  seen := fun _ _ hne => absurd rfl hne
  mono := fun _ _ _ _ => Nat.le_refl _
  done := fun _ hi => absurd hi (Nat.not_lt_zero _)

/-- The breadth of the queue: at most one level. -/
def Span (d o : Nat → Nat) (c h : Nat) : Prop := h < c → ∀ i, i < c → d (o i) ≤ d (o h) + 1

theorem bfs_enter (hb : Bfs n v L T F d o c h) (hs : Span d o c h) (hlt : h < c) : BfsIn n v L T F d o c h 0 :=
  ⟨hb, hlt, hs hlt, fun _ hi => absurd hi (Nat.not_lt_zero _)⟩

theorem bfs_leave (hb : BfsIn n v L T F d o c h j) (hj : L (o h) ≤ j) : Bfs n v L T F d o c (h + 1) ∧ Span d o c (h + 1) := by
  refine ⟨{ hb.b with hle := hb.hlt, done := fun i hi y hy => ?_ }, fun hc i hi => ?_⟩
  · by_cases e : i = h
    · subst e
      obtain ⟨t, ht, rfl⟩ := hy
      exact hb.part t (by omega)
    · exact hb.b.done i (by omega) y hy
  · have h1 := hb.span i hi
    have h2 := hb.b.mono h (h + 1) (by omega) hc
    omega

theorem bfs_skip (hb : BfsIn n v L T F d o c h j) (hT : T (o h) j < n) (hne : T (o h) j ≠ v) (hF : ¬ F (T (o h) j) < 0) : BfsIn n v L T F d o c h (j + 1) := by
  have hx : ∃ p, p < c ∧ o p = T (o h) j := by
    refine Classical.byContradiction fun hno => hF (hb.b.neg _ hT (fun i hi e => hno ⟨i, hi, e⟩))
  obtain ⟨p, hp, e⟩ := hx
  refine { hb with part := fun i hi => ?_ }
  by_cases ei : i = j
  · subst ei
    have := hb.span p hp
    rw [e] at this
    exact ⟨hne, p, hp, e, this⟩
  · exact hb.part i (by omega)

theorem bfs_push (hb : BfsIn n v L T F d o c h j) (hj : j < L (o h)) (hT : T (o h) j < n) (hne : T (o h) j ≠ v) (hF : F (T (o h) j) < 0) :
    BfsIn n v L T (fun x => if x = T (o h) j then (o h : Int) else F x) (fun x => if x = T (o h) j then d (o h) + 1 else d x) (fun i => if i = c then T (o h) j else o i) (c + 1) h (j + 1) := by
  have hnew : ∀ i, i < c → o i ≠ T (o h) j := by
    intro i hi e
    by_cases ev : o i = v
    · exact hne (by rw [← e]; exact ev)
    · have := hb.b.seen i hi ev
      rw [e] at this
      omega
  have ho : ∀ i, i < c → (if i = c then T (o h) j else o i) = o i := fun i hi => if_neg (by omega)
  have hF' : ∀ i, i < c → (if o i = T (o h) j then (o h : Int) else F (o i)) = F (o i) := fun i hi => if_neg (hnew i hi)
  have hd : ∀ i, i < c → (if o i = T (o h) j then d (o h) + 1 else d (o i)) = d (o i) := fun i hi => if_neg (hnew i hi)
  have hc : (if c = c then T (o h) j else o c) = T (o h) j := if_pos rfl
  have hlt := hb.hlt
  have hcp := hb.b.cpos
  refine ⟨⟨by omega, ?_, ?_, ?_, ?_, ?_, ?_, ?_, ?_, ?_, ?_⟩, ?_, ?_, ?_⟩
  · have := hb.b.hle; omega
  · show (if 0 = c then _ else o 0) = v
    rw [ho 0 hcp]; exact hb.b.o0
  · show (if v = T (o h) j then _ else d v) = 0
    rw [if_neg (fun e => hne e.symm)]; exact hb.b.d0
  · intro i i2 hi hi2 e
    show i = i2
    by_cases e1 : i = c
    · by_cases e2 : i2 = c
      · omega
      · subst e1
        simp only [if_true] at e
        rw [ho i2 (by omega)] at e
        exact absurd e.symm (hnew i2 (by omega))
    · by_cases e2 : i2 = c
      · subst e2
        simp only [if_true] at e
        rw [ho i (by omega)] at e
        exact absurd e (hnew i (by omega))
      · skip
        rw [ho i (by omega), ho i2 (by omega)] at e
        exact hb.b.inj i i2 (by omega) (by omega) e
  · intro i hi
    show (if i = c then T (o h) j else o i) < n
    by_cases e : i = c
    · rw [if_pos e]; exact hT
    · rw [if_neg e]; exact hb.b.lt i (by omega)
  · intro i hi hnv
    by_cases e : i = c
    · subst e
      refine ⟨h, by omega, ?_, ?_, ?_⟩
      · simp only [if_true]
        rw [ho h hlt]
      · simp only [if_true]
        rw [ho h hlt]
        exact ⟨j, hj, rfl⟩
      · simp only [if_true]
        rw [ho h hlt, hd h hlt]
    · skip
      rw [ho i (by omega)] at hnv ⊢
      obtain ⟨p, hp, e1, e2, e3⟩ := hb.b.par i (by omega) hnv
      refine ⟨p, by omega, ?_, ?_, ?_⟩
      · rw [ho p hp, hF' i (by omega)]; exact e1
      · rw [ho p hp]; exact e2
      · rw [ho p hp, hd i (by omega), hd p hp]; exact e3
  · intro x hx hno
    have hxn : x ≠ T (o h) j := fun e => hno c (by omega) (by simp [e])
    show (if x = T (o h) j then (o h : Int) else F x) < 0
    rw [if_neg hxn]
    exact hb.b.neg x hx (fun i hi e => hno i (by omega) (by rw [ho i hi]; exact e))
  · intro i hi hnv
    by_cases e : i = c
    · subst e
      simp only [if_true]
      omega
    · skip
      rw [ho i (by omega)] at hnv ⊢
      rw [hF' i (by omega)]
      exact hb.b.seen i (by omega) hnv
  · intro i i2 hle hi2
    by_cases e2 : i2 = c
    · subst e2
      simp only [if_true]
      by_cases e1 : i = i2
      · subst e1; simp
      · rw [ho i (by omega), hd i (by omega)]
        exact hb.span i (by omega)
    · skip
      rw [ho i (by omega), ho i2 (by omega), hd i (by omega), hd i2 (by omega)]
      exact hb.b.mono i i2 hle (by omega)
  · intro i hi y hy
    have hic : i < c := by omega
    rw [ho i hic] at hy ⊢
    obtain ⟨h1, p, hp, e1, e2⟩ := hb.b.done i hi y hy
    refine ⟨h1, p, by omega, by rw [ho p hp]; exact e1, ?_⟩
    rw [hd i hic, ← e1, hd p hp, e1]
    exact e2
  · omega
  · intro i hi
    rw [ho h hlt, hd h hlt]
    by_cases e : i = c
    · subst e; simp
    · rw [ho i (by omega), hd i (by omega)]
      exact hb.span i (by omega)
  · intro i hi
    rw [ho h hlt, hd h hlt]
    by_cases e : i = j
    · subst e
      exact ⟨hne, c, by omega, by simp, by simp⟩
    · obtain ⟨h1, p, hp, e1, e2⟩ := hb.part i (by omega)
      refine ⟨h1, p, by omega, by rw [ho p hp]; exact e1, ?_⟩
      rw [← e1, hd p hp, e1]
      exact e2

theorem pigeon : ∀ (n c : Nat) (o : Nat → Nat), (∀ i, i < c → o i < n) → (∀ i j, i < c → j < c → o i = o j → i = j) → c ≤ n
  | 0, c, o, h1, _ => by
    rcases Nat.eq_zero_or_pos c with e | e
    · omega
    · exact absurd (h1 0 e) (Nat.not_lt_zero _)
  | n + 1, c, o, h1, h2 => by
    by_cases hx : ∃ i, i < c ∧ o i = n
    · obtain ⟨i, hi, e⟩ := hx
      have := pigeon n (c - 1) (fun j => if j = i then o (c - 1) else o j) (fun j hj => by
        show (if j = i then o (c - 1) else o j) < n
        by_cases ej : j = i
        · rw [if_pos ej]
          have h3 := h1 (c - 1) (by omega)
          by_cases e4 : o (c - 1) = n
          · have := h2 (c - 1) i (by omega) hi (by rw [e4, e])
            omega
          · omega
        · rw [if_neg ej]
          have h3 := h1 j (by omega)
          by_cases e4 : o j = n
          · have := h2 j i (by omega) hi (by rw [e4, e])
            omega
          · omega) (fun a b ha hb hab => by
        by_cases ea : a = i
        · by_cases eb : b = i
          · omega
          · simp only [ea, if_true, if_neg eb] at hab
            have := h2 (c - 1) b (by omega) (by omega) hab
            omega
        · by_cases eb : b = i
          · simp only [eb, if_true, if_neg ea] at hab
            have := h2 a (c - 1) (by omega) (by omega) hab
            omega
          · simp only [if_neg ea, if_neg eb] at hab
            exact h2 a b (by omega) (by omega) hab)
      omega
    · have := pigeon n c o (fun j hj => by
        have h3 := h1 j hj
        by_cases e4 : o j = n
        · exact absurd ⟨j, hj, e4⟩ hx
        · omega) h2
      omega

theorem Bfs.cle (hb : Bfs n v L T F d o c h) : c ≤ n := pigeon n c o hb.lt hb.inj

theorem Bfs.dle (hb : Bfs n v L T F d o c h) : ∀ m i, i < m → i < c → d (o i) ≤ i
  | 0, _, hi, _ => absurd hi (Nat.not_lt_zero _)
  | m + 1, i, hi, hc => by
    by_cases e : o i = v
    · rw [e, hb.d0]; exact Nat.zero_le _
    · obtain ⟨p, hp, _, _, e3⟩ := hb.par i hc e
      have hpi : p < i := by
        refine Nat.lt_of_not_le fun hle => ?_
        have := hb.mono i p hle hp
        omega
      have := Bfs.dle hb m p (by omega) hp
      omega

/-- ch leads from its head by F to v in k steps. -/
structure Chain (n v k : Nat) (F : Nat → Int) (ch : Nat → Nat) : Prop where
  last : ch k = v
  step : ∀ i, i < k → ch i ≠ v ∧ ch i < n ∧ F (ch i) = (ch (i + 1) : Int)

theorem Chain.lt {n v k : Nat} {F : Nat → Int} {ch : Nat → Nat} (h : Chain n v k F ch) (hv : v < n) (i : Nat) (hi : i ≤ k) : ch i < n := by
  by_cases e : i = k
  · subst e; rw [h.last]; exact hv
  · exact (h.step i (by omega)).2.1

/-- One link ahead of a chain. -/
def link (x : Nat) (ch : Nat → Nat) : Nat → Nat
  | 0 => x
  | i + 1 => ch i

theorem Bfs.chain (hb : Bfs n v L T F d o c h) : ∀ m i, i < c → d (o i) = m → ∃ ch, ch 0 = o i ∧ Chain n v m F ch ∧ ∀ t, t < m → Edge L T (ch (t + 1)) (ch t)
  | 0, i, hi, hd => by
    have e : o i = v := by
      refine Classical.byContradiction fun hne => ?_
      obtain ⟨p, _, _, _, e3⟩ := hb.par i hi hne
      omega
    exact ⟨fun _ => v, e.symm, ⟨rfl, fun t ht => absurd ht (Nat.not_lt_zero _)⟩, fun t ht => absurd ht (Nat.not_lt_zero _)⟩
  | m + 1, i, hi, hd => by
    have hne : o i ≠ v := by
      intro e
      rw [e, hb.d0] at hd
      omega
    obtain ⟨p, hp, e1, e2, e3⟩ := hb.par i hi hne
    obtain ⟨ch, c0, c1, c2⟩ := Bfs.chain hb m p hp (by omega)
    refine ⟨link (o i) ch, rfl, ⟨c1.last, fun t ht => ?_⟩, fun t ht => ?_⟩
    · match t with
      | 0 =>
        refine ⟨hne, hb.lt i hi, ?_⟩
        show F (o i) = (ch 0 : Int)
        rw [c0]; exact e1
      | t + 1 => exact c1.step t (by omega)
    · match t with
      | 0 =>
        show Edge L T (ch 0) (o i)
        rw [c0]; exact e2
      | t + 1 => exact c2 t (by omega)

/-- The edge that comes back to v: its closed walk, none of them shorter. -/
theorem bfs_found (hb : BfsIn n v L T F d o c h j) (hj : j < L (o h)) (hv : T (o h) j = v) :
    ∃ k ch, k ≤ n ∧ ch 0 = o h ∧ Chain n v k F ch ∧ Closed L T v (k + 1) (fun i => if i ≤ k then ch (k - i) else v) ∧ ∀ k' q, Closed L T v k' q → k + 1 ≤ k' := by
  obtain ⟨ch, c0, c1, c2⟩ := hb.b.chain (d (o h)) h hb.hlt rfl
  have hdl := hb.b.dle (h + 1) h (by omega) hb.hlt
  have hcl := hb.b.cle
  have hlt := hb.hlt
  refine ⟨d (o h), ch, by omega, c0, c1, ⟨by omega, ?_, ?_, fun i hi => ?_⟩, fun k' q hq => ?_⟩
  · show (if 0 ≤ d (o h) then ch (d (o h) - 0) else v) = v
    rw [if_pos (Nat.zero_le _)]
    exact c1.last
  · show (if d (o h) + 1 ≤ d (o h) then _ else v) = v
    rw [if_neg (by omega)]
  · show Edge L T (if i ≤ d (o h) then ch (d (o h) - i) else v) (if i + 1 ≤ d (o h) then ch (d (o h) - (i + 1)) else v)
    rw [if_pos (by omega)]
    by_cases e : i = d (o h)
    · rw [if_neg (by omega), e, Nat.sub_self, c0]
      exact ⟨j, hj, hv⟩
    · rw [if_pos (by omega)]
      have := c2 (d (o h) - (i + 1)) (by omega)
      rwa [show d (o h) - (i + 1) + 1 = d (o h) - i by omega] at this
  · refine Nat.le_of_not_lt fun hlt' => ?_
    have hk := hq.pos
    have key : ∀ i, i < k' → ∃ p, p < h ∧ o p = q i ∧ d (q i) ≤ i := by
      intro i
      induction i with
      | zero =>
        intro _
        refine ⟨0, ?_, by rw [hq.first]; exact hb.b.o0, by rw [hq.first, hb.b.d0]; exact Nat.le_refl _⟩
        refine Nat.pos_of_ne_zero fun e => ?_
        rw [e, hb.b.o0, hb.b.d0] at hlt'
        omega
      | succ i ih =>
        intro hi
        obtain ⟨p, hp, e, hd⟩ := ih (by omega)
        obtain ⟨_, p', hp', e', hd'⟩ := hb.b.done p hp (q (i + 1)) (by rw [e]; exact hq.edge i (by omega))
        rw [e] at hd'
        refine ⟨p', ?_, e', by omega⟩
        refine Nat.lt_of_not_le fun hle => ?_
        have := hb.b.mono h p' hle hp'
        rw [e'] at this
        omega
    obtain ⟨p, hp, e, _⟩ := key (k' - 1) (by omega)
    have hne := (hb.b.done p hp v (by
      rw [e]
      have := hq.edge (k' - 1) (by omega)
      rwa [show k' - 1 + 1 = k' by omega, hq.last] at this)).1
    exact hne rfl

/-- The queue has run dry: no closed walk. -/
theorem bfs_dry (hb : Bfs n v L T F d o c h) (hc : c ≤ h) (k' : Nat) (q : Nat → Nat) (hq : Closed L T v k' q) : False := by
  have hk := hq.pos
  have key : ∀ i, i < k' → ∃ p, p < h ∧ o p = q i := by
    intro i
    induction i with
    | zero => exact fun _ => ⟨0, by have := hb.cpos; omega, by rw [hq.first]; exact hb.o0⟩
    | succ i ih =>
      intro hi
      obtain ⟨p, hp, e⟩ := ih (by omega)
      obtain ⟨_, p', hp', e', _⟩ := hb.done p hp (q (i + 1)) (by rw [e]; exact hq.edge i (by omega))
      exact ⟨p', by omega, e'⟩
  obtain ⟨p, hp, e⟩ := key (k' - 1) (by omega)
  have hne := (hb.done p hp v (by
    rw [e]
    have := hq.edge (k' - 1) (by omega)
    rwa [show k' - 1 + 1 = k' by omega, hq.last] at this)).1
  exact hne rfl

end
end Go.Proofs.Qxb6600485a
