/-
  Seat b6604016a: the plain law of comments: no Go here. 'B p': byte p of a text of n bytes. 'scan': the scanner that counts how deep it stands; what it answers at depth d + 1 is what it answers at depth 1, and from there at depth d.
-/
namespace Go.Proofs.Qxb6604016a

/-- A byte that may stand unquoted. -/
def text (c : Nat) : Bool := decide (1 ≤ c) && (decide (c < 128) && (decide (c ≠ 13) && decide (c ≠ 10)))

theorem text_yes {c : Nat} (h0 : 1 ≤ c) (h3 : c < 128) (h1 : c ≠ 13) (h2 : c ≠ 10) : text c = true := by
  unfold text
  rw [decide_eq_true h0, decide_eq_true h3, decide_eq_true h1, decide_eq_true h2]
  rfl

theorem text_no {c : Nat} (h : ¬ 1 ≤ c ∨ ¬ c < 128 ∨ c = 13 ∨ c = 10) : text c = false := by
  unfold text
  rcases h with h | h | h | h
  · rw [decide_eq_false h]; rfl
  · rw [decide_eq_false h]; cases decide (1 ≤ c) <;> rfl
  · rw [h]; rfl
  · rw [h]; rfl

def scan (n : Nat) (B : Nat → Nat) : Nat → Nat → Nat → Bool × Nat
  | 0, p, _ => (false, p)
  | k + 1, p, d =>
    if p < n then
      if B p = 40 then scan n B k (p + 1) (d + 1)
      else if B p = 41 then (if d = 1 then (true, p + 1) else scan n B k (p + 1) (d - 1))
      else if B p = 92 then (if p + 1 = n then (false, p + 1) else if 128 ≤ B (p + 1) then (false, p + 1) else scan n B k (p + 2) d)
      else if text (B p) = true then scan n B k (p + 1) d else (false, p + 1)
    else (false, p)

/-- Fuel enough is fuel enough. -/
theorem scan_fuel (n : Nat) (B : Nat → Nat) : ∀ k k' p d, n ≤ p + k → n ≤ p + k' → scan n B k p d = scan n B k' p d
  | 0, 0, _, _, _, _ => rfl
  | 0, k' + 1, p, d, h, _ => by
    simp only [scan]
    rw [if_neg (by omega)]
  | k + 1, 0, p, d, _, h => by
    simp only [scan]
    rw [if_neg (by omega)]
  | k + 1, k' + 1, p, d, h, h' => by
    simp only [scan]
    rw [scan_fuel n B k k' (p + 1) (d + 1) (by omega) (by omega), scan_fuel n B k k' (p + 1) (d - 1) (by omega) (by omega), scan_fuel n B k k' (p + 2) d (by omega) (by omega), scan_fuel n B k k' (p + 1) d (by omega) (by omega)]

/-- From place p at depth d. -/
def S (n : Nat) (B : Nat → Nat) (p d : Nat) : Bool × Nat := scan n B (n - p) p d

section
variable {n : Nat} {B : Nat → Nat} {p d : Nat}

theorem S_eq (hp : p < n) : S n B p d =
      if B p = 40 then S n B (p + 1) (d + 1)
      else if B p = 41 then (if d = 1 then (true, p + 1) else S n B (p + 1) (d - 1))
      else if B p = 92 then (if p + 1 = n then (false, p + 1) else if 128 ≤ B (p + 1) then (false, p + 1) else S n B (p + 2) d)
      else if text (B p) = true then S n B (p + 1) d else (false, p + 1) := by
  obtain ⟨k, hk⟩ : ∃ k, n - p = k + 1 := ⟨n - p - 1, by omega⟩
  unfold S
  rw [hk]
  simp only [scan]
  rw [if_pos hp]
  have e1 : n - (p + 1) = k := by omega
  rw [e1, scan_fuel n B k (n - (p + 2)) (p + 2) d (by omega) (by omega)]

theorem S_end (hp : n ≤ p) : S n B p d = (false, p) := by
  unfold S
  rw [show n - p = 0 by omega]
  rfl

theorem S_open (hp : p < n) (h : B p = 40) : S n B p d = S n B (p + 1) (d + 1) := by rw [S_eq hp, if_pos h]
theorem S_close (hp : p < n) (h : B p = 41) : S n B p d = if d = 1 then (true, p + 1) else S n B (p + 1) (d - 1) := by
  rw [S_eq hp, if_neg (by omega), if_pos h]
theorem S_quote (hp : p < n) (h : B p = 92) : S n B p d = if p + 1 = n then (false, p + 1) else if 128 ≤ B (p + 1) then (false, p + 1) else S n B (p + 2) d := by
  rw [S_eq hp, if_neg (by omega), if_neg (by omega), if_pos h]
theorem S_text (hp : p < n) (h1 : B p ≠ 40) (h2 : B p ≠ 41) (h3 : B p ≠ 92) : S n B p d = if text (B p) = true then S n B (p + 1) d else (false, p + 1) := by
  rw [S_eq hp, if_neg h1, if_neg h2, if_neg h3]

/-- Depth d + 1 (d at least 1): through the comment that stands open, then on at depth d. -/
theorem S_deep : ∀ m p d, n - p ≤ m → 0 < d → S n B p (d + 1) = if (S n B p 1).1 = true then S n B (S n B p 1).2 d else (false, (S n B p 1).2) := by
  -- told for every depth at once: what stands e above
  have gen : ∀ m p e d, n - p ≤ m → 0 < e → 0 < d → S n B p (e + d) = if (S n B p e).1 = true then S n B (S n B p e).2 d else (false, (S n B p e).2) := by
    intro m
    induction m with
    | zero =>
      intro p e d hm he hd
      rw [S_end (d := e + d) (by omega), S_end (d := e) (by omega)]
      simp
    | succ m ih =>
      intro p e d hm he hd
      by_cases hp : p < n
      · by_cases h1 : B p = 40
        · rw [S_open hp h1, S_open hp h1, show e + d + 1 = e + 1 + d by omega]
          exact ih (p + 1) (e + 1) d (by omega) (by omega) hd
        · by_cases h2 : B p = 41
          · rw [S_close (d := e + d) hp h2, S_close (d := e) hp h2, if_neg (by omega)]
            by_cases he1 : e = 1
            · rw [if_pos he1, he1, show 1 + d - 1 = d by omega]
              simp
            · rw [if_neg he1, show e + d - 1 = e - 1 + d by omega]
              exact ih (p + 1) (e - 1) d (by omega) (by omega) hd
          · by_cases h3 : B p = 92
            · rw [S_quote (d := e + d) hp h3, S_quote (d := e) hp h3]
              by_cases h4 : p + 1 = n
              · rw [if_pos h4, if_pos h4]; simp
              · rw [if_neg h4, if_neg h4]
                by_cases h5 : 128 ≤ B (p + 1)
                · rw [if_pos h5, if_pos h5]; simp
                · rw [if_neg h5, if_neg h5]
                  exact ih (p + 2) e d (by omega) he hd
            · rw [S_text (d := e + d) hp h1 h2 h3, S_text (d := e) hp h1 h2 h3]
              by_cases h4 : text (B p) = true
              · rw [if_pos h4, if_pos h4]
                exact ih (p + 1) e d (by omega) he hd
              · rw [if_neg h4, if_neg h4]; simp
      · rw [S_end (d := e + d) (by omega), S_end (d := e) (by omega)]
        simp
  intro m p d hm hd
  rw [show d + 1 = 1 + d by omega]
  exact gen m p 1 d hm (by omega) hd

/-- It ends no farther than the text, and not behind where it began. -/
theorem S_le : ∀ m p d, n - p ≤ m → p ≤ n → p ≤ (S n B p d).2 ∧ (S n B p d).2 ≤ n := by
  intro m
  induction m with
  | zero =>
    intro p d hm hp
    rw [S_end (by omega)]
    exact ⟨Nat.le_refl _, hp⟩
  | succ m ih =>
    intro p d hm hpn
    by_cases hp : p < n
    · have a1 := ih (p + 1) (d + 1) (by omega) (by omega)
      have a2 := ih (p + 1) (d - 1) (by omega) (by omega)
      have a4 := ih (p + 1) d (by omega) (by omega)
      rw [S_eq hp]
      by_cases h1 : B p = 40
      · rw [if_pos h1]; omega
      · rw [if_neg h1]
        by_cases h2 : B p = 41
        · rw [if_pos h2]
          by_cases h3 : d = 1
          · rw [if_pos h3]; show p ≤ p + 1 ∧ p + 1 ≤ n; omega
          · rw [if_neg h3]; omega
        · rw [if_neg h2]
          by_cases h3 : B p = 92
          · rw [if_pos h3]
            by_cases h4 : p + 1 = n
            · rw [if_pos h4]; show p ≤ p + 1 ∧ p + 1 ≤ n; omega
            · rw [if_neg h4]
              by_cases h5 : 128 ≤ B (p + 1)
              · rw [if_pos h5]; show p ≤ p + 1 ∧ p + 1 ≤ n; omega
              · rw [if_neg h5]
                have a3 := ih (p + 2) d (by omega) (by omega)
                omega
          · rw [if_neg h3]
            by_cases h4 : text (B p) = true
            · rw [if_pos h4]; omega
            · rw [if_neg h4]; show p ≤ p + 1 ∧ p + 1 ≤ n; omega
    · rw [S_end (by omega)]
      exact ⟨Nat.le_refl _, hpn⟩

end
end Go.Proofs.Qxb6604016a
