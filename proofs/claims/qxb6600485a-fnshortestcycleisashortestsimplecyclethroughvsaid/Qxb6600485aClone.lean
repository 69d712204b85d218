import Derived.Test.Qxb6600485aBase
namespace Go.Proofs.Qxb6600485a
open Go.RowKit

/-- What a call that hands back a new slice of n ints, f, has done. -/
def NewInts (w : World) (n : Nat) (f : Nat → Int) (e : Ending) (w' : World) : Prop :=
  ∃ a' c', e = .returned (.slice a' n c') ∧ IntsFrom w.heap.size w' a' n f ∧ Below w.heap.size w w'

/-- A row of the call's own, read. -/
theorem intsFrom_row {w : World} {b n : Nat} {f : Nat → Int} (h : w.rowIs b 3 n (fun i => .int .i64 (f i))) : IntsFrom b w (some ⟨b, 0, none⟩) n f :=
  fun j hj => ⟨b, 0, rfl, Nat.le_refl _, by rw [Nat.zero_add]; exact h.cell hj⟩

set_option maxHeartbeats 400000 in
theorem cloneInts_any (a : Option Addr) (n c : Nat) (f : Nat → Int) (w : World) (hn : n ≤ 1048576) (h : IntsAt w a n f) :
    Calls Try.prog 12 #[.slice a n c] w fun e w' => NewInts w n f e w' := by
  have q22 : ∀ (w : World) (a : Option Addr) (n c n' c' : Nat), (binOp .eql 22 (.slice a n c) (.slice none n' c')).run Try.prog w = .ok (.bool a.isNone) w := fun w a n c n' c' => Lib.run_eql_slice_nil w _ _ a n c n' c' Try.underlying22
  have hmk := run_make_row' (P := Try.prog) 22 3 (.int .i64 0) 8 Try.underlying22 Try.info3 rfl .i64 .i64 n (by omega) (by omega)
  cases a with
  | none =>
    obtain rfl := h.nil
    go_enter Try.func12, Try.ntmps12
    go_wp2
    go_ret
    exact ⟨none, 0, rfl, fun j hj => absurd hj (Nat.not_lt_zero _), Below.refl _ _⟩
  | some A =>
    go_enter Try.func12, Try.ntmps12
    go_wp2
    go_loopg [4] n (fun k i wr => ∃ m : Nat, m + k = n ∧ i = .int .i64 m ∧ wr.rowIs w.heap.size 3 n (fun j => if j < m then .int .i64 (f j) else .int .i64 0) ∧ Below w.heap.size w wr)
    case atStart => exact ⟨0, by omega, rfl, (World.rowIs_made w _ n 3).congr (fun j _ => by simp), (Below.refl _ _).alloc (Nat.le_refl _) _⟩
    case round =>
      obtain ⟨m, hm, rfl, hrow, hb⟩ := hrel
      by_cases hlt : m < n
      · obtain ⟨b, off, rfl, hc⟩ : ∃ b off, A = ⟨b, off, none⟩ ∧ w.cell? ⟨b, off + m, none⟩ = some (.int .i64 (f m)) := by
          obtain ⟨b, off, e, hc⟩ := h m hlt
          exact ⟨b, off, Option.some.inj e, hc⟩
        have hc1 : wr.cell? ⟨b, off + m, none⟩ = some (.int .i64 (f m)) := (hb.cell (p := ⟨b, off + m, none⟩) (World.block_lt_of_cell? _ _ hc)).trans hc
        have hc2 := hrow.cell hlt
        have hf2 := hrow.frozen m
        clear hc h
        go_wp2
        go_roundg (gk - 1)
        case measure => omega
        case rel =>
          refine ⟨m + 1, by omega, by go_num, (hrow.set m _).congr (fun j _ => ?_), hb.setCell (Nat.le_refl _) _⟩
          by_cases e : j = m
          · subst e; simp
          · rw [if_neg e]
            by_cases hj : j < m
            · rw [if_pos hj, if_pos (by omega)]
            · rw [if_neg hj, if_neg (by omega)]
      · go_wp2
        go_ret
        refine ⟨some ⟨w.heap.size, 0, none⟩, n, rfl, intsFrom_row (hrow.congr (fun j hj => ?_)), hb⟩
        rw [if_pos (by omega)]

/-- What a call that hands back a new slice of n rows has done. -/
def NewRows (w : World) (n : Nat) (L : Nat → Nat) (E : Nat → Nat → Int) (e : Ending) (w' : World) : Prop :=
  ∃ a' c', e = .returned (.slice a' n c') ∧ RowsAt w' a' n L E ∧ Below w.heap.size w w'

/-- The first m rows are laid. -/
structure RowsPart (w wr : World) (n m : Nat) (L : Nat → Nat) (E : Nat → Nat → Int) (T : Nat → Value) : Prop where
  row : wr.rowIs w.heap.size 22 n T
  done : ∀ i, i < m → ∃ a' c', T i = .slice a' (L i) c' ∧ IntsFrom (w.heap.size + 1) wr a' (L i) (E i)
  bel : Below w.heap.size w wr

theorem rowsPart_step {w wr w1 : World} {n m : Nat} {L : Nat → Nat} {E : Nat → Nat → Int} {T : Nat → Value} (h : RowsPart w wr n m L E T) (a' : Option Addr) (c' : Nat)
    (hi : IntsFrom wr.heap.size w1 a' (L m) (E m)) (hb : Below wr.heap.size wr w1) :
    RowsPart w (w1.setCell ⟨w.heap.size, m, none⟩ (.slice a' (L m) c')) n (m + 1) L E (fun j => if j = m then .slice a' (L m) c' else T j) := by
  have hlt := h.row.lt
  have hrow1 : w1.rowIs w.heap.size 22 n T := h.row.of_block (hb.block _ hlt)
  refine ⟨hrow1.set m _, fun i hi' => ?_, (h.bel.trans (hb.mono (by omega))).setCell (Nat.le_refl _) _⟩
  by_cases e : i = m
  · subst e
    exact ⟨a', c', if_pos rfl, (hi.mono (by omega)).setCell (by show w.heap.size < _; omega) _⟩
  · obtain ⟨a2, c2, e2, h2⟩ := h.done i (by omega)
    exact ⟨a2, c2, by rw [if_neg e]; exact e2, (h2.below hb).setCell (by show w.heap.size < _; omega) _⟩

set_option maxHeartbeats 400000 in
theorem cloneEdges_any (a : Option Addr) (n c : Nat) (L : Nat → Nat) (E : Nat → Nat → Int) (w : World) (hn : n ≤ 1048576) (hL : ∀ i, i < n → L i ≤ 1048576) (h : RowsAt w a n L E) :
    Calls Try.prog 13 #[.slice a n c] w fun e w' => NewRows w n L E e w' := by
  have q23 : ∀ (w : World) (a : Option Addr) (n c n' c' : Nat), (binOp .eql 23 (.slice a n c) (.slice none n' c')).run Try.prog w = .ok (.bool a.isNone) w := fun w a n c n' c' => Lib.run_eql_slice_nil w _ _ a n c n' c' Try.underlying23
  have hmk := run_make_row' (P := Try.prog) 23 22 (.slice none 0 0) 24 Try.underlying23 Try.info22 rfl .i64 .i64 n (by omega) (by omega)
  cases a with
  | none =>
    obtain rfl := h.nil
    go_enter Try.func13, Try.ntmps13
    go_wp2
    go_ret
    exact ⟨none, 0, rfl, fun j hj => absurd hj (Nat.not_lt_zero _), Below.refl _ _⟩
  | some A =>
    go_enter Try.func13, Try.ntmps13
    go_wp2
    go_loopg [4] n (fun k i wr => ∃ (m : Nat) (T : Nat → Value), m + k = n ∧ i = .int .i64 m ∧ RowsPart w wr n m L E T)
    case atStart => exact ⟨0, _, by omega, rfl, World.rowIs_made w _ n 22, fun i hi => absurd hi (Nat.not_lt_zero _), (Below.refl _ _).alloc (Nat.le_refl _) _⟩
    case round =>
      obtain ⟨m, T, hm, rfl, hp⟩ := hrel
      by_cases hlt : m < n
      · obtain ⟨b, off, a', c', rfl, hc, hr⟩ : ∃ b off a' c', A = ⟨b, off, none⟩ ∧ w.cell? ⟨b, off + m, none⟩ = some (.slice a' (L m) c') ∧ IntsAt w a' (L m) (E m) := by
          obtain ⟨b, off, a', c', e, hc⟩ := h m hlt
          exact ⟨b, off, a', c', Option.some.inj e, hc⟩
        have hc1 : wr.cell? ⟨b, off + m, none⟩ = some (.slice a' (L m) c') := (hp.bel.cell (p := ⟨b, off + m, none⟩) (World.block_lt_of_cell? _ _ hc)).trans hc
        have hc2 := hp.row.cell hlt
        have hf2 := hp.row.frozen m
        have hrr : IntsAt wr a' (L m) (E m) := hr.below (hp.bel)
        have hLm := hL m hlt
        clear hc h hL hr
        go_wp2_with fail
        refine (cloneInts_any _ _ _ _ _ hLm hrr).mono ?_
        rintro e w1 ⟨a2, c2, rfl, hi, hb⟩
        have hc3 : w1.cell? ⟨w.heap.size, m, none⟩ = some (T m) := (hb.cell (p := ⟨w.heap.size, m, none⟩) hp.row.lt).trans hc2
        have hf3 : w1.frozen? ⟨w.heap.size, m, none⟩ = false := (hb.frozen (p := ⟨w.heap.size, m, none⟩) hp.row.lt).trans hf2
        have R := rowsPart_step hp a2 c2 hi hb
        clear hc1 hc2 hf2 hrr hi
        go_wp2
        go_roundg (gk - 1)
        case measure => omega
        case rel => exact ⟨m + 1, _, by omega, by go_num, R⟩
      · go_wp2
        go_ret
        refine ⟨some ⟨w.heap.size, 0, none⟩, n, rfl, fun i hi => ?_, hp.bel⟩
        obtain ⟨a', c', e, hr⟩ := hp.done i (by omega)
        exact ⟨w.heap.size, 0, a', c', rfl, by rw [Nat.zero_add, hp.row.cell hi, e], hr.at⟩

end Go.Proofs.Qxb6600485a
