/-
  Seat b6600485a: identity (18), hasEdge (28), isSimpleCycle (20).
-/
import Derived.Test.Qxb6600485aClone
import Derived.Test.Qxb6600485aRelax
namespace Go.Proofs.Qxb6600485a
open Go.RowKit

theorem Try.info4 : (Try.prog.info? 4).map (fun i => (i.zero, i.size, i.bytes)) = some (some (.bool false), 1, 1) := by kernel_rfl

set_option maxHeartbeats 400000 in
theorem identity_any (n : Nat) (w : World) (hn : n ≤ 1048576) : Calls Try.prog 18 #[.int .i64 n] w fun e w' => NewInts w n (fun j => (j : Int)) e w' := by
  have hmk := run_make_row' (P := Try.prog) 22 3 (.int .i64 0) 8 Try.underlying22 Try.info3 rfl .i64 .i64 n (by omega) (by omega)
  go_enter Try.func18, Try.ntmps18
  go_wp2
  go_loopg [4] n (fun k i wr => ∃ m : Nat, m + k = n ∧ i = .int .i64 m ∧ wr.rowIs w.heap.size 3 n (fun j => if j < m then .int .i64 (j : Int) else .int .i64 0) ∧ Below w.heap.size w wr)
  case atStart => exact ⟨0, by omega, rfl, (World.rowIs_made w _ n 3).congr (fun j _ => by simp), (Below.refl _ _).alloc (Nat.le_refl _) _⟩
  case round =>
    obtain ⟨m, hm, rfl, hrow, hb⟩ := hrel
    by_cases hlt : m < n
    · have hc2 := hrow.cell hlt
      have hf2 := hrow.frozen m
      go_wp2
      go_roundg (gk - 1)
      case measure => omega
      case rel =>
        refine ⟨m + 1, by omega, by go_num, (hrow.set m _).congr (fun j _ => ?_), hb.setCell (Nat.le_refl _) _⟩
        by_cases e : j = m
        · subst e; simp
        · rw [if_neg e]
          by_cases hj : j < m
          · rw [if_pos hj, if_pos (by omega)]
          · rw [if_neg hj, if_neg (by omega)]
    · go_wp2
      go_ret
      exact ⟨some ⟨w.heap.size, 0, none⟩, n, rfl, intsFrom_row (hrow.congr (fun j hj => if_pos (by omega))), hb⟩

set_option maxHeartbeats 400000 in
theorem hasEdge_yes (a : Option Addr) (n c u y : Nat) (L : Nat → Nat) (T : Nat → Nat → Nat) (w : World) (hu : u < n) (hL : L u ≤ 1048576) (h : RowsAt w a n L (fun u j => (T u j : Int))) (he : Edge L T u y) :
    Calls Try.prog 28 #[.slice a n c, .int .i64 u, .int .i64 y] w fun e w' => e = .returned (.bool true) ∧ w' = w := by
  obtain ⟨j0, hj0, hjT⟩ := he
  obtain ⟨b, off, a', c', rfl, hc, hr⟩ := h u hu
  have HJ := hide hjT
  have HR := hide hr
  clear h hr hjT
  go_enter Try.func28, Try.ntmps28
  go_wp2
  go_loopg [7] (L u) (fun k i wr => ∃ m : Nat, m + k = L u ∧ i = .int .i64 m ∧ wr = w ∧ m ≤ j0)
  case atStart => exact ⟨0, by omega, rfl, rfl, Nat.zero_le _⟩
  case round =>
    obtain ⟨m, hm, rfl, rfl, hmj⟩ := hrel
    have hlt : m < L u := by omega
    obtain ⟨b2, off2, rfl, hc2⟩ := HR.out m hlt
    obtain ⟨z, hz⟩ : ∃ z, T u m = z := ⟨_, rfl⟩
    simp only [hz] at hc2
    have HZ := hide hz
    clear hz
    by_cases e : z = y
    · have e' : ((z : Int) == (y : Int)) = true := by simp [e]
      clear e
      go_wp2
      go_ret
      exact ⟨rfl, rfl⟩
    · have e' : ((z : Int) == (y : Int)) = false := by simp; omega
      have hne : m ≠ j0 := fun h => e (by rw [← HZ.out, h]; exact HJ.out)
      go_wp2
      go_roundg (gk - 1)
      case measure => omega
      case rel => exact ⟨m + 1, by omega, by go_num, rfl, by omega⟩

/-- A closed walk of k edges that meets no node twice, in range. -/
structure Simple (n k : Nat) (L : Nat → Nat) (T : Nat → Nat → Nat) (q : Nat → Nat) : Prop where
  pos : 0 < k
  le : k ≤ n
  lt : ∀ i, i ≤ k → q i < n
  ends : q k = q 0
  edge : ∀ i, i < k → Edge L T (q i) (q (i + 1))
  inj : ∀ i j, i < k → j < k → q i = q j → i = j

/-- The marks: the first m nodes. -/
structure Seen (w wr : World) (n m : Nat) (q : Nat → Nat) (S : Nat → Bool) : Prop where
  row : wr.rowIs w.heap.size 4 n (fun j => .bool (S j))
  bel : Below w.heap.size w wr
  iff : ∀ x, x < n → (S x = true → ∃ i, i < m ∧ q i = x)

theorem RowsAt.drewN {w : World} {a : Option Addr} {n : Nat} {L : Nat → Nat} {E : Nat → Nat → Int} (h : RowsAt w a n L E) (k : Nat) : RowsAt (w.drewN k) a n L E := h

set_option maxHeartbeats 2000000 in
set_option maxRecDepth 100000 in
theorem simple_yes (ac a : Option Addr) (n cc c k : Nat) (L : Nat → Nat) (T : Nat → Nat → Nat) (q : Nat → Nat) (w : World) (hn : n ≤ 1048576) (hL : ∀ u, u < n → L u ≤ 1048576) (hc : IntsAt w ac (k + 1) (fun j => (q j : Int))) (hr : RowsAt w a n L (fun u j => (T u j : Int))) (hs : Simple n k L T q) :
    Calls Try.prog 20 #[.slice ac (k + 1) cc, .slice a n c] w fun e w' => e = .returned (.bool true) ∧ Below w.heap.size w w' := by
  have hmk := run_make_row' (P := Try.prog) 42 4 (.bool false) 1 Try.underlying42 Try.info4 rfl .i64 .i64 n (by omega) (by omega)
  have hk := hs.le
  have hk0 := hs.pos
  have HC := hide hc
  have HR := hide hr
  have HS := hide hs
  have HL := hide hL
  obtain ⟨bc, offc, rfl, hc0⟩ := hc 0 (by omega)
  obtain ⟨bc2, offc2, e2, hck⟩ := hc k (by omega)
  simp only [Option.some.injEq, Addr.mk.injEq, and_true] at e2
  obtain ⟨rfl, rfl⟩ := e2
  obtain ⟨v, hv⟩ : ∃ v, q 0 = v := ⟨_, rfl⟩
  have hvk : q k = v := by rw [hs.ends, hv]
  simp only [hv, Nat.add_zero] at hc0
  simp only [hvk] at hck
  have hki : (k : Int) < (k : Int) + 1 := by omega
  have hki0 : (0 : Int) < (k : Int) + 1 := by omega
  have hA : decide ((k : Int) + 1 < 2) = false := by simp; omega
  have hB : decide (n < k) = false := by simp; omega
  clear hc hr hs hL hv hvk
  go_enter Try.func20, Try.ntmps20
  go_wp2
  go_loopg [6] (k + 1) (fun g i wr => ∃ m : Nat, m + g = k + 1 ∧ i = .int .i64 m ∧ wr = w)
  case atStart => exact ⟨0, by omega, rfl, rfl⟩
  case round =>
    obtain ⟨m, hm, rfl, rfl⟩ := hrel
    by_cases hlt : m < k + 1
    · obtain ⟨b1, off1, e1, hcm⟩ := HC.out m hlt
      simp only [Option.some.injEq, Addr.mk.injEq, and_true] at e1
      obtain ⟨rfl, rfl⟩ := e1
      have hqn := HS.out.lt m (by omega)
      obtain ⟨z, hz⟩ : ∃ z, q m = z := ⟨_, rfl⟩
      simp only [hz] at hcm hqn
      clear hz hc0 hck
      go_wp2
      go_roundg (gk - 1)
      case measure => omega
      case rel => exact ⟨m + 1, by omega, by go_num, rfl⟩
    · have hlt' : decide ((m : Int) < (k : Int) + 1) = false := by simp; omega
      go_wp2
      go_quiet (fail)
      go_wp2
      obtain ⟨w0, hw0⟩ : ∃ w0, w0 = wr := ⟨_, rfl⟩
      go_loopg [8] k (fun g i wq => ∃ (m : Nat) (S : Nat → Bool), m + g = k ∧ i = .int .i64 m ∧ Seen w0 wq n m q S)
      case atStart =>
        rw [hw0]
        refine ⟨0, fun _ => false, by omega, rfl, World.rowIs_made (wr.drewN _) _ n 4, ?_, fun x _ h => by cases h⟩
        exact (below_drewN (Below.refl wr.heap.size wr) _).alloc (Nat.le_refl _) _
      case round =>
        subst hw0
        clear hmk hc0 hck hlt' hki0
        obtain ⟨m, S, hm, rfl, hS⟩ := hrel
        have hb := hS.bel
        by_cases hlt : m < k
        · obtain ⟨b1, off1, e1, hcm⟩ := HC.out m (by omega)
          simp only [Option.some.injEq, Addr.mk.injEq, and_true] at e1
          obtain ⟨rfl, rfl⟩ := e1
          obtain ⟨b1, off1, e1, hcm1⟩ := HC.out (m + 1) (by omega)
          simp only [Option.some.injEq, Addr.mk.injEq, and_true] at e1
          obtain ⟨rfl, rfl⟩ := e1
          have hE := HS.out.edge m hlt
          have hxn := HS.out.lt m (by omega)
          have hSx : S (q m) = false := by
            cases e : S (q m) with
            | false => rfl
            | true =>
              obtain ⟨i, hi, e2⟩ := hS.iff (q m) hxn e
              have := HS.out.inj i m (by omega) hlt e2
              omega
          obtain ⟨x, hx⟩ : ∃ x, q m = x := ⟨_, rfl⟩
          obtain ⟨y, hy⟩ : ∃ y, q (m + 1) = y := ⟨_, rfl⟩
          have HX := hide hx
          simp only [hx, hy] at hcm hcm1 hE hxn hSx
          have hc1 : wr.cell? ⟨bc, offc + m, none⟩ = some (.int .i64 (x : Int)) := (hb.cell (p := ⟨bc, offc + m, none⟩) (World.block_lt_of_cell? _ _ hcm)).trans hcm
          have hc2 : wr.cell? ⟨bc, offc + (m + 1), none⟩ = some (.int .i64 (y : Int)) := (hb.cell (p := ⟨bc, offc + (m + 1), none⟩) (World.block_lt_of_cell? _ _ hcm1)).trans hcm1
          have hbne : w0.heap.size ≠ bc := by have := World.block_lt_of_cell? _ _ hcm; exact fun e => by rw [e] at this; exact Nat.lt_irrefl _ this
          have hc1s : ∀ u, (wr.setCell ⟨w0.heap.size, x, none⟩ u).cell? ⟨bc, offc + m, none⟩ = some (.int .i64 (x : Int)) := fun u => (cell_setCell_other _ _ _ _ (show bc ≠ w0.heap.size from fun e => hbne e.symm)).trans hc1
          have hc2s : ∀ u, (wr.setCell ⟨w0.heap.size, x, none⟩ u).cell? ⟨bc, offc + (m + 1), none⟩ = some (.int .i64 (y : Int)) := fun u => (cell_setCell_other _ _ _ _ (show bc ≠ w0.heap.size from fun e => hbne e.symm)).trans hc2
          have hcS := hS.row.cell hxn
          rw [hSx] at hcS
          have hfS := hS.row.frozen x
          have HE := hide hE
          have HSn := hide hS
          have hRW : RowsAt (wr.setCell ⟨w0.heap.size, x, none⟩ (.bool true)) a n L (fun u j => (T u j : Int)) := HR.out.below (hb.setCell (Nat.le_refl _) _)
          have HRW := hide hRW
          have hLx := HL.out x hxn
          have hmi : (m : Int) + 1 < (k : Int) + 1 := by omega
          clear hcm hcm1 hx hy hE hS hRW hSx
          go_wp2
          go_quiet ((go_at_call 28; exact Calls.quiet_of_same (hasEdge_yes _ _ _ _ _ _ _ _ hxn hLx (RowsAt.drewN HRW.out _) HE.out)))
          go_wp2
          go_roundg (gk - 1)
          case measure => omega
          case rel =>
            refine ⟨m + 1, fun z => if z = x then true else S z, by omega, by go_num, ((HSn.out.row.set x _).congr (fun z _ => ?_)).of_block rfl, below_drewN (hb.setCell (Nat.le_refl _) _) _, fun z hz h => ?_⟩
            · by_cases e : z = x
              · rw [if_pos e, if_pos e]
              · rw [if_neg e, if_neg e]
            · by_cases e : z = x
              · exact ⟨m, by omega, by rw [HX.out, e]⟩
              · simp only [if_neg e] at h
                obtain ⟨i, hi, e2⟩ := HSn.out.iff z hz h
                exact ⟨i, by omega, e2⟩
        · go_wp2
          go_ret
          exact ⟨rfl, hb⟩

end Go.Proofs.Qxb6600485a
