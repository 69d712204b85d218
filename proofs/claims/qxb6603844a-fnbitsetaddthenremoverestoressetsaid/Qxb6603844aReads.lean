/-
  Seat b6603844a: the functions that only read: zzBit (11), zzMax (10), the guards (7, 12, 16), zzWellFormed (13); and zzClone (8).
-/
import Derived.Test.Qxb6603844aBits
import Derived.Test.Qxb6603844aOwn
namespace Go.Proofs.Qxb6603844a
open Go.RowKit

set_option maxHeartbeats 400000 in
theorem zzBit_any (a : Option Addr) (n c j : Nat) (f : Nat → Nat) (w : World) (hn : n ≤ 9223372036854775807) (hj : j ≤ 9223372036854775807) (h : WordsAt w a n f) (hs : Small n f) :
    Calls Try.prog 11 #[.slice a n c, .int .i64 j] w fun e w' => e = .returned (.bool (bitAt n f j)) ∧ w' = w := by
  by_cases hq : j / 64 < n
  · obtain ⟨b, off, rfl, hc⟩ := h _ hq
    have hx := hs _ hq
    have hb : bitAt n f j = (f (j / 64)).testBit (j % 64) := by unfold bitAt; simp [hq]
    have hbt := bit_test (f (j / 64)) (j % 64) hx
    rw [hb]
    generalize f (j / 64) = x at *
    have HB := hide hbt
    clear hbt hb h hs
    go_enter Try.func11, Try.ntmps11
    go_wp2
    go_ret
    refine ⟨?_, rfl⟩
    rw [← HB.out]
    rfl
  · have hb : bitAt n f j = false := by unfold bitAt; simp [hq]
    rw [hb]
    clear hb h hs
    go_enter Try.func11, Try.ntmps11
    go_wp2
    go_ret
    exact ⟨rfl, rfl⟩

theorem zzMax_any (x y : Nat) (w : World) : Calls Try.prog 10 #[.int .i64 x, .int .i64 y] w fun e w' => e = .returned (.int .i64 ((max x y : Nat) : Int)) ∧ w' = w := by
  by_cases h : y < x
  · have e : max x y = x := by omega
    rw [e]
    have h' : (y : Int) < (x : Int) := by omega
    clear e
    go_enter Try.func10, Try.ntmps10
    go_wp2
    go_ret
    exact ⟨rfl, rfl⟩
  · have e : max x y = y := by omega
    rw [e]
    have h' : ¬ (y : Int) < (x : Int) := by omega
    clear e
    go_enter Try.func10, Try.ntmps10
    go_wp2
    go_ret
    exact ⟨rfl, rfl⟩

/-- The call answers a bool; the world stands. -/
def Says (w : World) (e : Ending) (w' : World) : Prop := ∃ b : Bool, e = .returned (.bool b) ∧ w' = w

theorem says {w : World} {b : Bool} : Says w (.returned (.bool b)) w := ⟨b, rfl, rfl⟩

set_option maxHeartbeats 400000 in
theorem zzBytes7_any (a a' : Option Addr) (n m c c' : Nat) (i : Int) (w : World) (hn : n ≤ 9223372036854775807) (hm : m ≤ 9223372036854775807) : Calls Try.prog 7 #[.slice a n c, .slice a' m c', .int .i64 i] w fun e w' => Says w e w' := by
  by_cases h1 : n ≤ 1048576
  · by_cases h2 : m ≤ 1048576
    · by_cases h3 : n + m ≤ 1048576
      · go_enter Try.func7, Try.ntmps7
        go_wp2
        go_ret
        exact says
      · go_enter Try.func7, Try.ntmps7
        go_wp2
        go_ret
        exact says
    · go_enter Try.func7, Try.ntmps7
      go_wp2
      go_ret
      exact says
  · go_enter Try.func7, Try.ntmps7
    go_wp2
    go_ret
    exact says

/-- The invariant in plain words. -/
def WF (nw : Nat) (f : Nat → Nat) (nn : Nat) (g : Nat → Nat) : Prop :=
  nw ≤ 64 * nn ∧ ∀ m, m < 64 * nn → bitAt nn g m = (decide (m < nw) && decide (f m ≠ 0))

/-- What zzWellFormed answers. -/
def SaysWF (nw : Nat) (f : Nat → Nat) (nn : Nat) (g : Nat → Nat) (w : World) (e : Ending) (w' : World) : Prop := ∃ b : Bool, e = .returned (.bool b) ∧ (b = true ↔ WF nw f nn g) ∧ w' = w

theorem saysWF_no {nw nn : Nat} {f g : Nat → Nat} {w : World} (h : ¬ WF nw f nn g) : SaysWF nw f nn g w (.returned (.bool false)) w := ⟨false, rfl, ⟨fun e => (by cases e), fun e => absurd e h⟩, rfl⟩
theorem saysWF_yes {nw nn : Nat} {f g : Nat → Nat} {w : World} (h : WF nw f nn g) : SaysWF nw f nn g w (.returned (.bool true)) w := ⟨true, rfl, ⟨fun _ => h, fun _ => rfl⟩, rfl⟩

set_option maxHeartbeats 2000000 in
theorem zzWF_any (a b : Option Addr) (nw nn c c' : Nat) (f g : Nat → Nat) (w : World) (_hw : nw ≤ 1048576) (hn : nn ≤ 1048576) (ha : WordsAt w a nw f) (hb : WordsAt w b nn g) (hs : Small nn g) :
    Calls Try.prog 13 #[.slice a nw c, .slice b nn c'] w fun e w' => SaysWF nw f nn g w e w' := by
  by_cases h0 : nw ≤ 64 * nn
  · have HA := hide ha
    have HB := hide hb
    have HS := hide hs
    clear ha hb hs
    go_enter Try.func13, Try.ntmps13
    go_wp2
    go_loopg [5] (64 * nn) (fun k mm wr => ∃ m : Nat, m + k = 64 * nn ∧ mm = .int .i64 m ∧ wr = w ∧ ∀ i, i < m → bitAt nn g i = (decide (i < nw) && decide (f i ≠ 0)))
    case atStart => exact ⟨0, by omega, rfl, rfl, fun i hi => absurd hi (Nat.not_lt_zero _)⟩
    case round =>
      obtain ⟨m, hm, rfl, rfl, hp⟩ := hrel
      have HP := hide hp
      clear hp
      by_cases hlt : m < 64 * nn
      · have step : ∀ B : Bool, bitAt nn g m = B → Hid (B = (decide (m < nw) && decide (f m ≠ 0)) → ∀ i, i < m + 1 → bitAt nn g i = (decide (i < nw) && decide (f i ≠ 0))) := by
          intro B hB hE i hi
          by_cases e : i = m
          · subst e; rw [hB]; exact hE
          · exact HP.out i (by omega)
        have stop : ∀ B : Bool, bitAt nn g m = B → Hid (B ≠ (decide (m < nw) && decide (f m ≠ 0)) → ¬ WF nw f nn g) := by
          intro B hB hE hWF
          exact hE (by rw [← hB]; exact hWF.2 m hlt)
        have HZ := hide (zzBit_any b nn c' m g wr (by omega) (by omega) HB.out HS.out)
        cases hB : bitAt nn g m with
        | true =>
          rw [hB] at HZ
          have ST := step true hB
          have SP := stop true hB
          clear step stop hB
          by_cases hmw : m < nw
          · obtain ⟨b1, off1, rfl, hc⟩ := HA.out m hmw
            by_cases hf : f m = 0
            · have hf' : ((f m : Int) != 0) = false := by simp [hf]
              have SP' := SP.out (by simp [hf])
              clear hf ST SP
              go_wp2_with (go_at_call 11; refine HZ.out.mono ?_; rintro e w' ⟨rfl, rfl⟩)
              go_ret
              exact saysWF_no SP'
            · have hf' : ((f m : Int) != 0) = true := by simp; omega
              have ST' := hide (ST.out (by simp [hf, hmw]))
              clear hf ST SP
              go_wp2_with (go_at_call 11; refine HZ.out.mono ?_; rintro e w' ⟨rfl, rfl⟩)
              go_roundg (gk - 1)
              case measure => omega
              case rel => exact ⟨m + 1, by omega, by go_num, rfl, ST'.out⟩
          · have SP' := SP.out (by simp [hmw])
            clear ST SP
            go_wp2_with (go_at_call 11; refine HZ.out.mono ?_; rintro e w' ⟨rfl, rfl⟩)
            go_ret
            exact saysWF_no SP'
        | false =>
          rw [hB] at HZ
          have ST := step false hB
          have SP := stop false hB
          clear step stop hB
          by_cases hmw : m < nw
          · obtain ⟨b1, off1, rfl, hc⟩ := HA.out m hmw
            by_cases hf : f m = 0
            · have hf' : ((f m : Int) != 0) = false := by simp [hf]
              have ST' := hide (ST.out (by simp [hf]))
              clear hf ST SP
              go_wp2_with (go_at_call 11; refine HZ.out.mono ?_; rintro e w' ⟨rfl, rfl⟩)
              go_roundg (gk - 1)
              case measure => omega
              case rel => exact ⟨m + 1, by omega, by go_num, rfl, ST'.out⟩
            · have hf' : ((f m : Int) != 0) = true := by simp; omega
              have SP' := SP.out (by simp [hf, hmw])
              clear hf ST SP
              go_wp2_with (go_at_call 11; refine HZ.out.mono ?_; rintro e w' ⟨rfl, rfl⟩)
              go_ret
              exact saysWF_no SP'
          · have ST' := hide (ST.out (by simp [hmw]))
            clear ST SP
            go_wp2_with (go_at_call 11; refine HZ.out.mono ?_; rintro e w' ⟨rfl, rfl⟩)
            go_roundg (gk - 1)
            case measure => omega
            case rel => exact ⟨m + 1, by omega, by go_num, rfl, ST'.out⟩
      · go_wp2
        go_ret
        exact saysWF_yes ⟨h0, fun i hi => HP.out i (by omega)⟩
  · have h0' : (64 * nn : Int) < (nw : Int) := by omega
    clear ha hb hs
    go_enter Try.func13, Try.ntmps13
    go_wp2
    go_ret
    exact saysWF_no (fun h => h0 h.1)

/-- What zzClone has done. -/
def Cloned (w : World) (n : Nat) (f : Nat → Nat) (e : Ending) (w' : World) : Prop :=
  ∃ v g, e = .returned v ∧ OwnW g w' v n f ∧ (∀ b, g = some b → w.heap.size ≤ b) ∧ Below w.heap.size w w'

set_option maxHeartbeats 400000 in
theorem zzClone_any (a : Option Addr) (n c : Nat) (f : Nat → Nat) (w : World) (hn : n ≤ 1048576) (h : WordsAt w a n f) : Calls Try.prog 8 #[.slice a n c] w fun e w' => Cloned w n f e w' := by
  have q22 : ∀ (w : World) (a : Option Addr) (n c n' c' : Nat), (binOp .eql 22 (.slice a n c) (.slice none n' c')).run Try.prog w = .ok (.bool a.isNone) w := fun w a n c n' c' => Lib.run_eql_slice_nil w _ _ a n c n' c' Try.underlying22
  have hmk := run_make_row' (P := Try.prog) 22 30 (.int .u64 0) 8 Try.underlying22 Try.info30 rfl .i64 .i64 n (by omega) (by omega)
  cases a with
  | none =>
    obtain rfl := h.nil
    go_enter Try.func8, Try.ntmps8
    go_wp2
    go_ret
    exact ⟨.slice none 0 0, none, rfl, ⟨none, 0, rfl, Nat.le_refl _, Nat.zero_le _, .inl ⟨rfl, rfl⟩⟩, fun b e => (by cases e), Below.refl _ _⟩
  | some A =>
    go_enter Try.func8, Try.ntmps8
    go_wp2
    go_loopg [4] n (fun k i wr => ∃ m : Nat, m + k = n ∧ i = .int .i64 m ∧ wr.rowIs w.heap.size 30 n (fun j => if j < m then .int .u64 (f j : Int) else .int .u64 0) ∧ Below w.heap.size w wr)
    case atStart => exact ⟨0, by omega, rfl, (World.rowIs_made w _ n 30).congr (fun j _ => by simp), (Below.refl _ _).alloc (Nat.le_refl _) _⟩
    case round =>
      obtain ⟨m, hm, rfl, hrow, hb⟩ := hrel
      by_cases hlt : m < n
      · obtain ⟨b, off, rfl, hc⟩ : ∃ b off, A = ⟨b, off, none⟩ ∧ w.cell? ⟨b, off + m, none⟩ = some (.int .u64 (f m : Int)) := by
          obtain ⟨b, off, e, hc⟩ := h m hlt
          exact ⟨b, off, Option.some.inj e, hc⟩
        have hc1 : wr.cell? ⟨b, off + m, none⟩ = some (.int .u64 (f m : Int)) := (hb.cell (p := ⟨b, off + m, none⟩) (World.block_lt_of_cell? _ _ hc)).trans hc
        have hc2 := hrow.cell hlt
        have hf2 := hrow.frozen m
        clear hc h
        go_wp2
        go_roundg (gk - 1)
        case measure => omega
        case rel =>
          refine ⟨m + 1, by omega, by go_num, (hrow.set m _).congr (fun j _ => ?_), hb.setCell (Nat.le_refl _) _⟩
          by_cases e : j = m
          · subst e; simp
          · rw [if_neg e]
            by_cases hj : j < m
            · rw [if_pos hj, if_pos (by omega)]
            · rw [if_neg hj, if_neg (by omega)]
      · go_wp2
        go_ret
        have hrow1 : wr.rowIs w.heap.size 30 n (fun j => .int .u64 (f j : Int)) := hrow.congr (fun j hj => if_pos (by omega))
        by_cases h0 : n = 0
        · exact ⟨_, none, rfl, ⟨_, n, rfl, Nat.le_refl _, by unfold maxLen; omega, .inl ⟨h0, rfl⟩⟩, fun b e => (by cases e), hb⟩
        · refine ⟨_, some w.heap.size, rfl, ⟨_, n, rfl, Nat.le_refl _, by unfold maxLen; omega, .inr ⟨w.heap.size, 0, by omega, rfl, rfl, fun i hi => ?_, fun i hi => ?_⟩⟩, fun b e => (by cases e; exact Nat.le_refl _), hb⟩
          · rw [Nat.zero_add, hrow1.cell hi, hrow1.frozen i]; exact ⟨rfl, rfl⟩
          · rw [Nat.zero_add, hrow1.cell hi]

end Go.Proofs.Qxb6603844a
