/-
  Seat b6601053a: isDigit (26), hexValue (14), the guard zzBytes (12).
-/
import Derived.Test.Qxb6601053aBase
namespace Go.Proofs.Qxb6601053a
open Go.RowKit Go.PlainAid

set_option maxHeartbeats 400000 in
theorem isDigit_any (c : Nat) (w : World) (hc : c < 256) : Calls Try.prog 26 #[.int .u8 c] w fun e w' => e = .returned (.bool (decide (48 ≤ c ∧ c ≤ 57))) ∧ w' = w := by
  by_cases h1 : 48 ≤ c
  · by_cases h2 : c ≤ 57
    · have e : decide (48 ≤ c ∧ c ≤ 57) = true := by simp; omega
      have h2' : decide ((c : Int) ≤ 57) = true := by simp; omega
      rw [e]; clear e
      go_enter Try.func26, Try.ntmps26
      go_wp2
      go_ret
      exact ⟨rfl, rfl⟩
    · have e : decide (48 ≤ c ∧ c ≤ 57) = false := by simp; omega
      have h2' : decide ((c : Int) ≤ 57) = false := by simp; omega
      rw [e]; clear e
      go_enter Try.func26, Try.ntmps26
      go_wp2
      go_ret
      exact ⟨rfl, rfl⟩
  · have e : decide (48 ≤ c ∧ c ≤ 57) = false := by simp; omega
    rw [e]; clear e
    go_enter Try.func26, Try.ntmps26
    go_wp2
    go_ret
    exact ⟨rfl, rfl⟩

/-- The call answers a bool; the world stands. -/
def Says (w : World) (e : Ending) (w' : World) : Prop := ∃ b : Bool, e = .returned (.bool b) ∧ w' = w

theorem says {w : World} {b : Bool} : Says w (.returned (.bool b)) w := ⟨b, rfl, rfl⟩

set_option maxHeartbeats 400000 in
theorem zzBytes12_any (a : Option Addr) (n c : Nat) (i : Int) (w : World) (hn : n ≤ 9223372036854775807) : Calls Try.prog 12 #[.slice a n c, .int .i64 i] w fun e w' => Says w e w' := by
  by_cases h1 : n ≤ 1048576
  · go_enter Try.func12, Try.ntmps12
    go_wp2
    go_ret
    exact says
  · go_enter Try.func12, Try.ntmps12
    go_wp2
    go_ret
    exact says

/-- The digits that hexValue looks through. -/
def digs : List Nat := [48, 49, 50, 51, 52, 53, 54, 55, 56, 57, 97, 98, 99, 100, 101, 102, 65, 66, 67, 68, 69, 70]

theorem digs_value : ∀ m, m < 22 → hexv (digs.getD m 0) = some (if m < 16 then m else m - 6) := by decide

theorem digs_all : ∀ c, c < 256 → (∀ m, m < 22 → digs.getD m 0 ≠ c) → hexv c = none := by
  intro c hc h
  have h' : c ∉ digs := by
    intro hm
    obtain ⟨m, hm1, hm2⟩ := List.getElem_of_mem hm
    refine h m (by simpa [digs] using hm1) ?_
    rw [List.getD_eq_getElem?_getD, List.getElem?_eq_getElem hm1]
    exact hm2
  unfold hexv
  simp only [digs, List.mem_cons, List.not_mem_nil, or_false, not_or] at h'
  split
  · omega
  · split
    · omega
    · split
      · omega
      · rfl

/-- What hexValue answers. -/
def SaysHex (c : Nat) (w : World) (e : Ending) (w' : World) : Prop :=
  e = .returned (.tuple #[.int .i64 (((hexv c).getD 0 : Nat) : Int), .bool (hexv c).isSome]) ∧ w' = w

theorem saysHex_yes {c v : Nat} {w : World} (h : hexv c = some v) : SaysHex c w (.returned (.tuple #[.int .i64 (v : Int), .bool true])) w := by
  unfold SaysHex; rw [h]; exact ⟨rfl, rfl⟩

theorem saysHex_no {c : Nat} {w : World} (h : hexv c = none) : SaysHex c w (.returned (.tuple #[.int .i64 0, .bool false])) w := by
  unfold SaysHex; rw [h]; exact ⟨rfl, rfl⟩

theorem digs_bt : ∀ m, m < 22 → bt ⟨#[48, 49, 50, 51, 52, 53, 54, 55, 56, 57, 97, 98, 99, 100, 101, 102, 65, 66, 67, 68, 69, 70]⟩ m = ((digs.getD m 0 : Nat) : Int) := by decide

set_option maxHeartbeats 400000 in
theorem hexValue_any (c : Nat) (w : World) (hc : c < 256) : Calls Try.prog 14 #[.int .u8 c] w fun e w' => SaysHex c w e w' := by
  have hb := get_bt ⟨#[48, 49, 50, 51, 52, 53, 54, 55, 56, 57, 97, 98, 99, 100, 101, 102, 65, 66, 67, 68, 69, 70]⟩
  go_enter Try.func14, Try.ntmps14
  go_wp2
  go_loopg [4] 22 (fun k i wr => ∃ m : Nat, m + k = 22 ∧ i = .int .i64 m ∧ wr = w ∧ ∀ j, j < m → digs.getD j 0 ≠ c)
  case atStart => exact ⟨0, by omega, rfl, rfl, fun i hi => absurd hi (Nat.not_lt_zero _)⟩
  case round =>
    obtain ⟨m, hm, rfl, rfl, hp⟩ := hrel
    have HP := hide hp
    clear hp
    by_cases hlt : m < 22
    · have hd := digs_bt m hlt
      have hv := digs_value m hlt
      have step : Hid (digs.getD m 0 ≠ c → ∀ j, j < m + 1 → digs.getD j 0 ≠ c) := by
        intro hne j hj
        by_cases e : j = m
        · subst e; exact hne
        · exact HP.out j (by omega)
      generalize digs.getD m 0 = x at *
      by_cases he : x = c
      · subst he
        by_cases h16 : m < 16
        · rw [if_pos h16] at hv
          have HV := hide hv
          clear hv step
          go_wp2
          go_ret2
          exact saysHex_yes HV.out
        · rw [if_neg h16] at hv
          have HV := hide hv
          clear hv step
          go_wp2
          go_ret2
          have e : ((m : Int) - 6) = ((m - 6 : Nat) : Int) := by omega
          have := saysHex_yes (w := wr) HV.out
          rw [← e] at this
          exact this
      · have he' : ((x : Int) == (c : Int)) = false := by simp; omega
        have ST := hide (step.out he)
        clear hv step he
        go_wp2
        go_roundg (gk - 1)
        case measure => omega
        case rel => exact ⟨m + 1, by omega, by go_num, rfl, ST.out⟩
    · go_wp2
      go_ret2
      exact saysHex_no (digs_all c hc fun j hj => HP.out j (by omega))

end Go.Proofs.Qxb6601053a
