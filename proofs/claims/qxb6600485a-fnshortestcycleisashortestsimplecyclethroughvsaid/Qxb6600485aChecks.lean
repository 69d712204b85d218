/-
  Seat b6600485a: the guards of the laws: they read, answer a bool, and true tells what the rest may use.
-/
import Derived.Test.Qxb6600485aBase
namespace Go.Proofs.Qxb6600485a
open Go.RowKit

/-- The call answers a bool; true tells p; the world stands. -/
def SaysIf (p : Prop) (w : World) (e : Ending) (w' : World) : Prop := ∃ b : Bool, e = .returned (.bool b) ∧ (b = true → p) ∧ w' = w

theorem saysIf_no {p : Prop} {w : World} : SaysIf p w (.returned (.bool false)) w := ⟨false, rfl, fun h => (by cases h), rfl⟩
theorem saysIf_yes {p : Prop} {w : World} (h : p) : SaysIf p w (.returned (.bool true)) w := ⟨true, rfl, fun _ => h, rfl⟩

set_option maxHeartbeats 400000 in
theorem outDegree_any (a : Option Addr) (n c : Nat) (L : Nat → Nat) (E : Nat → Nat → Int) (w : World) (hn : n ≤ 9223372036854775807) (h : RowsAt w a n L E) :
    Calls Try.prog 11 #[.slice a n c] w fun e w' => SaysIf (∀ u, u < n → L u ≤ 1) w e w' := by
  go_enter Try.func11, Try.ntmps11
  go_wp2
  go_loopg [3] n (fun k i wr => ∃ m : Nat, m + k = n ∧ i = .int .i64 m ∧ wr = w ∧ ∀ u, u < m → L u ≤ 1)
  case atStart => exact ⟨0, by omega, rfl, rfl, fun u hu => absurd hu (Nat.not_lt_zero _)⟩
  case round =>
    obtain ⟨m, hm, rfl, rfl, hp⟩ := hrel
    by_cases hlt : m < n
    · obtain ⟨b, off, a', c', rfl, hc, hr⟩ := h m hlt
      have HP := hide hp
      clear hp h hr
      by_cases h1 : L m ≤ 1
      · go_wp2
        go_roundg (gk - 1)
        case measure => omega
        case rel => 
          refine ⟨m + 1, by omega, by go_num, rfl, fun u hu => ?_⟩
          by_cases e : u = m
          · subst e; exact h1
          · exact HP.out u (by omega)
      · go_wp2
        go_ret
        exact saysIf_no
    · go_wp2
      go_ret
      exact saysIf_yes (fun u hu => hp u (by omega))

set_option maxHeartbeats 400000 in
theorem zzBytes23_any (ai : Option Addr) (l ci : Nat) (a : Option Addr) (n c : Nat) (v : Int) (L : Nat → Nat) (E : Nat → Nat → Int) (w : World) (hl : l ≤ 9223372036854775807) (hn : n ≤ 9223372036854775807) (h : RowsAt w a n L E) :
    Calls Try.prog 23 #[.slice ai l ci, .slice a n c, .int .i64 v] w fun e w' => SaysIf True w e w' := by
  by_cases h1 : l ≤ 1048576
  · by_cases h2 : n ≤ 1048576
    · by_cases h3 : l + n ≤ 1048576
      · go_enter Try.func23, Try.ntmps23
        go_wp2
        go_loopg [7, 8] n (fun k z i wr => ∃ m s : Nat, m + k = n ∧ i = .int .i64 m ∧ wr = w ∧ z = .int .i64 s ∧ s ≤ 1048576)
        case atStart => exact ⟨0, l + n, by omega, rfl, rfl, by go_num, h3⟩
        case round =>
          obtain ⟨m, s, hm, rfl, rfl, rfl, hs⟩ := hrel
          by_cases hlt : m < n
          · obtain ⟨b, off, a', c', rfl, hc, hr⟩ := h m hlt
            clear hr h
            by_cases h4 : L m ≤ 1048576
            · by_cases h5 : s + L m ≤ 1048576
              · go_wp2
                go_roundg (gk - 1)
                case measure => omega
                case rel => exact ⟨m + 1, s + L m, by omega, by go_num, rfl, by go_num, h5⟩
              · go_wp2
                go_ret
                exact saysIf_no
            · go_wp2
              go_ret
              exact saysIf_no
          · go_wp2
            go_ret
            exact saysIf_yes trivial
      · go_enter Try.func23, Try.ntmps23
        go_wp2
        go_ret
        exact saysIf_no
    · go_enter Try.func23, Try.ntmps23
      go_wp2
      go_ret
      exact saysIf_no
  · go_enter Try.func23, Try.ntmps23
    go_wp2
    go_ret
    exact saysIf_no

set_option maxHeartbeats 400000 in
theorem graphFits_any (ai : Option Addr) (l ci : Nat) (a : Option Addr) (n c : Nat) (L : Nat → Nat) (E : Nat → Nat → Int) (w : World) (hl : l ≤ 9223372036854775807) (hn : n ≤ 9223372036854775807) (h : RowsAt w a n L E) :
    Calls Try.prog 9 #[.slice ai l ci, .slice a n c] w fun e w' => SaysIf (l ≤ 131072 ∧ n ≤ 43690 ∧ ∀ u, u < n → L u ≤ 131072) w e w' := by
  by_cases h1 : l ≤ 131072
  · by_cases h2 : n ≤ 43690
    · by_cases h3 : l + 3 * n ≤ 131072
      · go_enter Try.func9, Try.ntmps9
        go_wp2
        go_loopg [5, 6] n (fun k z i wr => ∃ m s : Nat, m + k = n ∧ i = .int .i64 m ∧ wr = w ∧ z = .int .i64 s ∧ s ≤ 131072 ∧ ∀ u, u < m → L u ≤ 131072)
        case atStart => exact ⟨0, l + 3 * n, by omega, rfl, rfl, by go_num, h3, fun u hu => absurd hu (Nat.not_lt_zero _)⟩
        case round =>
          obtain ⟨m, s, hm, rfl, rfl, rfl, hs, hp⟩ := hrel
          have HP := hide hp
          clear hp
          by_cases hlt : m < n
          · obtain ⟨b, off, a', c', rfl, hc, hr⟩ := h m hlt
            clear hr h
            by_cases h5 : s + L m ≤ 131072
            · go_wp2
              go_roundg (gk - 1)
              case measure => omega
              case rel =>
                refine ⟨m + 1, s + L m, by omega, by go_num, rfl, by go_num, h5, fun u hu => ?_⟩
                by_cases e : u = m
                · subst e; omega
                · exact HP.out u (by omega)
            · have h6 : (131072 : Int) - s < L m := by omega
              go_wp2
              go_ret
              exact saysIf_no
          · go_wp2
            go_ret
            exact saysIf_yes ⟨h1, h2, fun u hu => HP.out u (by omega)⟩
      · go_enter Try.func9, Try.ntmps9
        go_wp2
        go_ret
        exact saysIf_no
    · go_enter Try.func9, Try.ntmps9
      go_wp2
      go_ret
      exact saysIf_no
  · go_enter Try.func9, Try.ntmps9
    go_wp2
    go_ret
    exact saysIf_no

set_option maxHeartbeats 400000 in
theorem targets_any (a : Option Addr) (n c : Nat) (N : Int) (L : Nat → Nat) (E : Nat → Nat → Int) (w : World) (hn : n ≤ 9223372036854775807) (hL : ∀ i, i < n → L i ≤ 9223372036854775807) (h : RowsAt w a n L E) :
    Calls Try.prog 10 #[.slice a n c, .int .i64 N] w fun e w' => SaysIf (∀ u, u < n → ∀ j, j < L u → 0 ≤ E u j ∧ E u j < N) w e w' := by
  go_enter Try.func10, Try.ntmps10
  go_wp2
  go_loopg [5] n (fun k i wr => ∃ m : Nat, m + k = n ∧ i = .int .i64 m ∧ wr = w ∧ ∀ u, u < m → ∀ j, j < L u → 0 ≤ E u j ∧ E u j < N)
  case atStart => exact ⟨0, by omega, rfl, rfl, fun u hu => absurd hu (Nat.not_lt_zero _)⟩
  case round =>
    obtain ⟨m, hm, rfl, rfl, hp⟩ := hrel
    have HP := hide hp
    clear hp
    by_cases hlt : m < n
    · obtain ⟨b, off, a', c', rfl, hc, hr⟩ := h m hlt
      have hLm := hL m hlt
      clear h hL
      go_wp2
      go_loopg [6] (L m) (fun k i wq => ∃ q : Nat, q + k = L m ∧ i = .int .i64 q ∧ wq = wr ∧ ∀ j, j < q → 0 ≤ E m j ∧ E m j < N)
      case atStart => exact ⟨0, by omega, rfl, rfl, fun u hu => absurd hu (Nat.not_lt_zero _)⟩
      case round =>
        obtain ⟨q, hq, rfl, rfl, hpq⟩ := hrel
        have HQ := hide hpq
        clear hpq
        by_cases hlq : q < L m
        · obtain ⟨b2, off2, rfl, hc2⟩ := hr q hlq
          clear hr
          by_cases h1 : 0 ≤ E m q
          · by_cases h2 : E m q < N
            · go_wp2
              go_roundg (gk - 1)
              case measure => omega
              case rel =>
                refine ⟨q + 1, by omega, by go_num, rfl, fun u hu => ?_⟩
                by_cases e : u = q
                · subst e; exact ⟨h1, h2⟩
                · exact HQ.out u (by omega)
            · go_wp2
              go_ret
              exact saysIf_no
          · go_wp2
            go_ret
            exact saysIf_no
        · go_wp2
          go_roundg (n - (m + 1))
          case measure => omega
          case rel =>
            refine ⟨m + 1, by omega, by go_num, rfl, fun u hu => ?_⟩
            by_cases e : u = m
            · subst e; exact fun j hj => HQ.out j (by omega)
            · exact HP.out u (by omega)
    · go_wp2
      go_ret
      exact saysIf_yes (fun u hu => HP.out u (by omega))

end Go.Proofs.Qxb6600485a
