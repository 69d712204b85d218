/-
  Seat b6600485a: the walk of the law FnShortestCycleIsAShortestSimpleCycleThroughV (7), with its guard (26).
-/
import Derived.Test.Qxb6600485aLen
import Derived.Test.Qxb6600485aSimple
import Derived.Test.Qxb6600485aShort
import Derived.Test.Qxb6600485aChecks
namespace Go.Proofs.Qxb6600485a
open Go.RowKit

set_option maxHeartbeats 400000 in
theorem zzBytes26_any (a : Option Addr) (n c : Nat) (v : Int) (L : Nat → Nat) (E : Nat → Nat → Int) (w : World) (hn : n ≤ 9223372036854775807) (h : RowsAt w a n L E) :
    Calls Try.prog 26 #[.slice a n c, .int .i64 v] w fun e w' => SaysIf True w e w' := by
  by_cases h2 : n ≤ 1048576
  · go_enter Try.func26, Try.ntmps26
    go_wp2
    go_loopg [5, 6] n (fun k z i wr => ∃ m s : Nat, m + k = n ∧ i = .int .i64 m ∧ wr = w ∧ z = .int .i64 s ∧ s ≤ 1048576)
    case atStart => exact ⟨0, n, by omega, rfl, rfl, by go_num, h2⟩
    case round =>
      obtain ⟨m, s, hm, rfl, rfl, rfl, hs⟩ := hrel
      by_cases hlt : m < n
      · obtain ⟨b, off, a', c', rfl, hc, hr⟩ := h m hlt
        clear hr h
        by_cases h4 : L m ≤ 1048576
        · by_cases h5 : s + L m ≤ 1048576
          · go_wp2
            go_roundg (gk - 1)
            case measure => omega
            case rel => exact ⟨m + 1, s + L m, by omega, by go_num, rfl, by go_num, h5⟩
          · go_wp2
            go_ret
            exact saysIf_no
        · go_wp2
          go_ret
          exact saysIf_no
      · go_wp2
        go_ret
        exact saysIf_yes trivial
  · go_enter Try.func26, Try.ntmps26
    go_wp2
    go_ret
    exact saysIf_no

def LawTrue7 (w : World) (e : Ending) (w' : World) : Prop := e = .returned (.bool true) ∧ Below w.heap.size w w'

set_option maxHeartbeats 2000000 in
set_option maxRecDepth 100000 in
theorem lawSimple_any (a : Option Addr) (n c : Nat) (v : Int) (L : Nat → Nat) (E : Nat → Nat → Int) (w : World) (hn : n ≤ 9223372036854775807)
    (hr : RowsAt w a n L E) :
    Calls Try.prog 7 #[.slice a n c, .int .i64 v] w fun e w' => LawTrue7 w e w' := by
  have HR := hide hr
  clear hr
  go_enter Try.func7, Try.ntmps7
  go_wp2_with fail
  refine (zzBytes26_any _ _ _ _ _ _ _ hn HR.out).mono ?_
  rintro e w1 ⟨b, rfl, -, rfl⟩
  cases b with
  | false =>
    go_wp2
    go_ret
    exact ⟨rfl, Below.refl _ _⟩
  | true =>
  go_wp2_with fail
  refine (graphFits_any _ _ _ _ _ _ _ _ _ (by omega) hn HR.out).mono ?_
  rintro e w2 ⟨b, rfl, hfit, rfl⟩
  cases b with
  | false =>
    go_wp2
    go_ret
    exact ⟨rfl, Below.refl _ _⟩
  | true =>
  obtain ⟨_, hn1, hL1⟩ := hfit rfl
  have HL1 := hide hL1
  clear hfit hL1
  by_cases hq : n ≤ 4096
  case neg =>
    have hq' : (4096 : Int) < (n : Int) := by omega
    go_wp2
    go_ret
    exact ⟨rfl, Below.refl _ _⟩
  case pos =>
  have hq' : decide ((4096 : Int) < (n : Int)) = false := by simp; omega
  go_wp2_with fail
  refine (targets_any _ _ _ _ _ _ _ hn (fun i hi => by have := HL1.out i hi; omega) HR.out).mono ?_
  rintro e w3 ⟨b, rfl, htg, rfl⟩
  cases b with
  | false =>
    go_wp2
    go_ret
    exact ⟨rfl, Below.refl _ _⟩
  | true =>
  have HTG := hide (htg rfl)
  clear htg
  by_cases hv0 : v < 0
  · go_wp2
    go_ret
    exact ⟨rfl, Below.refl _ _⟩
  by_cases hvn : v < (n : Int)
  case neg =>
    go_wp2
    go_ret
    exact ⟨rfl, Below.refl _ _⟩
  case pos =>
  obtain ⟨vn, rfl⟩ : ∃ vn : Nat, v = (vn : Int) := ⟨v.toNat, by omega⟩
  have hvl : vn < n := by omega
  obtain ⟨T, hTE, hTn⟩ : ∃ T : Nat → Nat → Nat, (∀ u, u < n → ∀ j, j < L u → E u j = (T u j : Int)) ∧ ∀ u, u < n → ∀ j, j < L u → T u j < n :=
    ⟨fun u j => (E u j).toNat, fun u hu j hj => by have := HTG.out u hu j hj; show E u j = ((E u j).toNat : Int); omega, fun u hu j hj => by have := HTG.out u hu j hj; show (E u j).toNat < n; omega⟩
  have hRT : RowsAt w3 a n L (fun u j => (T u j : Int)) := by
    intro u hu
    obtain ⟨b, off, a', c', e1, e2, e3⟩ := HR.out u hu
    exact ⟨b, off, a', c', e1, e2, e3.congr (fun j hj => hTE u hu j hj)⟩
  have HRT := hide hRT
  have HTn := hide hTn
  clear hRT hTn hTE HTG HR
  go_wp2_with fail
  refine (cloneEdges_any _ _ _ _ _ _ (by omega) (fun i hi => by have := HL1.out i hi; omega) HRT.out).mono ?_
  rintro e w4 ⟨a4, c4, rfl, hr4, hb4⟩
  have HR4 := hide hr4
  clear hr4
  go_wp2_with fail
  refine (shortLen_any _ _ _ _ _ _ _ hq hvl HL1.out HR4.out HTn.out).mono ?_
  rintro e w5 ⟨want, rfl, hb5, hwant⟩
  have HR5 := hide (HR4.out.below hb5)
  have hb35 := below_step hb4 hb5
  have HW := hide hwant
  clear HR4 hb4 hb5 hwant
  by_cases hw0 : want < 0
  · go_wp2
    go_ret
    exact ⟨rfl, hb35⟩
  obtain ⟨k, q0, hkw, hcl, hmin⟩ := HW.out (by omega)
  subst hkw
  have HC := hide (And.intro hcl hmin)
  clear hcl hmin HW
  go_wp2_with fail
  refine (identity_any _ _ (by omega)).mono ?_
  rintro e w6 ⟨a6, c6, rfl, hi6, hb6⟩
  have HI6 := hide hi6.at
  have HR6 := hide (HR5.out.below hb6)
  have hb36 := below_step hb35 hb6
  clear hi6 HR5 hb35 hb6
  go_wp2_with fail
  refine (zzShortest_any _ _ _ _ _ _ _ _ _ _ (by omega) hvl (fun i hi => by have := HL1.out i hi; omega) HI6.out HR6.out HTn.out ⟨_, _, HC.out.1⟩).mono ?_
  rintro e w7 ⟨k2, q, hq2, hmin2, a7, c7, rfl, hi7, hb7⟩
  obtain rfl : k2 = k := Nat.le_antisymm (hmin2 _ _ HC.out.1) (HC.out.2 _ _ hq2)
  have hsim : Simple n k2 L T q := ⟨hq2.pos, closed_le HTn.out hvl hq2 hmin2, fun i hi => walk_lt HTn.out hvl (closed_walk hq2) i hi, by rw [hq2.first, hq2.last], hq2.edge, closed_simple hq2 hmin2⟩
  have HS := hide hsim
  have hkn := hsim.le
  have HR7 := hide (HR6.out.below hb7)
  have HI7 := hide hi7.at
  have hb37 := below_step hb36 hb7
  have hq0 := hq2.first
  have HQ := hide hq0
  clear hq2 hmin2 hsim hi7 hb36 hb7 HI6 HR6 hq0
  go_wp2_with fail
  refine (simple_yes _ _ _ _ _ _ _ _ _ _ (by omega) (fun i hi => by have := HL1.out i hi; omega) HI7.out HR7.out HS.out).mono ?_
  rintro e w8 ⟨rfl, hb8⟩
  obtain ⟨bc, offc, rfl, hc0⟩ := HI7.out 0 (by omega)
  have hc1 : w8.cell? ⟨bc, offc, none⟩ = some (.int .i64 (vn : Int)) := by
    have := (hb8.cell (p := ⟨bc, offc + 0, none⟩) (World.block_lt_of_cell? _ _ hc0)).trans hc0
    simp only [HQ.out] at this
    exact this
  have hki0 : (0 : Int) < (k2 : Int) + 1 := by omega
  clear hc0
  go_wp2
  go_ret
  exact ⟨rfl, below_step hb37 hb8⟩

end Go.Proofs.Qxb6600485a
