/-
  Seat b6603844a: the walk of the law FnBitsetAddMatchesSetModel (3).
-/
import Derived.Test.Qxb6603844aPlain
namespace Go.Proofs.Qxb6603844a
open Go.RowKit

def LawTrue (w : World) (e : Ending) (w' : World) : Prop := e = .returned (.bool true) ∧ Below w.heap.size w w'

theorem zzMax_is (x y m : Int) (w : World) (h : (y < x ∧ m = x) ∨ (¬ y < x ∧ m = y)) : Calls Try.prog 10 #[.int .i64 x, .int .i64 y] w fun e w' => e = .returned (.int .i64 m) ∧ w' = w := by
  rcases h with ⟨h, rfl⟩ | ⟨h, rfl⟩
  · go_enter Try.func10, Try.ntmps10
    go_wp2
    go_ret
    exact ⟨rfl, rfl⟩
  · go_enter Try.func10, Try.ntmps10
    go_wp2
    go_ret
    exact ⟨rfl, rfl⟩

set_option maxHeartbeats 2000000 in
set_option maxRecDepth 100000 in
theorem law3_any (a1 a2 : Option Addr) (n1 c1 n2 c2 : Nat) (iv : Int) (f1 f2 : Nat → Nat) (w : World) (hn1 : n1 ≤ 9223372036854775807) (hn2 : n2 ≤ 9223372036854775807)
    (ha1 : WordsAt w a1 n1 f1) (ha2 : WordsAt w a2 n2 f2) (hs1 : Small n1 f1) (hs2 : Small n2 f2) :
    Calls Try.prog 3 #[.slice a1 n1 c1, .slice a2 n2 c2, .int .i64 iv] w fun e w' => LawTrue w e w' := by
  have HA1 := hide ha1
  have HA2 := hide ha2
  have HS1 := hide hs1
  have HS2 := hide hs2
  clear ha1 ha2 hs1 hs2
  go_enter Try.func3, Try.ntmps3
  go_wp2_with fail
  refine (zzBytes7_any _ _ _ _ _ _ _ _ hn1 hn2).mono ?_
  rintro e w1 ⟨b, rfl, rfl⟩
  cases b with
  | false =>
    go_wp2
    go_ret
    exact ⟨rfl, Below.refl _ _⟩
  | true =>
  by_cases h1 : n1 ≤ 131072
  case neg =>
    have h1' : (131072 : Int) < (n1 : Int) := by omega
    go_wp2
    go_ret
    exact ⟨rfl, Below.refl _ _⟩
  case pos =>
  have h1' : decide ((131072 : Int) < (n1 : Int)) = false := by simp; omega
  by_cases h2 : n2 ≤ 131072
  case neg =>
    have h2' : (131072 : Int) < (n2 : Int) := by omega
    go_wp2
    go_ret
    exact ⟨rfl, Below.refl _ _⟩
  case pos =>
  have h2' : decide ((131072 : Int) < (n2 : Int)) = false := by simp; omega
  by_cases h3 : n1 + n2 ≤ 131072
  case neg =>
    have h3' : (131072 : Int) < (n1 : Int) + (n2 : Int) := by omega
    go_wp2
    go_ret
    exact ⟨rfl, Below.refl _ _⟩
  case pos =>
  have h3' : decide ((131072 : Int) < (n1 : Int) + (n2 : Int)) = false := by simp; omega
  by_cases hi0 : iv < 0
  · go_wp2
    go_ret
    exact ⟨rfl, Below.refl _ _⟩
  have hi0' : decide (iv < 0) = false := by simp; omega
  by_cases hi1 : iv < 4194304
  case neg =>
    go_wp2
    go_ret
    exact ⟨rfl, Below.refl _ _⟩
  case pos =>
  have hi1' : decide ((4194304 : Int) ≤ iv) = false := by simp; omega
  obtain ⟨i, rfl⟩ : ∃ i : Nat, iv = (i : Int) := ⟨iv.toNat, by omega⟩
  have hi : i < 4194304 := by omega
  go_wp2_with fail
  refine (zzClone_any _ _ _ _ _ (by omega) HA1.out).mono ?_
  rintro e w2 ⟨v2, g2, rfl, ho2, -, hb2⟩
  obtain ⟨a2', c2', rfl, hw2⟩ := ho2.at
  have HW2 := hide hw2
  have HA2' := hide (HA2.out.below hb2)
  clear ho2 hw2 HA2 h1' h2' h3' hi0' hi1' hi0 hi1
  go_wp2_with fail
  refine (zzClone_any _ _ _ _ _ (by omega) HA2'.out).mono ?_
  rintro e w3 ⟨v3, g3, rfl, ho3, -, hb3⟩
  obtain ⟨a3', c3', rfl, hw3⟩ := ho3.at
  have HW3 := hide hw3
  have HW2' := hide (HW2.out.below hb3)
  have hb13 := below_step hb2 hb3
  clear ho3 hw3 HW2 HA2' hb2 hb3
  go_wp2_with fail
  refine (zzClone_any _ _ _ _ _ (by omega) HW2'.out).mono ?_
  rintro e w4 ⟨v4, g4, rfl, ho4, hg4, hb4⟩
  obtain ⟨a4, c4, rfl, -⟩ := ho4.at
  have HO4 := hide ho4
  have HW3' := hide (HW3.out.below hb4)
  clear ho4
  go_wp2_with fail
  refine (zzClone_any _ _ _ _ _ (by omega) HW3'.out).mono ?_
  rintro e w5 ⟨v5, g5, rfl, ho5, hg5, hb5⟩
  obtain ⟨a5, c5, rfl, -⟩ := ho5.at
  have hsz34 := hb4.size
  have hsz45 := hb5.size
  have hP : Pair w3.heap.size w5 (.slice a4 n1 c4) (.slice a5 n2 c5) g4 g5 n1 f1 n2 f2 :=
    ⟨HO4.out.below hb5, ho5, fun b e1 e2 => by have h6 := HO4.out.lt b e1; have h7 := hg5 b e2; omega, hg4, fun b e => by have := hg5 b e; omega⟩
  have HP := hide hP
  have hb35 := below_step hb4 hb5
  clear ho5 hP HO4 hg4 hg5 HW3' hb4 hb5
  go_wp2_with fail
  refine (zzAdd_any w3.heap.size _ _ _ _ _ _ _ _ _ _ _ _ hi (by omega) (by omega) HS1.out HS2.out (by omega) HP.out).mono ?_
  rintro e w6 ⟨a6, c6, a7, c7, g6, g7, rfl, hb6, hP6⟩
  have hb36 : Below w3.heap.size w3 w6 := hb35.trans hb6
  have HWw := hide (HW2'.out.below hb36)
  have HWn := hide (HW3.out.below hb36)
  clear HW2' HW3 HP hb35 hb6
  have HN1 := hide (addN_ge n1 i)
  have HN2 := hide (addN_ge n2 (i / 64))
  have HM1 := hide (addN_le n1 i 131072 h1 (by omega))
  have HM2 := hide (addN_le n2 (i / 64) 131072 h2 (by omega))
  obtain ⟨_, _, e6, hw6⟩ := hP6.o1.at
  obtain ⟨rfl, -, rfl⟩ := Value.slice.inj e6
  obtain ⟨_, _, e7, hw7⟩ := hP6.o2.at
  obtain ⟨rfl, -, rfl⟩ := Value.slice.inj e7
  have HW6 := hide hw6
  have HW7 := hide hw7
  have HS6 := hide (addF_small (i := i) HS1.out)
  have HS7 := hide (addF_small (i := i / 64) HS2.out)
  have hmx1 : (((i : Int) / 64 + 1 < (n1 : Int)) ∧ ((addN n1 i : Nat) : Int) = (n1 : Int)) ∨ (¬ ((i : Int) / 64 + 1 < (n1 : Int)) ∧ ((addN n1 i : Nat) : Int) = (i : Int) / 64 + 1) := by unfold addN; omega
  have hmx2 : (((i : Int) / 4096 + 1 < (n2 : Int)) ∧ ((addN n2 (i / 64) : Nat) : Int) = (n2 : Int)) ∨ (¬ ((i : Int) / 4096 + 1 < (n2 : Int)) ∧ ((addN n2 (i / 64) : Nat) : Int) = (i : Int) / 4096 + 1) := by unfold addN; omega
  have HMX1 := hide (zzMax_is _ _ _ w6 hmx1)
  have HMX2 := hide (zzMax_is _ _ _ w6 hmx2)
  have HB1 := hide (bit_add n1 i f1)
  have HB2 := hide (bit_add n2 (i / 64) f2)
  clear hw6 hw7 hmx1 hmx2 e6 e7 hP6
  generalize addN n1 i = N1 at HW6 HS6 HMX1 HB1 HM1 ⊢
  generalize addN n2 (i / 64) = N2 at HW7 HS7 HMX2 HB2 HM2 ⊢
  generalize addF n1 f1 i = F1 at HW6 HS6 HB1
  generalize addF n2 f2 (i / 64) = F2 at HW7 HS7 HB2
  have hM1 := HM1.out
  have hM2 := HM2.out
  clear HN1 HN2
  go_wp2_with fail
  refine HMX1.out.mono ?_
  rintro e w7 ⟨rfl, rfl⟩
  go_wp2_with fail
  refine HMX2.out.mono ?_
  rintro e w8 ⟨rfl, rfl⟩
  go_wp2
  go_loopg [9] (64 * N1) (fun k jj wr => ∃ j : Nat, j + k = 64 * N1 ∧ jj = .int .i64 j ∧ wr = w8)
  case atStart => exact ⟨0, by omega, rfl, rfl⟩
  case round =>
    clear HMX1 HMX2
    obtain ⟨j, hj, rfl, rfl⟩ := hrel
    by_cases hlt : j < 64 * N1
    · have HZ1 := hide (zzBit_any _ N1 c6 j F1 wr (by omega) (by omega) HW6.out HS6.out)
      have HZ2 := hide (zzBit_any _ n1 c2' j f1 wr (by omega) (by omega) HWw.out HS1.out)
      rw [HB1.out j] at HZ1
      cases hB : bitAt n1 f1 j with
      | true =>
        rw [hB] at HZ1 HZ2
        rw [Bool.true_or] at HZ1
        clear hB
        go_wp2_with fail
        refine HZ1.out.mono ?_
        rintro e w9 ⟨rfl, rfl⟩
        go_wp2_with fail
        refine HZ2.out.mono ?_
        rintro e w10 ⟨rfl, rfl⟩
        go_wp2
        go_roundg (gk - 1)
        case measure => omega
        case rel => exact ⟨j + 1, by omega, by go_num, rfl⟩
      | false =>
        rw [hB] at HZ1 HZ2
        rw [Bool.false_or] at HZ1
        clear hB
        by_cases hji : j = i
        · have hd : decide (j = i) = true := decide_eq_true hji
          have hd' : ((j : Int) == (i : Int)) = true := by simp [hji]
          rw [hd] at HZ1
          clear hji hd
          go_wp2_with fail
          refine HZ1.out.mono ?_
          rintro e w9 ⟨rfl, rfl⟩
          go_wp2_with fail
          refine HZ2.out.mono ?_
          rintro e w10 ⟨rfl, rfl⟩
          go_wp2
          go_roundg (gk - 1)
          case measure => omega
          case rel => exact ⟨j + 1, by omega, by go_num, rfl⟩
        · have hd : decide (j = i) = false := decide_eq_false hji
          have hd' : ((j : Int) == (i : Int)) = false := by simp; omega
          rw [hd] at HZ1
          clear hd
          go_wp2_with fail
          refine HZ1.out.mono ?_
          rintro e w9 ⟨rfl, rfl⟩
          go_wp2_with fail
          refine HZ2.out.mono ?_
          rintro e w10 ⟨rfl, rfl⟩
          go_wp2
          go_roundg (gk - 1)
          case measure => omega
          case rel => exact ⟨j + 1, by omega, by go_num, rfl⟩
    · go_wp2
      go_loopg [10] (64 * N2) (fun k jj wq => ∃ j : Nat, j + k = 64 * N2 ∧ jj = .int .i64 j ∧ wq = wr)
      case atStart => exact ⟨0, by omega, rfl, rfl⟩
      case round =>
        obtain ⟨m, hm, rfl, hwe⟩ := hrel
        subst hwe
        by_cases hltm : m < 64 * N2
        · have HZ1 := hide (zzBit_any _ N2 c7 m F2 wr (by omega) (by omega) HW7.out HS7.out)
          have HZ2 := hide (zzBit_any _ n2 c3' m f2 wr (by omega) (by omega) HWn.out HS2.out)
          rw [HB2.out m] at HZ1
          cases hB : bitAt n2 f2 m with
          | true =>
            rw [hB] at HZ1 HZ2
            rw [Bool.true_or] at HZ1
            clear hB
            go_wp2_with fail
            refine HZ1.out.mono ?_
            rintro e w9 ⟨rfl, rfl⟩
            go_wp2_with fail
            refine HZ2.out.mono ?_
            rintro e w10 ⟨rfl, rfl⟩
            go_wp2
            go_roundg (gk - 1)
            case measure => omega
            case rel => exact ⟨m + 1, by omega, by go_num, rfl⟩
          | false =>
            rw [hB] at HZ1 HZ2
            rw [Bool.false_or] at HZ1
            clear hB
            by_cases hji : m = i / 64
            · have hd : decide (m = i / 64) = true := decide_eq_true hji
              have hd' : ((m : Int) == (i : Int) / 64) = true := by simp; omega
              rw [hd] at HZ1
              clear hji hd
              go_wp2_with fail
              refine HZ1.out.mono ?_
              rintro e w9 ⟨rfl, rfl⟩
              go_wp2_with fail
              refine HZ2.out.mono ?_
              rintro e w10 ⟨rfl, rfl⟩
              go_wp2
              go_roundg (gk - 1)
              case measure => omega
              case rel => exact ⟨m + 1, by omega, by go_num, rfl⟩
            · have hd : decide (m = i / 64) = false := decide_eq_false hji
              have hd' : ((m : Int) == (i : Int) / 64) = false := by simp; omega
              rw [hd] at HZ1
              clear hd
              go_wp2_with fail
              refine HZ1.out.mono ?_
              rintro e w9 ⟨rfl, rfl⟩
              go_wp2_with fail
              refine HZ2.out.mono ?_
              rintro e w10 ⟨rfl, rfl⟩
              go_wp2
              go_roundg (gk - 1)
              case measure => omega
              case rel => exact ⟨m + 1, by omega, by go_num, rfl⟩
        · go_wp2
          go_ret
          exact ⟨rfl, below_step hb13 hb36⟩

end Go.Proofs.Qxb6603844a
