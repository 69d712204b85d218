/-
  Seat b6603844a: the walk of the law FnBitsetAddThenRemoveRestoresSet (6), with its guard (16).
-/
import Derived.Test.Qxb6603844aRemove
namespace Go.Proofs.Qxb6603844a
open Go.RowKit

set_option maxHeartbeats 400000 in
theorem zzBytes16_any (a a' : Option Addr) (n m c c' : Nat) (i : Int) (w : World) (hn : n ≤ 9223372036854775807) (hm : m ≤ 9223372036854775807) : Calls Try.prog 16 #[.slice a n c, .slice a' m c', .int .i64 i] w fun e w' => Says w e w' := by
  by_cases h1 : n ≤ 1048576
  · by_cases h2 : m ≤ 1048576
    · by_cases h3 : n + m ≤ 1048576
      · go_enter Try.func16, Try.ntmps16
        go_wp2
        go_ret
        exact says
      · go_enter Try.func16, Try.ntmps16
        go_wp2
        go_ret
        exact says
    · go_enter Try.func16, Try.ntmps16
      go_wp2
      go_ret
      exact says
  · go_enter Try.func16, Try.ntmps16
    go_wp2
    go_ret
    exact says

def LawTrue6 (w : World) (e : Ending) (w' : World) : Prop := e = .returned (.bool true) ∧ Below w.heap.size w w'

theorem zzMax_is6 (x y m : Int) (w : World) (h : (y < x ∧ m = x) ∨ (¬ y < x ∧ m = y)) : Calls Try.prog 10 #[.int .i64 x, .int .i64 y] w fun e w' => e = .returned (.int .i64 m) ∧ w' = w := by
  rcases h with ⟨h, rfl⟩ | ⟨h, rfl⟩
  · go_enter Try.func10, Try.ntmps10
    go_wp2
    go_ret
    exact ⟨rfl, rfl⟩
  · go_enter Try.func10, Try.ntmps10
    go_wp2
    go_ret
    exact ⟨rfl, rfl⟩

set_option maxHeartbeats 2000000 in
set_option maxRecDepth 100000 in
theorem law6_any (a1 a2 : Option Addr) (n1 c1 n2 c2 : Nat) (iv : Int) (f1 f2 : Nat → Nat) (w : World) (hn1 : n1 ≤ 9223372036854775807) (hn2 : n2 ≤ 9223372036854775807)
    (ha1 : WordsAt w a1 n1 f1) (ha2 : WordsAt w a2 n2 f2) (hs1 : Small n1 f1) (hs2 : Small n2 f2) :
    Calls Try.prog 6 #[.slice a1 n1 c1, .slice a2 n2 c2, .int .i64 iv] w fun e w' => LawTrue6 w e w' := by
  have HA1 := hide ha1
  have HA2 := hide ha2
  have HS1 := hide hs1
  have HS2 := hide hs2
  clear ha1 ha2 hs1 hs2
  go_enter Try.func6, Try.ntmps6
  go_wp2_with fail
  refine (zzBytes16_any _ _ _ _ _ _ _ _ hn1 hn2).mono ?_
  rintro e w1 ⟨b, rfl, rfl⟩
  cases b with
  | false =>
    go_wp2
    go_ret
    exact ⟨rfl, Below.refl _ _⟩
  | true =>
  by_cases h1 : n1 ≤ 131072
  case neg =>
    have h1' : (131072 : Int) < (n1 : Int) := by omega
    go_wp2
    go_ret
    exact ⟨rfl, Below.refl _ _⟩
  case pos =>
  have h1' : decide ((131072 : Int) < (n1 : Int)) = false := by simp; omega
  by_cases h2 : n2 ≤ 131072
  case neg =>
    have h2' : (131072 : Int) < (n2 : Int) := by omega
    go_wp2
    go_ret
    exact ⟨rfl, Below.refl _ _⟩
  case pos =>
  have h2' : decide ((131072 : Int) < (n2 : Int)) = false := by simp; omega
  by_cases h3 : n1 + n2 ≤ 131072
  case neg =>
    have h3' : (131072 : Int) < (n1 : Int) + (n2 : Int) := by omega
    go_wp2
    go_ret
    exact ⟨rfl, Below.refl _ _⟩
  case pos =>
  have h3' : decide ((131072 : Int) < (n1 : Int) + (n2 : Int)) = false := by simp; omega
  by_cases hi0 : iv < 0
  · go_wp2
    go_ret
    exact ⟨rfl, Below.refl _ _⟩
  have hi0' : decide (iv < 0) = false := by simp; omega
  by_cases hi1 : iv < 4194304
  case neg =>
    go_wp2
    go_ret
    exact ⟨rfl, Below.refl _ _⟩
  case pos =>
  have hi1' : decide ((4194304 : Int) ≤ iv) = false := by simp; omega
  obtain ⟨i, rfl⟩ : ∃ i : Nat, iv = (i : Int) := ⟨iv.toNat, by omega⟩
  have hi : i < 4194304 := by omega
  go_wp2_with fail
  refine (zzWF_any _ _ _ _ _ _ _ _ _ (by omega) (by omega) HA1.out HA2.out HS2.out).mono ?_
  rintro e wx ⟨b, rfl, hwf, rfl⟩
  cases b with
  | false =>
    go_wp2
    go_ret
    exact ⟨rfl, Below.refl _ _⟩
  | true =>
  have HWF := hide (hwf.1 rfl)
  clear hwf
  have HZ0 := hide (zzBit_any _ n1 c1 i f1 wx (by omega) (by omega) HA1.out HS1.out)
  cases hbit0 : bitAt n1 f1 i with
  | true =>
    rw [hbit0] at HZ0
    clear hbit0
    go_wp2_with fail
    refine HZ0.out.mono ?_
    rintro e wy ⟨rfl, rfl⟩
    go_wp2
    go_ret
    exact ⟨rfl, Below.refl _ _⟩
  | false =>
  rw [hbit0] at HZ0
  have HB0 := hide hbit0
  clear hbit0
  go_wp2_with fail
  refine HZ0.out.mono ?_
  rintro e wy ⟨rfl, rfl⟩
  clear HZ0
  go_wp2_with fail
  refine (zzClone_any _ _ _ _ _ (by omega) HA1.out).mono ?_
  rintro e w2 ⟨v2, g2, rfl, ho2, -, hb2⟩
  obtain ⟨a2', c2', rfl, hw2⟩ := ho2.at
  have HW2 := hide hw2
  have HA2' := hide (HA2.out.below hb2)
  clear ho2 hw2 HA2 h1' h2' h3' hi0' hi1' hi0 hi1
  go_wp2_with fail
  refine (zzClone_any _ _ _ _ _ (by omega) HA2'.out).mono ?_
  rintro e w3 ⟨v3, g3, rfl, ho3, -, hb3⟩
  obtain ⟨a3', c3', rfl, hw3⟩ := ho3.at
  have HW3 := hide hw3
  have HW2' := hide (HW2.out.below hb3)
  have hb13 := below_step hb2 hb3
  clear ho3 hw3 HW2 HA2' hb2 hb3
  go_wp2_with fail
  refine (zzClone_any _ _ _ _ _ (by omega) HW2'.out).mono ?_
  rintro e w4 ⟨v4, g4, rfl, ho4, hg4, hb4⟩
  obtain ⟨a4, c4, rfl, -⟩ := ho4.at
  have HO4 := hide ho4
  have HW3' := hide (HW3.out.below hb4)
  clear ho4
  go_wp2_with fail
  refine (zzClone_any _ _ _ _ _ (by omega) HW3'.out).mono ?_
  rintro e w5 ⟨v5, g5, rfl, ho5, hg5, hb5⟩
  obtain ⟨a5, c5, rfl, -⟩ := ho5.at
  have hsz34 := hb4.size
  have hsz45 := hb5.size
  have hP : Pair w3.heap.size w5 (.slice a4 n1 c4) (.slice a5 n2 c5) g4 g5 n1 f1 n2 f2 :=
    ⟨HO4.out.below hb5, ho5, fun b e1 e2 => by have h6 := HO4.out.lt b e1; have h7 := hg5 b e2; omega, hg4, fun b e => by have := hg5 b e; omega⟩
  have HP := hide hP
  have hb35 := below_step hb4 hb5
  clear ho5 hP HO4 hg4 hg5 HW3' hb4 hb5
  go_wp2_with fail
  refine (zzAdd_any w3.heap.size _ _ _ _ _ _ _ _ _ _ _ _ hi (by omega) (by omega) HS1.out HS2.out (by omega) HP.out).mono ?_
  rintro e w6 ⟨a6, c6, a7, c7, g6, g7, rfl, hb6, hP6⟩
  have hb36 : Below w3.heap.size w3 w6 := hb35.trans hb6
  have HWw := hide (HW2'.out.below hb36)
  have HWn := hide (HW3.out.below hb36)
  have HWwK := HW2'
  have HWnK := HW3
  clear HW2' HW3 HP hb35 hb6
  have HN1 := hide (addN_ge n1 i)
  have HN2 := hide (addN_ge n2 (i / 64))
  have HM1 := hide (addN_le n1 i 131072 h1 (by omega))
  have HM2 := hide (addN_le n2 (i / 64) 131072 h2 (by omega))
  have hsz6 := hb36.size
  go_wp2_with fail
  refine (zzRemove_any w3.heap.size _ _ _ _ _ _ _ _ _ _ _ _ hi HN1.out.2 HN2.out.2 hsz6 hP6).mono ?_
  rintro e w7 ⟨a8, c8, a9, c9, g8, g9, rfl, hb7, hP7⟩
  have hb37 : Below w3.heap.size w3 w7 := hb36.trans hb7
  obtain ⟨_, _, e8, hw8⟩ := hP7.o1.at
  obtain ⟨rfl, -, rfl⟩ := Value.slice.inj e8
  obtain ⟨_, _, e9, hw9⟩ := hP7.o2.at
  obtain ⟨rfl, -, rfl⟩ := Value.slice.inj e9
  have HW8 := hide hw8
  have HW9 := hide hw9
  have HV1 := hide (HWwK.out.below hb37)
  have HV2 := hide (HWnK.out.below hb37)
  have HS8 := hide (remF_small (i := i) (addF_small (i := i) HS1.out))
  have HS9 := hide (remG_small (f := addF n1 f1 i) (i := i) (addF_small (i := i / 64) HS2.out))
  have hmx1 : (((i : Int) / 64 + 1 < (n1 : Int)) ∧ ((addN n1 i : Nat) : Int) = (n1 : Int)) ∨ (¬ ((i : Int) / 64 + 1 < (n1 : Int)) ∧ ((addN n1 i : Nat) : Int) = (i : Int) / 64 + 1) := by unfold addN; omega
  have hmx2 : (((i : Int) / 4096 + 1 < (n2 : Int)) ∧ ((addN n2 (i / 64) : Nat) : Int) = (n2 : Int)) ∨ (¬ ((i : Int) / 4096 + 1 < (n2 : Int)) ∧ ((addN n2 (i / 64) : Nat) : Int) = (i : Int) / 4096 + 1) := by unfold addN; omega
  have HMX1 := hide (zzMax_is6 _ _ _ w7 hmx1)
  have HMX2 := hide (zzMax_is6 _ _ _ w7 hmx2)
  have HB1 := hide (fun j => bit_back (i := i) HB0.out j)
  have HB2 := hide (fun m => mark_back (i := i) HS1.out HWF.out HB0.out m)
  have HWFe := hide (zzWF_any _ _ _ _ c8 c9 _ _ _ (by have := HM1.out; omega) (by have := HM2.out; omega) hw8 hw9 HS9.out)
  have HQ := hide (wf_back (i := i) HS1.out HWF.out HB0.out)
  clear hw8 hw9 hmx1 hmx2 e8 e9 hP7 hP6 hb36 hb7 HWw HWn HWwK HWnK
  generalize addN n1 i = N1 at HW8 HS8 HMX1 HB1 HM1 HWFe HQ ⊢
  generalize addN n2 (i / 64) = N2 at HW9 HS9 HMX2 HB2 HM2 HWFe HQ ⊢
  generalize remG (addF n1 f1 i) (addF n2 f2 (i / 64)) i = F2 at HW9 HS9 HB2 HWFe HQ
  generalize remF (addF n1 f1 i) i = F1 at HW8 HS8 HB1 HWFe HQ
  have hM1 := HM1.out
  have hM2 := HM2.out
  clear HN1 HN2 HWF HB0
  go_wp2_with fail
  refine HMX1.out.mono ?_
  rintro e w8 ⟨rfl, rfl⟩
  go_wp2_with fail
  refine HMX2.out.mono ?_
  rintro e w9 ⟨rfl, rfl⟩
  clear HMX1 HMX2
  go_wp2
  go_loopg [11] (64 * N1) (fun k jj wr => ∃ j : Nat, j + k = 64 * N1 ∧ jj = .int .i64 j ∧ wr = w9)
  case atStart => exact ⟨0, by omega, rfl, rfl⟩
  case round =>
    obtain ⟨j, hj, rfl, rfl⟩ := hrel
    by_cases hlt : j < 64 * N1
    · have HZ1 := hide (zzBit_any _ N1 c8 j F1 wr (by omega) (by omega) HW8.out HS8.out)
      have HZ2 := hide (zzBit_any _ n1 c2' j f1 wr (by omega) (by omega) HV1.out HS1.out)
      rw [HB1.out j] at HZ1
      cases hB : bitAt n1 f1 j with
      | true =>
        rw [hB] at HZ1 HZ2
        clear hB
        go_wp2_with fail
        refine HZ1.out.mono ?_
        rintro e w10 ⟨rfl, rfl⟩
        go_wp2_with fail
        refine HZ2.out.mono ?_
        rintro e w11 ⟨rfl, rfl⟩
        go_wp2
        go_roundg (gk - 1)
        case measure => omega
        case rel => exact ⟨j + 1, by omega, by go_num, rfl⟩
      | false =>
        rw [hB] at HZ1 HZ2
        clear hB
        go_wp2_with fail
        refine HZ1.out.mono ?_
        rintro e w10 ⟨rfl, rfl⟩
        go_wp2_with fail
        refine HZ2.out.mono ?_
        rintro e w11 ⟨rfl, rfl⟩
        go_wp2
        go_roundg (gk - 1)
        case measure => omega
        case rel => exact ⟨j + 1, by omega, by go_num, rfl⟩
    · go_wp2
      go_loopg [12] (64 * N2) (fun k jj wq => ∃ j : Nat, j + k = 64 * N2 ∧ jj = .int .i64 j ∧ wq = wr)
      case atStart => exact ⟨0, by omega, rfl, rfl⟩
      case round =>
        obtain ⟨m, hm, rfl, hwe⟩ := hrel
        subst hwe
        by_cases hltm : m < 64 * N2
        · have HZ1 := hide (zzBit_any _ N2 c9 m F2 wr (by omega) (by omega) HW9.out HS9.out)
          have HZ2 := hide (zzBit_any _ n2 c3' m f2 wr (by omega) (by omega) HV2.out HS2.out)
          rw [HB2.out m] at HZ1
          cases hB : bitAt n2 f2 m with
          | true =>
            rw [hB] at HZ1 HZ2
            clear hB
            go_wp2_with fail
            refine HZ1.out.mono ?_
            rintro e w10 ⟨rfl, rfl⟩
            go_wp2_with fail
            refine HZ2.out.mono ?_
            rintro e w11 ⟨rfl, rfl⟩
            go_wp2
            go_roundg (gk - 1)
            case measure => omega
            case rel => exact ⟨m + 1, by omega, by go_num, rfl⟩
          | false =>
            rw [hB] at HZ1 HZ2
            clear hB
            go_wp2_with fail
            refine HZ1.out.mono ?_
            rintro e w10 ⟨rfl, rfl⟩
            go_wp2_with fail
            refine HZ2.out.mono ?_
            rintro e w11 ⟨rfl, rfl⟩
            go_wp2
            go_roundg (gk - 1)
            case measure => omega
            case rel => exact ⟨m + 1, by omega, by go_num, rfl⟩
        · go_wp2_with fail
          refine HWFe.out.mono ?_
          rintro e w12 ⟨b, rfl, hbw, rfl⟩
          obtain rfl : b = true := hbw.2 HQ.out
          clear hbw
          go_wp2
          go_ret
          exact ⟨rfl, below_step hb13 hb37⟩

end Go.Proofs.Qxb6603844a
