/-
  Seat b6603844a: the walk of the law FnBitsetAddKeepsWellFormed (4), with its guard (12).
-/
import Derived.Test.Qxb6603844aPlain
namespace Go.Proofs.Qxb6603844a
open Go.RowKit

set_option maxHeartbeats 400000 in
theorem zzBytes12_any (a a' : Option Addr) (n m c c' : Nat) (i : Int) (w : World) (hn : n ≤ 9223372036854775807) (hm : m ≤ 9223372036854775807) : Calls Try.prog 12 #[.slice a n c, .slice a' m c', .int .i64 i] w fun e w' => Says w e w' := by
  by_cases h1 : n ≤ 1048576
  · by_cases h2 : m ≤ 1048576
    · by_cases h3 : n + m ≤ 1048576
      · go_enter Try.func12, Try.ntmps12
        go_wp2
        go_ret
        exact says
      · go_enter Try.func12, Try.ntmps12
        go_wp2
        go_ret
        exact says
    · go_enter Try.func12, Try.ntmps12
      go_wp2
      go_ret
      exact says
  · go_enter Try.func12, Try.ntmps12
    go_wp2
    go_ret
    exact says

def LawTrue4 (w : World) (e : Ending) (w' : World) : Prop := e = .returned (.bool true) ∧ Below w.heap.size w w'

set_option maxHeartbeats 2000000 in
set_option maxRecDepth 100000 in
theorem law4_any (a1 a2 : Option Addr) (n1 c1 n2 c2 : Nat) (iv : Int) (f1 f2 : Nat → Nat) (w : World) (hn1 : n1 ≤ 9223372036854775807) (hn2 : n2 ≤ 9223372036854775807)
    (ha1 : WordsAt w a1 n1 f1) (ha2 : WordsAt w a2 n2 f2) (hs1 : Small n1 f1) (hs2 : Small n2 f2) :
    Calls Try.prog 4 #[.slice a1 n1 c1, .slice a2 n2 c2, .int .i64 iv] w fun e w' => LawTrue4 w e w' := by
  have HA1 := hide ha1
  have HA2 := hide ha2
  have HS1 := hide hs1
  have HS2 := hide hs2
  clear ha1 ha2 hs1 hs2
  go_enter Try.func4, Try.ntmps4
  go_wp2_with fail
  refine (zzBytes12_any _ _ _ _ _ _ _ _ hn1 hn2).mono ?_
  rintro e w1 ⟨b, rfl, rfl⟩
  cases b with
  | false =>
    go_wp2
    go_ret
    exact ⟨rfl, Below.refl _ _⟩
  | true =>
  by_cases h1 : n1 ≤ 131072
  case neg =>
    have h1' : (131072 : Int) < (n1 : Int) := by omega
    go_wp2
    go_ret
    exact ⟨rfl, Below.refl _ _⟩
  case pos =>
  have h1' : decide ((131072 : Int) < (n1 : Int)) = false := by simp; omega
  by_cases h2 : n2 ≤ 131072
  case neg =>
    have h2' : (131072 : Int) < (n2 : Int) := by omega
    go_wp2
    go_ret
    exact ⟨rfl, Below.refl _ _⟩
  case pos =>
  have h2' : decide ((131072 : Int) < (n2 : Int)) = false := by simp; omega
  by_cases h3 : n1 + n2 ≤ 131072
  case neg =>
    have h3' : (131072 : Int) < (n1 : Int) + (n2 : Int) := by omega
    go_wp2
    go_ret
    exact ⟨rfl, Below.refl _ _⟩
  case pos =>
  have h3' : decide ((131072 : Int) < (n1 : Int) + (n2 : Int)) = false := by simp; omega
  by_cases hi0 : iv < 0
  · go_wp2
    go_ret
    exact ⟨rfl, Below.refl _ _⟩
  have hi0' : decide (iv < 0) = false := by simp; omega
  by_cases hi1 : iv < 4194304
  case neg =>
    go_wp2
    go_ret
    exact ⟨rfl, Below.refl _ _⟩
  case pos =>
  have hi1' : decide ((4194304 : Int) ≤ iv) = false := by simp; omega
  obtain ⟨i, rfl⟩ : ∃ i : Nat, iv = (i : Int) := ⟨iv.toNat, by omega⟩
  have hi : i < 4194304 := by omega
  go_wp2_with fail
  refine (zzWF_any _ _ _ _ _ _ _ _ _ (by omega) (by omega) HA1.out HA2.out HS2.out).mono ?_
  rintro e wx ⟨b, rfl, hwf, rfl⟩
  cases b with
  | false =>
    go_wp2
    go_ret
    exact ⟨rfl, Below.refl _ _⟩
  | true =>
  have HWF := hide (hwf.1 rfl)
  clear hwf
  go_wp2_with fail
  refine (zzClone_any _ _ _ _ _ (by omega) HA1.out).mono ?_
  rintro e w2 ⟨v2, g2, rfl, ho2, -, hb2⟩
  obtain ⟨a2', c2', rfl, hw2⟩ := ho2.at
  have HW2 := hide hw2
  have HA2' := hide (HA2.out.below hb2)
  clear ho2 hw2 HA2 h1' h2' h3' hi0' hi1' hi0 hi1
  go_wp2_with fail
  refine (zzClone_any _ _ _ _ _ (by omega) HA2'.out).mono ?_
  rintro e w3 ⟨v3, g3, rfl, ho3, -, hb3⟩
  obtain ⟨a3', c3', rfl, hw3⟩ := ho3.at
  have HW3 := hide hw3
  have HW2' := hide (HW2.out.below hb3)
  have hb13 := below_step hb2 hb3
  clear ho3 hw3 HW2 HA2' hb2 hb3
  go_wp2_with fail
  refine (zzClone_any _ _ _ _ _ (by omega) HW2'.out).mono ?_
  rintro e w4 ⟨v4, g4, rfl, ho4, hg4, hb4⟩
  obtain ⟨a4, c4, rfl, -⟩ := ho4.at
  have HO4 := hide ho4
  have HW3' := hide (HW3.out.below hb4)
  clear ho4
  go_wp2_with fail
  refine (zzClone_any _ _ _ _ _ (by omega) HW3'.out).mono ?_
  rintro e w5 ⟨v5, g5, rfl, ho5, hg5, hb5⟩
  obtain ⟨a5, c5, rfl, -⟩ := ho5.at
  have hsz34 := hb4.size
  have hsz45 := hb5.size
  have hP : Pair w3.heap.size w5 (.slice a4 n1 c4) (.slice a5 n2 c5) g4 g5 n1 f1 n2 f2 :=
    ⟨HO4.out.below hb5, ho5, fun b e1 e2 => by have h6 := HO4.out.lt b e1; have h7 := hg5 b e2; omega, hg4, fun b e => by have := hg5 b e; omega⟩
  have HP := hide hP
  have hb35 := below_step hb4 hb5
  clear ho5 hP HO4 hg4 hg5 HW3' hb4 hb5
  go_wp2_with fail
  refine (zzAdd_any w3.heap.size _ _ _ _ _ _ _ _ _ _ _ _ hi (by omega) (by omega) HS1.out HS2.out (by omega) HP.out).mono ?_
  rintro e w6 ⟨a6, c6, a7, c7, g6, g7, rfl, hb6, hP6⟩
  have hb36 : Below w3.heap.size w3 w6 := hb35.trans hb6
  have HWw := hide (HW2'.out.below hb36)
  have HWn := hide (HW3.out.below hb36)
  clear HW2' HW3 HP hb35 hb6
  have HN1 := hide (addN_ge n1 i)
  have HN2 := hide (addN_ge n2 (i / 64))
  have HM1 := hide (addN_le n1 i 131072 h1 (by omega))
  have HM2 := hide (addN_le n2 (i / 64) 131072 h2 (by omega))
  obtain ⟨_, _, e6, hw6⟩ := hP6.o1.at
  obtain ⟨rfl, -, rfl⟩ := Value.slice.inj e6
  obtain ⟨_, _, e7, hw7⟩ := hP6.o2.at
  obtain ⟨rfl, -, rfl⟩ := Value.slice.inj e7
  have HS6 := hide (addF_small (i := i) HS1.out)
  have HS7 := hide (addF_small (i := i / 64) HS2.out)
  have HWF6 := hide (zzWF_any _ _ _ _ c6 c7 _ _ _ (by have := HM1.out; omega) (by have := HM2.out; omega) hw6 hw7 HS7.out)
  have hwf6 := wf_add (i := i) HWF.out
  have HZ := hide (zzBit_any _ _ c6 i _ _ (by have := HM1.out; omega) (by omega) hw6 HS6.out)
  have hbit : bitAt (addN n1 i) (addF n1 f1 i) i = true := by rw [bit_add]; simp
  rw [hbit] at HZ
  have HQ := hide hwf6
  clear hw6 hw7 e6 e7 hP6 hwf6 hbit
  go_wp2_with fail
  refine HWF6.out.mono ?_
  rintro e w7 ⟨b, rfl, hb7, rfl⟩
  obtain rfl : b = true := hb7.2 HQ.out
  clear hb7
  go_wp2_with fail
  refine HZ.out.mono ?_
  rintro e w8 ⟨rfl, rfl⟩
  go_wp2
  go_ret
  exact ⟨rfl, below_step hb13 hb36⟩

end Go.Proofs.Qxb6603844a
