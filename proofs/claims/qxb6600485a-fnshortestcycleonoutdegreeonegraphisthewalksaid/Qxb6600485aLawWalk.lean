/-
  Seat b6600485a: the walk of the law FnShortestCycleOnOutDegreeOneGraphIsTheWalk (6).
-/
import Derived.Test.Qxb6600485aShort
import Derived.Test.Qxb6600485aBack
import Derived.Test.Qxb6600485aChecks
namespace Go.Proofs.Qxb6600485a
open Go.RowKit

/-- On a graph of out-degree at most one a closed walk is the walk. -/
theorem closed_it {L : Nat → Nat} {T : Nat → Nat → Nat} {n v k : Nat} {q : Nat → Nat} (hT : ∀ u, u < n → ∀ j, j < L u → T u j < n) (hv : v < n) (h1 : ∀ u, u < n → L u ≤ 1) (h : Closed L T v k q) : ∀ i, i ≤ k → q i = it T v i ∧ q i < n := by
  intro i
  induction i with
  | zero => intro _; exact ⟨h.first, by rw [h.first]; exact hv⟩
  | succ i ih =>
    intro hi
    obtain ⟨e, hl⟩ := ih (by omega)
    obtain ⟨j, hj, hjT⟩ := h.edge i (by omega)
    have := h1 _ hl
    obtain rfl : j = 0 := by omega
    have hlt := hT _ hl 0 hj
    refine ⟨?_, by rw [← hjT]; exact hlt⟩
    rw [← hjT, e]; rfl

/-- The walk that comes back is a closed walk; a shortest one is as long. -/
theorem closed_of_it {L : Nat → Nat} {T : Nat → Nat → Nat} {v k : Nat} (hk : 0 < k) (hb : it T v k = v) (hp : ∀ i, i < k → 0 < L (it T v i)) : Closed L T v k (it T v) :=
  ⟨hk, rfl, hb, fun i hi => ⟨0, hp i hi, rfl⟩⟩

theorem short_it {L : Nat → Nat} {T : Nat → Nat → Nat} {n v k m : Nat} {q : Nat → Nat} (hT : ∀ u, u < n → ∀ j, j < L u → T u j < n) (hv : v < n) (h1 : ∀ u, u < n → L u ≤ 1)
    (hk : 0 < k) (hb : it T v k = v) (hp : ∀ i, i < k → 0 < L (it T v i)) (hne : ∀ i, 0 < i → i < k → it T v i ≠ v) (hq : Closed L T v m q) (hmin : ∀ k' q', Closed L T v k' q' → m ≤ k') : m = k := by
  have h2 := hmin k _ (closed_of_it hk hb hp)
  refine Nat.le_antisymm h2 (Nat.le_of_not_lt fun hlt => ?_)
  exact hne m hq.pos hlt (by rw [← (closed_it hT hv h1 hq m (Nat.le_refl _)).1]; exact hq.last)

def LawTrue (w : World) (e : Ending) (w' : World) : Prop := e = .returned (.bool true) ∧ Below w.heap.size w w'

set_option maxHeartbeats 2000000 in
theorem lawWalk_any (ai a : Option Addr) (l ci n c : Nat) (v : Int) (L : Nat → Nat) (E : Nat → Nat → Int) (I : Nat → Int) (w : World) (hl : l ≤ 9223372036854775807) (hn : n ≤ 9223372036854775807) (hL : ∀ i, i < n → L i ≤ 9223372036854775807)
    (hi : IntsAt w ai l I) (hr : RowsAt w a n L E) :
    Calls Try.prog 6 #[.slice ai l ci, .slice a n c, .int .i64 v] w fun e w' => LawTrue w e w' := by
  have HI := hide hi
  have HR := hide hr
  have HL := hide hL
  clear hi hr hL
  go_enter Try.func6, Try.ntmps6
  go_wp2_with fail
  refine (zzBytes23_any _ _ _ _ _ _ _ _ _ _ hl hn HR.out).mono ?_
  rintro e w1 ⟨b, rfl, -, rfl⟩
  cases b with
  | false =>
    go_wp2
    go_ret
    exact ⟨rfl, Below.refl _ _⟩
  | true =>
  go_wp2_with fail
  refine (graphFits_any _ _ _ _ _ _ _ _ _ hl hn HR.out).mono ?_
  rintro e w2 ⟨b, rfl, hfit, rfl⟩
  cases b with
  | false =>
    go_wp2
    go_ret
    exact ⟨rfl, Below.refl _ _⟩
  | true =>
  obtain ⟨hl1, hn1, hL1⟩ := hfit rfl
  have HL1 := hide hL1
  clear hfit hL1 HL
  by_cases hln : l = n
  case neg =>
    have hln' : ((l : Int) != (n : Int)) = true := by simp; omega
    go_wp2
    go_ret
    exact ⟨rfl, Below.refl _ _⟩
  case pos =>
  subst hln
  go_wp2_with fail
  refine (targets_any _ _ _ _ _ _ _ hn (fun i hi => by have := HL1.out i hi; omega) HR.out).mono ?_
  rintro e w3 ⟨b, rfl, htg, rfl⟩
  cases b with
  | false =>
    go_wp2
    go_ret
    exact ⟨rfl, Below.refl _ _⟩
  | true =>
  have HTG := hide (htg rfl)
  clear htg
  go_wp2_with fail
  refine (outDegree_any _ _ _ _ _ _ hn HR.out).mono ?_
  rintro e w4 ⟨b, rfl, hout, rfl⟩
  cases b with
  | false =>
    go_wp2
    go_ret
    exact ⟨rfl, Below.refl _ _⟩
  | true =>
  have HO := hide (hout rfl)
  clear hout
  by_cases hv0 : v < 0
  · go_wp2
    go_ret
    exact ⟨rfl, Below.refl _ _⟩
  by_cases hvn : v < (l : Int)
  case neg =>
    go_wp2
    go_ret
    exact ⟨rfl, Below.refl _ _⟩
  case pos =>
  obtain ⟨vn, rfl⟩ : ∃ vn : Nat, v = (vn : Int) := ⟨v.toNat, by omega⟩
  have hvl : vn < l := by omega
  -- the graph's targets as natural numbers
  obtain ⟨T, hTE, hTn⟩ : ∃ T : Nat → Nat → Nat, (∀ u, u < l → ∀ j, j < L u → E u j = (T u j : Int)) ∧ ∀ u, u < l → ∀ j, j < L u → T u j < l :=
    ⟨fun u j => (E u j).toNat, fun u hu j hj => by have := HTG.out u hu j hj; show E u j = ((E u j).toNat : Int); omega, fun u hu j hj => by have := HTG.out u hu j hj; show (E u j).toNat < l; omega⟩
  have hRT : RowsAt w4 a l L (fun u j => (T u j : Int)) := by
    intro u hu
    obtain ⟨b, off, a', c', e1, e2, e3⟩ := HR.out u hu
    exact ⟨b, off, a', c', e1, e2, e3.congr (fun j hj => hTE u hu j hj)⟩
  have HRT := hide hRT
  have HTn := hide hTn
  clear hRT hTn hTE HTG HR
  go_wp2_with fail
  refine (cloneInts_any _ _ _ _ _ (by omega) HI.out).mono ?_
  rintro e w5 ⟨a5, c5, rfl, hi5, hb5⟩
  have HI5 := hide hi5.at
  have HR5 := hide (HRT.out.below hb5)
  clear hi5
  go_wp2_with fail
  refine (cloneEdges_any _ _ _ _ _ _ (by omega) (fun i hi => by have := HL1.out i hi; omega) HR5.out).mono ?_
  rintro e w6 ⟨a6, c6, rfl, hr6, hb6⟩
  have HR6 := hide hr6
  have HI6 := hide (HI5.out.below hb6)
  have hb46 := below_step hb5 hb6
  clear hr6 HI5 HR5 hb5 hb6
  go_wp2_with fail
  refine (walkBack_any _ _ _ _ _ _ _ _ _ _ (by omega) hvl HI6.out HR6.out HTn.out).mono ?_
  rintro e w7 ⟨a7, m7, c7, b, rfl, hb7, hback⟩
  cases b with
  | false =>
    go_wp2
    go_ret
    exact ⟨rfl, below_step hb46 hb7⟩
  | true =>
  obtain ⟨k, hk, rfl, hkn, hkv, hkp, hkne, hw7⟩ := hback rfl
  have HH := hide (And.intro hkv (And.intro hkp (And.intro hkne hw7)))
  have hcyc := closed_of_it hk hkv hkp
  have HC := hide hcyc
  clear hback hkv hkp hkne hw7 hcyc
  have HI7 := hide (HI6.out.below hb7)
  have HR7 := hide (HR6.out.below hb7)
  have hb47 := below_step hb46 hb7
  clear HI6 HR6 hb46 hb7
  go_wp2_with fail
  refine (zzShortest_any _ _ _ _ _ _ _ _ _ _ (by omega) hvl (fun i hi => by have := HL1.out i hi; omega) HI7.out HR7.out HTn.out ⟨_, _, HC.out⟩).mono ?_
  rintro e w8 ⟨k2, q2, hq2, hmin, a8, c8, rfl, hi8, hb8⟩
  obtain ⟨hkv, hkp, hkne, hw7⟩ := HH.out
  obtain rfl := short_it HTn.out hvl HO.out hk hkv hkp hkne hq2 hmin
  have HE := hide (equalInts_yes a8 a7 (k2 + 1) c8 c7 (fun j => I (q2 j)) (fun j => I (it T vn j)) w8 (by omega) hi8.at (hw7.below hb8) (fun j hj => by
    show I (q2 j) = I (it T vn j)
    rw [(closed_it HTn.out hvl HO.out hq2 j (by omega)).1]))
  clear hq2 hmin hi8 hkv hkp hkne hw7 HH
  go_wp2_with fail
  refine HE.out.mono ?_
  rintro e w9 ⟨rfl, hb9⟩
  go_wp2
  go_ret
  exact ⟨rfl, below_step (below_step hb47 hb8) hb9⟩

end Go.Proofs.Qxb6600485a
