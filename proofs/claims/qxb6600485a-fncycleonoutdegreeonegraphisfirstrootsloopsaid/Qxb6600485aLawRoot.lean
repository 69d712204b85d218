/-
  Seat b6600485a: the walk of the law FnCycleOnOutDegreeOneGraphIsFirstRootsLoop (3), with its guard (8) and ZZCycle (15).
-/
import Derived.Test.Qxb6600485aCycle
import Derived.Test.Qxb6600485aFirst
import Derived.Test.Qxb6600485aBack
import Derived.Test.Qxb6600485aChecks
namespace Go.Proofs.Qxb6600485a
open Go.RowKit

set_option maxHeartbeats 400000 in
theorem zzBytes8_any (ai : Option Addr) (l ci : Nat) (a : Option Addr) (n c : Nat) (L : Nat → Nat) (E : Nat → Nat → Int) (w : World) (hl : l ≤ 9223372036854775807) (hn : n ≤ 9223372036854775807) (h : RowsAt w a n L E) :
    Calls Try.prog 8 #[.slice ai l ci, .slice a n c] w fun e w' => SaysIf True w e w' := by
  by_cases h1 : l ≤ 1048576
  · by_cases h2 : n ≤ 1048576
    · by_cases h3 : l + n ≤ 1048576
      · go_enter Try.func8, Try.ntmps8
        go_wp2
        go_loopg [5, 6] n (fun k z i wr => ∃ m s : Nat, m + k = n ∧ i = .int .i64 m ∧ wr = w ∧ z = .int .i64 s ∧ s ≤ 1048576)
        case atStart => exact ⟨0, l + n, by omega, rfl, rfl, by go_num, h3⟩
        case round =>
          obtain ⟨m, s, hm, rfl, rfl, rfl, hs⟩ := hrel
          by_cases hlt : m < n
          · obtain ⟨b, off, a', c', rfl, hc, hr⟩ := h m hlt
            clear hr h
            by_cases h4 : L m ≤ 1048576
            · by_cases h5 : s + L m ≤ 1048576
              · go_wp2
                go_roundg (gk - 1)
                case measure => omega
                case rel => exact ⟨m + 1, s + L m, by omega, by go_num, rfl, by go_num, h5⟩
              · go_wp2
                go_ret
                exact saysIf_no
            · go_wp2
              go_ret
              exact saysIf_no
          · go_wp2
            go_ret
            exact saysIf_yes trivial
      · go_enter Try.func8, Try.ntmps8
        go_wp2
        go_ret
        exact saysIf_no
    · go_enter Try.func8, Try.ntmps8
      go_wp2
      go_ret
      exact saysIf_no
  · go_enter Try.func8, Try.ntmps8
    go_wp2
    go_ret
    exact saysIf_no

set_option maxHeartbeats 1000000 in
theorem zzCycle_any (ai a : Option Addr) (ci c n : Nat) (L : Nat → Nat) (T : Nat → Nat → Nat) (I : Nat → Int) (w : World) (hn : n ≤ 1048576) (hL : ∀ u, u < n → L u ≤ 1)
    (hi : IntsAt w ai n I) (hr : RowsAt w a n L (fun u j => (T u j : Int))) (hT : ∀ u, u < n → ∀ j, j < L u → T u j < n) :
    Calls Try.prog 15 #[.slice ai n ci, .slice a n c] w fun e w' => CycleGot w n L T I e w' := by
  have hb : Below w.heap.size w (w.alloc (.cells #[.slice ai n ci, .slice a n c] 40)) := (Below.refl _ _).alloc (Nat.le_refl _) _
  have hcc := cycle_any w.heap.size 0 ai a ci c n L T I (w.alloc (.cells #[.slice ai n ci, .slice a n c] 40)) hn hL (by simp) (by simp) (hi.below hb) (hr.below hb) hT
  have HCC := hide hcc
  have HB := hide hb
  clear hcc hb hi hr hT hL
  go_enter Try.func15, Try.ntmps15
  go_wp2_with fail
  refine HCC.out.mono ?_
  rintro e w1 (⟨rfl, hb1, hd⟩ | ⟨r, p, s, h1, h2, h3, hF⟩)
  · have HD := hide hd
    clear hd
    go_wp2
    go_ret
    exact .inl ⟨rfl, HB.out.trans (hb1.mono HB.out.size), HD.out⟩
  · obtain ⟨k3, q3, m1, m2, a3, c3, rfl, m3, m4⟩ := foundCyc_below HB.out hF
    have HH := hide (And.intro h2 (And.intro h3 (And.intro m1 (And.intro m2 m3))))
    clear h2 h3 m1 m2 m3 hF
    go_wp2
    go_ret
    obtain ⟨h2, h3, m1, m2, m3⟩ := HH.out
    exact .inr ⟨r, p, s, h1, h2, h3, k3, q3, m1, m2, a3, c3, rfl, m3, m4⟩

def LawTrue3 (w : World) (e : Ending) (w' : World) : Prop := e = .returned (.bool true) ∧ Below w.heap.size w w'

set_option maxHeartbeats 2000000 in
set_option maxRecDepth 100000 in
theorem lawRoot_any (ai a : Option Addr) (l ci n c : Nat) (L : Nat → Nat) (E : Nat → Nat → Int) (I : Nat → Int) (w : World) (hl : l ≤ 9223372036854775807) (hn : n ≤ 9223372036854775807) (hL : ∀ i, i < n → L i ≤ 9223372036854775807)
    (hi : IntsAt w ai l I) (hr : RowsAt w a n L E) :
    Calls Try.prog 3 #[.slice ai l ci, .slice a n c] w fun e w' => LawTrue3 w e w' := by
  have q22 : ∀ (w : World) (a : Option Addr) (n c n' c' : Nat), (binOp .eql 22 (.slice a n c) (.slice none n' c')).run Try.prog w = .ok (.bool a.isNone) w := fun w a n c n' c' => Lib.run_eql_slice_nil w _ _ a n c n' c' Try.underlying22
  have HI := hide hi
  have HR := hide hr
  have HL := hide hL
  clear hi hr hL
  go_enter Try.func3, Try.ntmps3
  go_wp2_with fail
  refine (zzBytes8_any _ _ _ _ _ _ _ _ _ hl hn HR.out).mono ?_
  rintro e w1 ⟨b, rfl, -, rfl⟩
  cases b with
  | false =>
    go_wp2
    go_ret
    exact ⟨rfl, Below.refl _ _⟩
  | true =>
  go_wp2_with fail
  refine (graphFits_any _ _ _ _ _ _ _ _ _ hl hn HR.out).mono ?_
  rintro e w2 ⟨b, rfl, hfit, rfl⟩
  cases b with
  | false =>
    go_wp2
    go_ret
    exact ⟨rfl, Below.refl _ _⟩
  | true =>
  obtain ⟨hl1, hn1, hL1⟩ := hfit rfl
  have HL1 := hide hL1
  clear hfit hL1 HL
  by_cases hq : n ≤ 4096
  case neg =>
    have hq' : (4096 : Int) < (n : Int) := by omega
    go_wp2
    go_ret
    exact ⟨rfl, Below.refl _ _⟩
  case pos =>
  have hq' : decide ((4096 : Int) < (n : Int)) = false := by simp; omega
  by_cases hln : l = n
  case neg =>
    have hln' : ((l : Int) != (n : Int)) = true := by simp; omega
    go_wp2
    go_ret
    exact ⟨rfl, Below.refl _ _⟩
  case pos =>
  subst hln
  go_wp2_with fail
  refine (targets_any _ _ _ _ _ _ _ hn (fun i hi => by have := HL1.out i hi; omega) HR.out).mono ?_
  rintro e w3 ⟨b, rfl, htg, rfl⟩
  cases b with
  | false =>
    go_wp2
    go_ret
    exact ⟨rfl, Below.refl _ _⟩
  | true =>
  have HTG := hide (htg rfl)
  clear htg
  go_wp2_with fail
  refine (outDegree_any _ _ _ _ _ _ hn HR.out).mono ?_
  rintro e w4 ⟨b, rfl, hout, rfl⟩
  cases b with
  | false =>
    go_wp2
    go_ret
    exact ⟨rfl, Below.refl _ _⟩
  | true =>
  have HO := hide (hout rfl)
  clear hout
  -- the graph's targets as natural numbers
  obtain ⟨T, hTE, hTn⟩ : ∃ T : Nat → Nat → Nat, (∀ u, u < l → ∀ j, j < L u → E u j = (T u j : Int)) ∧ ∀ u, u < l → ∀ j, j < L u → T u j < l :=
    ⟨fun u j => (E u j).toNat, fun u hu j hj => by have := HTG.out u hu j hj; show E u j = ((E u j).toNat : Int); omega, fun u hu j hj => by have := HTG.out u hu j hj; show (E u j).toNat < l; omega⟩
  have hRT : RowsAt w4 a l L (fun u j => (T u j : Int)) := by
    intro u hu
    obtain ⟨b, off, a', c', e1, e2, e3⟩ := HR.out u hu
    exact ⟨b, off, a', c', e1, e2, e3.congr (fun j hj => hTE u hu j hj)⟩
  have HRT := hide hRT
  have HTn := hide hTn
  clear hRT hTn hTE HTG HR
  go_wp2_with fail
  refine (cloneInts_any _ _ _ _ _ (by omega) HI.out).mono ?_
  rintro e w5 ⟨a5, c5, rfl, hi5, hb5⟩
  have HI5 := hide hi5.at
  have HR5 := hide (HRT.out.below hb5)
  clear hi5
  go_wp2_with fail
  refine (cloneEdges_any _ _ _ _ _ _ (by omega) (fun i hi => by have := HL1.out i hi; omega) HR5.out).mono ?_
  rintro e w6 ⟨a6, c6, rfl, hr6, hb6⟩
  have HR6 := hide hr6
  have HI6 := hide (HI5.out.below hb6)
  have hb46 := below_step hb5 hb6
  clear hr6 HI5 HR5 hb5 hb6
  go_wp2_with fail
  refine (firstRootLoop_any _ _ _ _ _ _ (by omega) HR6.out HTn.out).mono ?_
  rintro e w7 ⟨hb7, hfr⟩
  have HI7 := hide (HI6.out.below hb7)
  have HR7 := hide (HR6.out.below hb7)
  have hb47 := below_step hb46 hb7
  clear HI6 HR6 hb46 hb7
  rcases hfr with ⟨rfl, hdies⟩ | ⟨r, p, s, A, c7, hrn, hrd, hrep, hsn, rfl, hw7⟩
  · -- every walk dies
    have HD := hide hdies
    clear hdies
    go_wp2_with fail
    refine (zzCycle_any _ _ _ _ _ _ _ _ _ (by omega) HO.out HI7.out HR7.out HTn.out).mono ?_
    rintro e w8 (⟨rfl, hb8, _⟩ | ⟨r, p, s, h1, h2, h3, hF⟩)
    · go_wp2
      go_ret
      exact ⟨rfl, below_step hb47 hb8⟩
    · exact (rep_not_dies h3 (HD.out r h1)).elim
  · have HH := hide (And.intro hrd (And.intro hrep hw7))
    clear hrd hrep hw7
    go_wp2_with fail
    refine (zzCycle_any _ _ _ _ _ _ _ _ _ (by omega) HO.out HI7.out HR7.out HTn.out).mono ?_
    rintro e w8 (⟨rfl, hb8, hd8⟩ | ⟨r', p', s', h1, h2, h3, k8, q8, m1, m2, a8, c8, rfl, m3, hb8⟩)
    · exact (rep_not_dies HH.out.2.1 (hd8 r hrn)).elim
    · obtain ⟨hrd, hrep, hw7⟩ := HH.out
      obtain rfl : r = r' := by
        rcases Nat.lt_trichotomy r r' with hlt | he | hgt
        · exact (rep_not_dies hrep (h2 r hlt)).elim
        · exact he
        · exact (rep_not_dies h3 (hrd r' hgt)).elim
      obtain ⟨rfl, rfl⟩ := rep_unique hrep h3
      obtain ⟨rfl, hq8⟩ := rep_shortest HTn.out hrn HO.out hrep m1 m2
      have hplt := hrep.lt
      have hitn : ∀ j, j < s - p + 1 → it T r (p + j) < l := by
        intro j hj
        by_cases e : p + j = s
        · rw [e, ← hrep.eq]
          exact it_lt HTn.out hrn p (fun i hi => hrep.pos i (by omega))
        · exact it_lt HTn.out hrn (p + j) (fun i hi => hrep.pos i (by omega))
      have HW := hide (And.intro (hw7.below hb8) (And.intro hitn hq8))
      have HI8 := hide (HI7.out.below hb8)
      have HG := hide m3.at
      have hb48 := below_step hb47 hb8
      have hmk := run_make_row' (P := Try.prog) 22 3 (.int .i64 0) 8 Try.underlying22 Try.info3 rfl .i64 .i64 (s - p + 1) (by omega) (by omega)
      clear hrd hrep hw7 m1 m2 m3 h2 h3 hitn hq8 HH HI7 HR7 hb47 hb8
      obtain ⟨M, hM⟩ : ∃ M, M = s - p + 1 := ⟨_, rfl⟩
      rw [← hM] at HW HG hmk ⊢
      have hMl : M ≤ 4097 := by omega
      have HM := hide hM
      clear hM
      go_wp2
      go_loopg [9] M (fun k i wr => ∃ m : Nat, m + k = M ∧ i = .int .i64 m ∧ wr.rowIs w8.heap.size 3 M (fun j => if j < m then .int .i64 (I (it T r (p + j))) else .int .i64 0) ∧ Below w8.heap.size w8 wr)
      case atStart => exact ⟨0, by omega, rfl, (World.rowIs_made w8 _ M 3).congr (fun j _ => by simp), (Below.refl _ _).alloc (Nat.le_refl _) _⟩
      case round =>
        clear hmk
        obtain ⟨m, hm, rfl, hrow, hb9⟩ := hrel
        by_cases hlt : m < M
        · obtain ⟨bl, offl, e9, hcl⟩ := HW.out.1 m hlt
          obtain rfl := Option.some.inj e9
          have hxl := HW.out.2.1 m hlt
          obtain ⟨x, hx⟩ : ∃ x, it T r (p + m) = x := ⟨_, rfl⟩
          simp only [hx] at hcl hxl
          obtain ⟨bi, offi, rfl, hci⟩ := HI8.out x hxl
          have hc1 : wr.cell? ⟨bl, offl + m, none⟩ = some (.int .i64 (x : Int)) := (hb9.cell (p := ⟨bl, offl + m, none⟩) (World.block_lt_of_cell? _ _ hcl)).trans hcl
          have hc2 : wr.cell? ⟨bi, offi + x, none⟩ = some (.int .i64 (I x)) := (hb9.cell (p := ⟨bi, offi + x, none⟩) (World.block_lt_of_cell? _ _ hci)).trans hci
          have hc3 := hrow.cell hlt
          have hf3 := hrow.frozen m
          have HX := hide hx
          clear hcl hci hx
          go_wp2
          go_roundg (gk - 1)
          case measure => omega
          case rel =>
            refine ⟨m + 1, by omega, by go_num, (hrow.set m _).congr (fun j _ => ?_), hb9.setCell (Nat.le_refl _) _⟩
            by_cases e : j = m
            · subst e; rw [HX.out]; simp
            · rw [if_neg e]
              by_cases hj : j < m
              · rw [if_pos hj, if_pos (by omega)]
              · rw [if_neg hj, if_neg (by omega)]
        · have hwant : IntsAt wr (some ⟨w8.heap.size, 0, none⟩) M (fun j => I (it T r (p + j))) := (intsFrom_row (hrow.congr (fun j hj => if_pos (by omega)))).at
          have HE := hide (equalInts_yes a8 (some ⟨w8.heap.size, 0, none⟩) M c8 M (fun j => I (q8 j)) (fun j => I (it T r (p + j))) wr (by omega) (HG.out.below hb9) hwant (fun j hj => by
            show I (q8 j) = I (it T r (p + j))
            rw [HW.out.2.2 j (by have := HM.out; omega)]))
          clear hwant hrow
          go_wp2_with fail
          refine HE.out.mono ?_
          rintro e w9 ⟨rfl, hb10⟩
          go_wp2
          go_ret
          exact ⟨rfl, below_step (below_step hb48 hb9) hb10⟩

end Go.Proofs.Qxb6600485a
