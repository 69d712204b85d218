/-
  Seat b6600485a: shortestCycle (29), ZZShortestCycle (25).
-/
import Derived.Test.Qxb6600485aClosed
namespace Go.Proofs.Qxb6600485a
open Go.RowKit

/-- What shortestCycle has done: a shortest closed walk from v, as ids, in new memory. -/
def FoundCyc (w : World) (v : Nat) (L : Nat → Nat) (T : Nat → Nat → Nat) (I : Nat → Int) (e : Ending) (w' : World) : Prop :=
  ∃ k q, Closed L T v k q ∧ (∀ k' q', Closed L T v k' q' → k ≤ k') ∧ NewInts w (k + 1) (fun j => I (q j)) e w'

/-- What holds at the head of the search's loop. -/
structure Srch (w wr : World) (n v : Nat) (L : Nat → Nat) (T : Nat → Nat → Nat) (F : Nat → Int) (d o : Nat → Nat) (h r : Nat) (q : Value) : Prop where
  b : Bfs n v L T F d o (h + r) h
  s : Span d o (h + r) h
  row : wr.rowIs w.heap.size 3 n (fun j => .int .i64 (F j))
  own : OwnSl (w.heap.size + 1) wr q r (fun i => (o (h + i) : Int))
  bel : Below w.heap.size w wr

structure SrchIn (w wr : World) (n v : Nat) (L : Nat → Nat) (T : Nat → Nat → Nat) (F : Nat → Int) (d o : Nat → Nat) (h r j : Nat) (q : Value) : Prop where
  b : BfsIn n v L T F d o (h + 1 + r) h j
  row : wr.rowIs w.heap.size 3 n (fun j => .int .i64 (F j))
  own : OwnSl (w.heap.size + 1) wr q r (fun i => (o (h + 1 + i) : Int))
  bel : Below w.heap.size w wr

theorem srch_push {w wq w2 : World} {n v : Nat} {L : Nat → Nat} {T : Nat → Nat → Nat} {F : Nat → Int} {d o : Nat → Nat} {h r j u y : Nat} {q q' : Value} (hs : SrchIn w wq n v L T F d o h r j q) (hu : o h = u) (hy : T u j = y)
    (hj : j < L u) (hT : y < n) (hne : y ≠ v) (hF : F y < 0)
    (hb : Below (w.heap.size + 1) (wq.setCell ⟨w.heap.size, y, none⟩ (.int .i64 u)) w2) (ho : OwnSl (w.heap.size + 1) w2 q' (r + 1) (fun i => if i = r then (y : Int) else (o (h + 1 + i) : Int))) :
    SrchIn w w2 n v L T (fun x => if x = T (o h) j then (o h : Int) else F x) (fun x => if x = T (o h) j then d (o h) + 1 else d x) (fun i => if i = h + 1 + r then T (o h) j else o i) h (r + 1) (j + 1) q' := by
  subst hu
  subst hy
  refine ⟨bfs_push hs.b hj hT hne hF, ?_, ho.congr (fun i hi => ?_), (hs.bel.setCell (Nat.le_refl _) _).trans (hb.mono (by omega))⟩
  · refine ((hs.row.set (T (o h) j) (.int .i64 (o h))).congr (fun x hx => ?_)).of_block (hb.block _ (by omega))
    by_cases e : x = T (o h) j
    · rw [if_pos e, if_pos e]
    · rw [if_neg e, if_neg e]
  · by_cases e : i = r
    · subst e; simp
    · rw [if_neg e, if_neg (by omega)]

theorem srch_skip {w wq : World} {n v : Nat} {L : Nat → Nat} {T : Nat → Nat → Nat} {F : Nat → Int} {d o : Nat → Nat} {h r j u y : Nat} {q : Value} (hs : SrchIn w wq n v L T F d o h r j q) (hu : o h = u) (hy : T u j = y)
    (hT : y < n) (hne : y ≠ v) (hF : ¬ F y < 0) : SrchIn w wq n v L T F d o h r (j + 1) q := by
  subst hu
  subst hy
  exact ⟨bfs_skip hs.b hT hne hF, hs.row, hs.own, hs.bel⟩

theorem foundCyc_mk {w wq w' : World} {v : Nat} {L : Nat → Nat} {T : Nat → Nat → Nat} {I : Nat → Int} {k : Nat} {ch : Nat → Nat} {e : Ending} (hb : Below w.heap.size w wq) (hn : NewInts wq (k + 2) (fun j => if j ≤ k then I (ch (k - j)) else I v) e w')
    (hq : Closed L T v (k + 1) (fun i => if i ≤ k then ch (k - i) else v)) (hm : ∀ k' q, Closed L T v k' q → k + 1 ≤ k') : FoundCyc w v L T I e w' := by
  obtain ⟨a', c', rfl, h1, h2⟩ := hn
  refine ⟨k + 1, _, hq, hm, a', c', rfl, ?_, hb.trans (h2.mono hb.size)⟩
  intro j hj
  obtain ⟨b, off, e1, e2, e3⟩ := h1 j hj
  refine ⟨b, off, e1, Nat.le_trans hb.size e2, e3.trans ?_⟩
  by_cases e : j ≤ k
  · simp [e]
  · simp [e]

/-- The head of the queue: where it lies. -/
theorem own_head {base : Nat} {w : World} {q : Value} {r : Nat} {f : Nat → Int} (h : OwnSl base w q (r + 1) f) : ∃ g off cap, q = .slice (some ⟨g, off, none⟩) (r + 1) (cap + 1) ∧ w.cell? ⟨g, off, none⟩ = some (.int .i64 (f 0)) ∧
    OwnSl base w (.slice (if cap = 0 then some ⟨g, off, none⟩ else some ⟨g, off + 1, none⟩) r cap) r (fun i => f (i + 1)) := by
  obtain ⟨ao, g, off, cap, rfl, h1, h2, h3, h4, h5⟩ := h
  obtain ⟨rfl, hg⟩ := h3 (by omega)
  obtain ⟨cap, rfl⟩ : ∃ m, cap = m + 1 := ⟨cap - 1, by omega⟩
  refine ⟨g, off, cap, rfl, h5 0 (by omega), _, g, off + 1, cap, rfl, by omega, by omega, fun hc => ⟨if_neg (by omega), hg⟩, fun i hi => ?_, fun i hi => ?_⟩
  · rw [show off + 1 + i = off + (i + 1) by omega]; exact h4 (i + 1) (by omega)
  · rw [show off + 1 + i = off + (i + 1) by omega]; exact h5 (i + 1) (by omega)

set_option maxHeartbeats 2000000 in
theorem shortestCycle_any (pb po : Nat) (ai a : Option Addr) (ci c n v : Nat) (L : Nat → Nat) (T : Nat → Nat → Nat) (I : Nat → Int) (w : World) (hn : n ≤ 1048576) (hv : v < n) (hL : ∀ u, u < n → L u ≤ 1048576)
    (hg0 : w.cell? ⟨pb, po, none⟩ = some (.slice ai n ci)) (hg1 : w.cell? ⟨pb, po + 1, none⟩ = some (.slice a n c)) (hi : IntsAt w ai n I) (hr : RowsAt w a n L (fun u j => (T u j : Int))) (hT : ∀ u, u < n → ∀ j, j < L u → T u j < n)
    (hcyc : ∃ k q, Closed L T v k q) :
    Calls Try.prog 29 #[.pointer (some ⟨pb, po, none⟩), .int .i64 v] w fun e w' => FoundCyc w v L T I e w' := by
  obtain ⟨i0, hi0, hz0, hz1, hz2⟩ := info_parts Try.info3
  have hmk := run_make_row' (P := Try.prog) 22 3 (.int .i64 0) 8 Try.underlying22 Try.info3 rfl .i64 .i64 n (by omega) (by omega)
  have HI := hide hi
  have HR := hide hr
  have HT := hide hT
  have HC := hide hcyc
  have HL := hide hL
  clear hi hr hT hcyc hL
  go_enter Try.func29, Try.ntmps29
  go_wp2
  go_loopg [19] n (fun k i wr => ∃ m : Nat, m + k = n ∧ i = .int .i64 m ∧ wr.rowIs w.heap.size 3 n (fun j => if j < m then .int .i64 (-1) else .int .i64 0) ∧ Below w.heap.size w wr)
  case atStart => exact ⟨0, by omega, rfl, (World.rowIs_made w _ n 3).congr (fun j _ => by simp), (Below.refl _ _).alloc (Nat.le_refl _) _⟩
  case round =>
    obtain ⟨m, hm, rfl, hrow, hb⟩ := hrel
    by_cases hlt : m < n
    · have hc2 := hrow.cell hlt
      have hf2 := hrow.frozen m
      go_wp2
      go_roundg (gk - 1)
      case measure => omega
      case rel =>
        refine ⟨m + 1, by omega, by go_num, (hrow.set m _).congr (fun j _ => ?_), hb.setCell (Nat.le_refl _) _⟩
        by_cases e : j = m
        · subst e; simp
        · rw [if_neg e]
          by_cases hj : j < m
          · rw [if_pos hj, if_pos (by omega)]
          · rw [if_neg hj, if_neg (by omega)]
    · have hsz := hb.size
      have h0 : Srch w (wr.alloc (.cells #[.int .i64 (v : Int)] 3)) n v L T (fun _ => -1) (fun _ => 0) (fun _ => v) 0 1 (.slice (some ⟨wr.heap.size, 0, none⟩) 1 1) :=
        ⟨bfs_start hv (fun _ _ => by decide), fun _ _ _ => Nat.zero_le _, (hrow.congr (fun j hj => if_pos (by omega))).alloc _, OwnSl.one _ _ _ _ (by have := hrow.lt; omega) rfl, hb.alloc hsz _⟩
      go_wp2
      go_loopg [7] n (fun k q wr => ∃ F d o h r, h + k = n ∧ Srch w wr n v L T F d o h r q)
      case atStart => exact ⟨_, _, _, 0, 1, by omega, h0⟩
      case round =>
        obtain ⟨F, d, o, h, r, hk, hS⟩ := hrel
        clear h0 hrow hb
        cases r with
        | zero =>
          obtain ⟨k', q', hq⟩ := HC.out
          exact (bfs_dry hS.b (Nat.le_refl _) k' q' hq).elim
        | succ r =>
          obtain ⟨g, off, cap, rfl, hhead, hown⟩ := own_head hS.own
          have hin : BfsIn n v L T F d o (h + 1 + r) h 0 := by
            have := bfs_enter hS.b hS.s (by omega)
            rwa [show h + (r + 1) = h + 1 + r by omega] at this
          have hrow := hS.row
          have hb := hS.bel
          have hul := hin.b.lt h hin.hlt
          have hcl := hin.b.cle
          clear hS
          obtain ⟨u, hu⟩ : ∃ u, o h = u := ⟨_, rfl⟩
          have hhead' : wr.cell? ⟨g, off, none⟩ = some (.int .i64 (u : Int)) := by rw [hhead, ← hu]; rfl
          rw [hu] at hul
          obtain ⟨b, offr, a', c', rfl, hcr, hrr⟩ := HR.out u hul
          have hp1 : wr.cell? ⟨pb, po + 1, none⟩ = some (.slice (some ⟨b, offr, none⟩) n c) := (hb.cell (p := ⟨pb, po + 1, none⟩) (World.block_lt_of_cell? _ _ hg1)).trans hg1
          have hcu : wr.cell? ⟨b, offr + u, none⟩ = some (.slice a' (L u) c') := (hb.cell (p := ⟨b, offr + u, none⟩) (World.block_lt_of_cell? _ _ hcr)).trans hcr
          have hLu := HL.out u hul
          have hS0 : ∀ q, OwnSl (w.heap.size + 1) wr q r (fun i => (o (h + (i + 1)) : Int)) → SrchIn w wr n v L T F d o h r 0 q := fun q hq => ⟨hin, hrow, hq.congr (fun i _ => by rw [show h + (i + 1) = h + 1 + i by omega]), hb⟩
          have HU := hide hu
          have HS0 := hide hS0
          have HRR := hide hrr
          clear hhead hu hin hcr hS0 hrr hrow
          rcases Nat.eq_zero_or_pos cap with hcap | hcap
          · subst hcap
            rw [if_pos rfl] at hown
            have hst := HS0.out _ hown
            clear hown HS0
            go_wp2
            go_loopg [7, 44] (L u) (fun k q jj wq => ∃ F d o r j, j + k = L u ∧ jj = .int .i64 (j : Nat) ∧ o h = u ∧ SrchIn w wq n v L T F d o h r j q)
            case atStart => exact ⟨F, d, o, r, 0, by omega, rfl, HU.out, hst⟩
            case round =>
              clear hst hhead' hp1 hcu HU hcl
              obtain ⟨F, d, o, r, j, hj, rfl, hu, hS⟩ := hrel
              have HU := hide hu
              clear hu
              by_cases hlt : j < L u
              · obtain ⟨b2, off2, rfl, hc2⟩ := HRR.out j hlt
                have hb := hS.bel
                have hsz := hb.size
                have hcl := hS.b.b.cle
                have hcy : wr.cell? ⟨b2, off2 + j, none⟩ = some (.int .i64 (T u j : Int)) := (hb.cell (p := ⟨b2, off2 + j, none⟩) (World.block_lt_of_cell? _ _ hc2)).trans hc2
                obtain ⟨y, hy⟩ : ∃ y, T u j = y := ⟨_, rfl⟩
                have hyn := HT.out u hul j hlt
                rw [hy] at hcy hyn
                have HY := hide hy
                clear hy hc2
                by_cases hyv : y = v
                · have hyv' : ((y : Int) == (v : Int)) = true := by simp [hyv]
                  obtain ⟨k, ch, hkn, hch0, hch, hcl2, hmin⟩ := bfs_found hS.b (by rw [HU.out]; exact hlt) (by rw [HU.out]; exact HY.out.trans hyv)
                  have hcc := closedCycle_any pb po ai (some ⟨w.heap.size, 0, none⟩) ci n n v k F I ch wr hn hkn hv ((hb.cell (p := ⟨pb, po, none⟩) (World.block_lt_of_cell? _ _ hg0)).trans hg0) (HI.out.below hb) (intsFrom_row hS.row).at hch
                  rw [hch0, HU.out] at hcc
                  have HCC := hide hcc
                  clear hcc hyv
                  go_wp2_with fail
                  refine HCC.out.mono ?_
                  intro e w1 hnew
                  have hfin := foundCyc_mk (w := w) hb hnew hcl2 hmin
                  obtain ⟨k2, q2, m1, m2, a2, c2, rfl, m3, m4⟩ := hfin
                  go_wp2
                  go_ret
                  exact ⟨k2, q2, m1, m2, a2, c2, rfl, m3, m4⟩
                · have hyv' : ((y : Int) == (v : Int)) = false := by simp; omega
                  have hcF := hS.row.cell hyn
                  have hfF := hS.row.frozen y
                  by_cases hF : F y < 0
                  · have hown := hS.own.setBelow (p := ⟨w.heap.size, y, none⟩) (by show w.heap.size < _; omega) (.int .i64 (u : Int))
                    have HS := hide hS
                    have hB1 : w.heap.size + 1 ≤ wr.heap.size := hS.row.lt
                    clear hS
                    go_wp2_with (at_builtin; refine wpList_push1 (w.heap.size + 1) _ rfl (.tmp 65) (.tmp 67) 22 rfl i0 Try.underlying22 hi0 hz0 hz1 hz2 hown rfl (y : Int) rfl (World.size_setCell _ _ _).symm (fun i => if i = r then (y : Int) else (o (h + 1 + i) : Int)) (fun i hi => if_neg (by omega)) (if_pos rfl) (by omega) (by simp; omega) ?_)
                    intro v' w' hown' hb'
                    have R := srch_push HS.out HU.out HY.out hlt hyn hyv hF hb' hown'
                    go_wp2
                    go_roundg (gk - 1)
                    case measure => omega
                    case rel =>
                      refine ⟨_, _, _, r + 1, j + 1, by omega, by go_num, ?_, R⟩
                      show (if h = h + 1 + r then T (o h) j else o h) = u
                      rw [if_neg (by omega)]
                      exact HU.out
                  · have R := srch_skip hS HU.out HY.out hyn hyv hF
                    go_wp2
                    go_roundg (gk - 1)
                    case measure => omega
                    case rel => exact ⟨_, _, _, r, j + 1, by omega, by go_num, HU.out, R⟩
              · obtain ⟨lb1, lb2⟩ := bfs_leave hS.b (by rw [HU.out]; omega)
                have hcl := lb1.cle
                go_wp2
                go_roundg (n - (h + 1))
                case measure => omega
                case rel => exact ⟨F, d, o, h + 1, r, by omega, lb1, lb2, hS.row, hS.own, hS.bel⟩
          · rw [if_neg (by omega)] at hown
            have hst := HS0.out _ hown
            clear hown HS0
            go_wp2
            go_loopg [7, 44] (L u) (fun k q jj wq => ∃ F d o r j, j + k = L u ∧ jj = .int .i64 (j : Nat) ∧ o h = u ∧ SrchIn w wq n v L T F d o h r j q)
            case atStart => exact ⟨F, d, o, r, 0, by omega, rfl, HU.out, hst⟩
            case round =>
              clear hst hhead' hp1 hcu HU hcl
              obtain ⟨F, d, o, r, j, hj, rfl, hu, hS⟩ := hrel
              have HU := hide hu
              clear hu
              by_cases hlt : j < L u
              · obtain ⟨b2, off2, rfl, hc2⟩ := HRR.out j hlt
                have hb := hS.bel
                have hsz := hb.size
                have hcl := hS.b.b.cle
                have hcy : wr.cell? ⟨b2, off2 + j, none⟩ = some (.int .i64 (T u j : Int)) := (hb.cell (p := ⟨b2, off2 + j, none⟩) (World.block_lt_of_cell? _ _ hc2)).trans hc2
                obtain ⟨y, hy⟩ : ∃ y, T u j = y := ⟨_, rfl⟩
                have hyn := HT.out u hul j hlt
                rw [hy] at hcy hyn
                have HY := hide hy
                clear hy hc2
                by_cases hyv : y = v
                · have hyv' : ((y : Int) == (v : Int)) = true := by simp [hyv]
                  obtain ⟨k, ch, hkn, hch0, hch, hcl2, hmin⟩ := bfs_found hS.b (by rw [HU.out]; exact hlt) (by rw [HU.out]; exact HY.out.trans hyv)
                  have hcc := closedCycle_any pb po ai (some ⟨w.heap.size, 0, none⟩) ci n n v k F I ch wr hn hkn hv ((hb.cell (p := ⟨pb, po, none⟩) (World.block_lt_of_cell? _ _ hg0)).trans hg0) (HI.out.below hb) (intsFrom_row hS.row).at hch
                  rw [hch0, HU.out] at hcc
                  have HCC := hide hcc
                  clear hcc hyv
                  go_wp2_with fail
                  refine HCC.out.mono ?_
                  intro e w1 hnew
                  have hfin := foundCyc_mk (w := w) hb hnew hcl2 hmin
                  obtain ⟨k2, q2, m1, m2, a2, c2, rfl, m3, m4⟩ := hfin
                  go_wp2
                  go_ret
                  exact ⟨k2, q2, m1, m2, a2, c2, rfl, m3, m4⟩
                · have hyv' : ((y : Int) == (v : Int)) = false := by simp; omega
                  have hcF := hS.row.cell hyn
                  have hfF := hS.row.frozen y
                  by_cases hF : F y < 0
                  · have hown := hS.own.setBelow (p := ⟨w.heap.size, y, none⟩) (by show w.heap.size < _; omega) (.int .i64 (u : Int))
                    have HS := hide hS
                    have hB1 : w.heap.size + 1 ≤ wr.heap.size := hS.row.lt
                    clear hS
                    go_wp2_with (at_builtin; refine wpList_push1 (w.heap.size + 1) _ rfl (.tmp 65) (.tmp 67) 22 rfl i0 Try.underlying22 hi0 hz0 hz1 hz2 hown rfl (y : Int) rfl (World.size_setCell _ _ _).symm (fun i => if i = r then (y : Int) else (o (h + 1 + i) : Int)) (fun i hi => if_neg (by omega)) (if_pos rfl) (by omega) (by simp; omega) ?_)
                    intro v' w' hown' hb'
                    have R := srch_push HS.out HU.out HY.out hlt hyn hyv hF hb' hown'
                    go_wp2
                    go_roundg (gk - 1)
                    case measure => omega
                    case rel =>
                      refine ⟨_, _, _, r + 1, j + 1, by omega, by go_num, ?_, R⟩
                      show (if h = h + 1 + r then T (o h) j else o h) = u
                      rw [if_neg (by omega)]
                      exact HU.out
                  · have R := srch_skip hS HU.out HY.out hyn hyv hF
                    go_wp2
                    go_roundg (gk - 1)
                    case measure => omega
                    case rel => exact ⟨_, _, _, r, j + 1, by omega, by go_num, HU.out, R⟩
              · obtain ⟨lb1, lb2⟩ := bfs_leave hS.b (by rw [HU.out]; omega)
                have hcl := lb1.cle
                go_wp2
                go_roundg (n - (h + 1))
                case measure => omega
                case rel => exact ⟨F, d, o, h + 1, r, by omega, lb1, lb2, hS.row, hS.own, hS.bel⟩

set_option maxHeartbeats 1000000 in
theorem zzShortest_any (ai a : Option Addr) (ci c n v : Nat) (L : Nat → Nat) (T : Nat → Nat → Nat) (I : Nat → Int) (w : World) (hn : n ≤ 1048576) (hv : v < n) (hL : ∀ u, u < n → L u ≤ 1048576)
    (hi : IntsAt w ai n I) (hr : RowsAt w a n L (fun u j => (T u j : Int))) (hT : ∀ u, u < n → ∀ j, j < L u → T u j < n) (hcyc : ∃ k q, Closed L T v k q) :
    Calls Try.prog 25 #[.slice ai n ci, .slice a n c, .int .i64 v] w fun e w' => FoundCyc w v L T I e w' := by
  have hb : Below w.heap.size w (w.alloc (.cells #[.slice ai n ci, .slice a n c] 40)) := (Below.refl _ _).alloc (Nat.le_refl _) _
  have hcc := shortestCycle_any w.heap.size 0 ai a ci c n v L T I (w.alloc (.cells #[.slice ai n ci, .slice a n c] 40)) hn hv hL (by simp) (by simp) (hi.below hb) (hr.below hb) hT hcyc
  have HCC := hide hcc
  have HB := hide hb
  clear hcc hb hi hr hT hcyc hL
  go_enter Try.func25, Try.ntmps25
  go_wp2_with fail
  refine HCC.out.mono ?_
  rintro e w1 ⟨k, q, h1, h2, a', c', rfl, h3, h4⟩
  go_wp2
  go_ret
  have hs := HB.out.size
  exact ⟨k, q, h1, h2, a', c', rfl, h3.mono hs, HB.out.trans (h4.mono hs)⟩

end Go.Proofs.Qxb6600485a
