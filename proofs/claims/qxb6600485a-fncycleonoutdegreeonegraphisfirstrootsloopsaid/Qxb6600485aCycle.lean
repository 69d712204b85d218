/-
  Seat b6600485a: (*graph).cycle (27) on graphs of out-degree at most one, ZZCycle (15).
-/
import Derived.Test.Qxb6600485aPairs
import Derived.Test.Qxb6600485aRoot
import Derived.Test.Qxb6600485aShort
namespace Go.Proofs.Qxb6600485a
open Go.RowKit

theorem Try.info5 : (Try.prog.info? 5).map (fun i => (i.zero, i.size, i.bytes)) = some (some (.int .u8 0), 1, 1) := by kernel_rfl

/-- What cycle has done: nil, and every walk dies; or a shortest closed walk through the node that the first root's walk repeats. -/
def CycleGot (w : World) (n : Nat) (L : Nat → Nat) (T : Nat → Nat → Nat) (I : Nat → Int) (e : Ending) (w' : World) : Prop :=
  (e = .returned (.slice none 0 0) ∧ Below w.heap.size w w' ∧ ∀ r, r < n → Dies L T r) ∨
  ∃ r p s, r < n ∧ (∀ r', r' < r → Dies L T r') ∧ Rep L T r p s ∧ FoundCyc w (it T r p) L T I e w'

/-- The search stands with m nodes of root r's walk on its path. -/
structure Dfs (w wr : World) (n r m : Nat) (L : Nat → Nat) (T : Nat → Nat → Nat) (S : Nat → Int) (fo : Nat → Int) (path : Value) : Prop where
  st : wr.rowIs w.heap.size 5 n (fun j => .int .u8 (S j))
  own : OwnPr (w.heap.size + 1) wr path m (fun i => (it T r i : Int)) fo
  bel : Below w.heap.size w wr
  opn : ∀ i, i < m → S (it T r i) = 1
  rest : ∀ x, x < n → (∀ i, i < m → it T r i ≠ x) → S x = 0 ∨ (S x = 2 ∧ Dies L T x)
  inj : ∀ i j, i < m → j < m → it T r i = it T r j → i = j
  posL : ∀ i, i + 1 < m → 0 < L (it T r i)
  low : ∀ i, i + 1 < m → fo i = (L (it T r i) : Int)
  dies : ∀ r', r' < r → Dies L T r'

/-- At the head of the loop over the roots. -/
structure CyOut (w wr : World) (n r : Nat) (L : Nat → Nat) (T : Nat → Nat → Nat) (S : Nat → Int) (m : Nat) (A F : Nat → Int) (path : Value) : Prop where
  st : wr.rowIs w.heap.size 5 n (fun j => .int .u8 (S j))
  own : OwnPr (w.heap.size + 1) wr path m A F
  bel : Below w.heap.size w wr
  rest : ∀ x, x < n → S x = 0 ∨ (S x = 2 ∧ Dies L T x)
  dies : ∀ r', r' < r → Dies L T r'

section
variable {w wr w2 : World} {n r m k : Nat} {L : Nat → Nat} {T : Nat → Nat → Nat} {S : Nat → Int} {fo : Nat → Int} {path : Value}

theorem dfs_start {A F : Nat → Int} {path' : Value} (h : CyOut w wr n r L T S m A F path) (hb : Below (w.heap.size + 1) (wr.setCell ⟨w.heap.size, r, none⟩ (.int .u8 1)) w2) (ho : OwnPr (w.heap.size + 1) w2 path' 1 (fun i => (it T r i : Int)) (fun _ => 0)) :
    Dfs w w2 n r 1 L T (fun x => if x = r then 1 else S x) (fun _ => 0) path' := by
  refine ⟨((h.st.set r _).congr (fun j _ => ?_)).of_block (hb.block _ (by omega)), ho, (h.bel.setCell (Nat.le_refl _) _).trans (hb.mono (by omega)), fun i hi => ?_, fun x hx hno => ?_, fun i j hi hj _ => by omega, fun i hi => by omega, fun i hi => by omega, h.dies⟩
  · by_cases e : j = r
    · rw [if_pos e, if_pos e]
    · rw [if_neg e, if_neg e]
  · obtain rfl : i = 0 := by omega
    exact if_pos rfl
  · have : x ≠ r := fun e => hno 0 (by omega) e.symm
    show (if x = r then 1 else S x) = 0 ∨ ((if x = r then 1 else S x) = 2 ∧ _)
    rw [if_neg this]
    exact h.rest x hx

theorem Dfs.drewN (h : Dfs w wr n r m L T S fo path) (q : Nat) : Dfs w (wr.drewN q) n r m L T S fo path :=
  ⟨h.st.of_block rfl, h.own.drewN q, below_drewN h.bel q, h.opn, h.rest, h.inj, h.posL, h.low, h.dies⟩

/-- The top has been done with: it goes. -/
theorem dfs_pop {ao : Option Addr} {cap x : Nat} (h : Dfs w wr n r (k + 1) L T S fo (.slice ao (k + 1) cap)) (hx : it T r k = x) (hd : Dies L T r) :
    Dfs w (wr.setCell ⟨w.heap.size, x, none⟩ (.int .u8 2)) n r k L T (fun y => if y = x then 2 else S y) fo (.slice ao k cap) := by
  subst hx
  have hpk : ∀ i, i < k → 0 < L (it T r i) := fun i hi => h.posL i (by omega)
  refine ⟨(h.st.set _ _).congr (fun j _ => ?_), (h.own.setBelow (by show w.heap.size < _; omega) _).cut (by omega), h.bel.setCell (Nat.le_refl _) _, fun i hi => ?_, fun y hy hno => ?_, fun i j hi hj e => h.inj i j (by omega) (by omega) e, fun i hi => h.posL i (by omega), fun i hi => h.low i (by omega), h.dies⟩
  · by_cases e : j = it T r k
    · rw [if_pos e, if_pos e]
    · rw [if_neg e, if_neg e]
  · show (if it T r i = it T r k then 2 else S (it T r i)) = 1
    rw [if_neg (fun e => by have := h.inj i k (by omega) (by omega) e; omega)]
    exact h.opn i (by omega)
  · show (if y = it T r k then 2 else S y) = 0 ∨ ((if y = it T r k then 2 else S y) = 2 ∧ _)
    by_cases e : y = it T r k
    · rw [if_pos e, e]
      exact .inr ⟨rfl, dies_later hd k hpk⟩
    · rw [if_neg e]
      exact h.rest y hy (fun i hi e2 => by
        by_cases ei : i = k
        · subst ei; exact e e2.symm
        · exact hno i (by omega) e2)

/-- The top's edge is followed. -/
theorem dfs_follow {g cap : Nat} {v : Int} (h : Dfs w wr n r (k + 1) L T S fo (.slice (some ⟨g, 0, none⟩) (k + 1) cap)) (hg : w.heap.size + 1 ≤ g)
    (ho : OwnPr (w.heap.size + 1) (wr.setCell ⟨g, k * 2 + 1, none⟩ (.int .i64 v)) (.slice (some ⟨g, 0, none⟩) (k + 1) cap) (k + 1) (fun i => (it T r i : Int)) (fun i => if i = k then v else fo i)) (q : Nat) :
    Dfs w ((wr.drewN q).setCell ⟨g, k * 2 + 1, none⟩ (.int .i64 v)) n r (k + 1) L T S (fun i => if i = k then v else fo i) (.slice (some ⟨g, 0, none⟩) (k + 1) cap) := by
  refine ⟨((h.st.of_block (w' := wr.drewN q) rfl).setOther (by show w.heap.size ≠ g; omega) _), ho.carry (fun _ _ _ => rfl), (below_drewN h.bel q).setCell (by show w.heap.size ≤ g; omega) _, h.opn, h.rest, h.inj, h.posL, fun i hi => ?_, h.dies⟩
  show (if i = k then v else fo i) = _
  rw [if_neg (by omega)]
  exact h.low i hi

/-- One node more. -/
theorem dfs_push {y : Nat} {path' : Value} (h : Dfs w wr n r (k + 1) L T S fo path) (hy : it T r (k + 1) = y) (hL : 0 < L (it T r k)) (hfo : fo k = (L (it T r k) : Int)) (hS : S y = 0)
    (hb : Below (w.heap.size + 1) (wr.setCell ⟨w.heap.size, y, none⟩ (.int .u8 1)) w2) (ho : OwnPr (w.heap.size + 1) w2 path' (k + 1 + 1) (fun i => (it T r i : Int)) (fun i => if i = k + 1 then 0 else fo i)) :
    Dfs w w2 n r (k + 1 + 1) L T (fun x => if x = y then 1 else S x) (fun i => if i = k + 1 then 0 else fo i) path' := by
  subst hy
  have hnew : ∀ i, i < k + 1 → it T r i ≠ it T r (k + 1) := fun i hi e => by
    have := h.opn i hi
    rw [e, hS] at this
    omega
  refine ⟨((h.st.set _ _).congr (fun j _ => ?_)).of_block (hb.block _ (by omega)), ho, (h.bel.setCell (Nat.le_refl _) _).trans (hb.mono (by omega)), fun i hi => ?_, fun x hx hno => ?_, fun i j hi hj e => ?_, fun i hi => ?_, fun i hi => ?_, h.dies⟩
  · by_cases e : j = it T r (k + 1)
    · rw [if_pos e, if_pos e]
    · rw [if_neg e, if_neg e]
  · show (if it T r i = it T r (k + 1) then 1 else S (it T r i)) = 1
    by_cases e : i = k + 1
    · subst e; exact if_pos rfl
    · rw [if_neg (hnew i (by omega))]; exact h.opn i (by omega)
  · have hne : x ≠ it T r (k + 1) := fun e => hno (k + 1) (by omega) e.symm
    show (if x = it T r (k + 1) then 1 else S x) = 0 ∨ ((if x = it T r (k + 1) then 1 else S x) = 2 ∧ _)
    rw [if_neg hne]
    exact h.rest x hx (fun i hi => hno i (by omega))
  · by_cases ei : i = k + 1
    · by_cases ej : j = k + 1
      · omega
      · subst ei; exact absurd e.symm (hnew j (by omega))
    · by_cases ej : j = k + 1
      · subst ej; exact absurd e (hnew i (by omega))
      · exact h.inj i j (by omega) (by omega) e
  · by_cases ei : i = k
    · subst ei; exact hL
    · exact h.posL i (by omega)
  · show (if i = k + 1 then 0 else fo i) = _
    rw [if_neg (by omega)]
    by_cases ei : i = k
    · subst ei; exact hfo
    · exact h.low i (by omega)

theorem dfs_rep {y : Nat} (h : Dfs w wr n r (k + 1) L T S fo path) (hy : it T r (k + 1) = y) (hyn : y < n) (hL : 0 < L (it T r k)) (hS : S y = 1) : ∃ p, it T r p = y ∧ Rep L T r p (k + 1) := by
  subst hy
  have hx : ∃ p, p < k + 1 ∧ it T r p = it T r (k + 1) := by
    refine Classical.byContradiction fun hno => ?_
    rcases h.rest _ hyn (fun i hi e => hno ⟨i, hi, e⟩) with e | ⟨e, _⟩ <;> omega
  obtain ⟨p, hp, e⟩ := hx
  refine ⟨p, e, hp, e, fun i hi => ?_, h.inj⟩
  by_cases ei : i = k
  · subst ei; exact hL
  · exact h.posL i (by omega)

theorem dfs_done {y : Nat} (h : Dfs w wr n r (k + 1) L T S fo path) (hy : it T r (k + 1) = y) (hyn : y < n) (hL : 0 < L (it T r k)) (hS1 : S y ≠ 1) (hS0 : S y ≠ 0) : S y = 2 ∧ Dies L T r := by
  subst hy
  rcases h.rest _ hyn (fun i hi e => hS1 (by rw [← e]; exact h.opn i hi)) with e | ⟨e, hd⟩
  · exact absurd e hS0
  · refine ⟨e, dies_of_steps (k + 1) (fun i hi => ?_) hd⟩
    by_cases ei : i = k
    · subst ei; exact hL
    · exact h.posL i (by omega)

theorem foundCyc_below {v : Nat} {I : Nat → Int} {W w' : World} {e : Ending} (hb : Below w.heap.size w W) (h : FoundCyc W v L T I e w') : FoundCyc w v L T I e w' := by
  obtain ⟨k3, q3, m1, m2, a3, c3, rfl, m3, m4⟩ := h
  exact ⟨k3, q3, m1, m2, a3, c3, rfl, m3.mono hb.size, hb.trans (m4.mono hb.size)⟩

theorem dfs_node (h : Dfs w wr n r m L T S fo path) (hT : ∀ u, u < n → ∀ j, j < L u → T u j < n) (hr : r < n) : ∀ i, i < m → it T r i < n :=
  fun i hi => it_lt hT hr i (fun j hj => h.posL j (by omega))

theorem dfs_le (h : Dfs w wr n r m L T S fo path) (hT : ∀ u, u < n → ∀ j, j < L u → T u j < n) (hr : r < n) : m ≤ n := pigeon n m (it T r) (dfs_node h hT hr) h.inj

/-- What the inner loop's head says of the number of rounds to come. -/
def Phase (n r m : Nat) (L : Nat → Nat) (T : Nat → Nat → Nat) (fo : Nat → Int) (gk : Nat) : Prop :=
  (∃ k, m = k + 1 ∧ fo k = 0 ∧ gk + k = 3 * n + 2) ∨ ((∀ k, m = k + 1 → fo k = (L (it T r k) : Int)) ∧ Dies L T r ∧ gk = m)

theorem phase_pop {gk : Nat} (h : Dfs w wr n r (k + 1) L T S fo path) (hp : Phase n r (k + 1) L T fo gk) (hfo : fo k = (L (it T r k) : Int)) (hk : k < n) : Dies L T r ∧ k < gk := by
  rcases hp with ⟨k', e, h0, hg⟩ | ⟨_, hd, hg⟩
  · obtain rfl : k = k' := by omega
    exact ⟨⟨k, by omega, fun i hi => h.posL i (by omega)⟩, by omega⟩
  · exact ⟨hd, by omega⟩

theorem phase_go {gk : Nat} (hp : Phase n r (k + 1) L T fo gk) (hfo : ¬ fo k = (L (it T r k) : Int)) : fo k = 0 ∧ 0 < L (it T r k) ∧ gk + k = 3 * n + 2 := by
  rcases hp with ⟨k', e, h0, hg⟩ | ⟨h1, _, _⟩
  · obtain rfl : k = k' := by omega
    exact ⟨h0, by omega, hg⟩
  · exact absurd (h1 k rfl) hfo

theorem dfs_end (h : Dfs w wr n r 0 L T S fo path) (hd : Dies L T r) : CyOut w wr n (r + 1) L T S 0 (fun i => (it T r i : Int)) fo path :=
  ⟨h.st, h.own, h.bel, fun x hx => h.rest x hx (fun _ hi => absurd hi (Nat.not_lt_zero _)), all_succ h.dies hd⟩

end

set_option maxHeartbeats 2000000 in
set_option maxRecDepth 100000 in
theorem cycle_any (pb po : Nat) (ai a : Option Addr) (ci c n : Nat) (L : Nat → Nat) (T : Nat → Nat → Nat) (I : Nat → Int) (w : World) (hn : n ≤ 1048576) (hL : ∀ u, u < n → L u ≤ 1)
    (hg0 : w.cell? ⟨pb, po, none⟩ = some (.slice ai n ci)) (hg1 : w.cell? ⟨pb, po + 1, none⟩ = some (.slice a n c)) (hi : IntsAt w ai n I) (hr : RowsAt w a n L (fun u j => (T u j : Int))) (hT : ∀ u, u < n → ∀ j, j < L u → T u j < n) :
    Calls Try.prog 27 #[.pointer (some ⟨pb, po, none⟩)] w fun e w' => CycleGot w n L T I e w' := by
  obtain ⟨i0, hi0, hz0, hz1, hz2⟩ := info_parts Try.info47
  have hmk := run_make_row' (P := Try.prog) 44 5 (.int .u8 0) 1 Try.underlying44 Try.info5 rfl .i64 .i64 n (by omega) (by omega)
  have HI := hide hi
  have HR := hide hr
  have HT := hide hT
  have HL := hide hL
  have hg0' : ∀ o, (w.alloc o).cell? ⟨pb, po, none⟩ = some (.slice ai n ci) := fun o => (((Below.refl w.heap.size w).alloc (Nat.le_refl _) o).cell (p := ⟨pb, po, none⟩) (World.block_lt_of_cell? _ _ hg0)).trans hg0
  clear hi hr hT hL
  go_enter Try.func27, Try.ntmps27
  go_wp2
  go_loopg [4, 19] n (fun k path ri wr => ∃ (r m : Nat) (S A F : Nat → Int), r + k = n ∧ ri = .int .i64 r ∧ CyOut w wr n r L T S m A F path)
  case atStart => exact ⟨0, 0, fun _ => 0, fun _ => 0, fun _ => 0, by omega, rfl, World.rowIs_made w _ n 5, OwnPr.nil _ _ _ _, (Below.refl _ _).alloc (Nat.le_refl _) _, fun _ _ => .inl rfl, fun _ hr => absurd hr (Nat.not_lt_zero _)⟩
  case round =>
    clear hg0'
    obtain ⟨r, m, S, A, F, hk, rfl, hO⟩ := hrel
    by_cases hlt : r < n
    · have cS := hO.st.cell hlt
      have fS := hO.st.frozen r
      have hB1 : w.heap.size + 1 ≤ wr.heap.size := hO.st.lt
      rcases hO.rest r hlt with hS | ⟨hS, hd⟩
      · rw [hS] at cS
        obtain ⟨ao, g, cap, rfl, q1, q2, q3, q4, q5⟩ := hO.own
        have hown : OwnPr (w.heap.size + 1) (wr.setCell ⟨w.heap.size, r, none⟩ (.int .u8 1)) (.slice ao 0 cap) 0 A F := (OwnPr.cut (n := m) ⟨ao, g, cap, rfl, q1, q2, q3, q4, q5⟩ (Nat.zero_le _)).setBelow (by show w.heap.size < _; omega) _
        have HO := hide hO
        clear hO q2 q3 q4 q5 hS
        go_wp2_with (at_builtin; refine wpList_pushPr (w.heap.size + 1) _ rfl (.tmp 31) (.tmp 34) 45 rfl 47 i0 Try.underlying45 hi0 hz0 hz1 hz2 hown rfl (r : Int) 0 rfl (by simp) (fun i => (it T r i : Int)) (fun _ => 0) (fun j hj => absurd hj (Nat.not_lt_zero _)) (fun j hj => absurd hj (Nat.not_lt_zero _)) rfl rfl (by omega) (by simp; omega) ?_)
        intro path' w2 hown' hb'
        have hD := dfs_start HO.out hb' hown'
        clear hown hb' hown' cS fS
        go_wp2
        go_loopg [4] (3 * n + 2) (fun gk path wr => ∃ m S fo, Dfs w wr n r m L T S fo path ∧ Phase n r m L T fo gk)
        case atStart => exact ⟨1, _, _, hD, .inl ⟨0, rfl, rfl, by omega⟩⟩
        case round =>
          clear hD HO
          obtain ⟨m, S, fo, hD, hP⟩ := hrel
          have HP := hide hP
          clear hP
          have hb := hD.bel
          cases m with
          | zero =>
            obtain ⟨ao, g, cap, rfl, q1, q2, q3, q4, q5⟩ := hD.own
            rcases HP.out with ⟨k', e, _, _⟩ | ⟨_, hd, _⟩
            · omega
            have R := dfs_end hD hd
            clear q2 q3 q4 q5
            go_wp2
            go_roundg (n - (r + 1))
            case measure => omega
            case rel => exact ⟨r + 1, _, _, _, _, by omega, by go_num, R⟩
          | succ k =>
            obtain ⟨g, cap, rfl, hg, hkc, hgl, cA, cF, fF, hset⟩ := hD.own.last
            have hkn : k < n := dfs_le hD HT.out hlt
            obtain ⟨x, hx⟩ : ∃ x, it T r k = x := ⟨_, rfl⟩
            have hxn : x < n := by rw [← hx]; exact dfs_node hD HT.out hlt k (by omega)
            rw [hx] at cA
            have HX := hide hx
            have HSet := hide hset
            have HD := hide hD
            obtain ⟨b, off, a', c', rfl, hcr, hrr⟩ := HR.out x hxn
            have hp1 : wr.cell? ⟨pb, po + 1, none⟩ = some (.slice (some ⟨b, off, none⟩) n c) := (hb.cell (p := ⟨pb, po + 1, none⟩) (World.block_lt_of_cell? _ _ hg1)).trans hg1
            have hcu : wr.cell? ⟨b, off + x, none⟩ = some (.slice a' (L x) c') := (hb.cell (p := ⟨b, off + x, none⟩) (World.block_lt_of_cell? _ _ hcr)).trans hcr
            have cS := hD.st.cell hxn
            have fS := hD.st.frozen x
            have HRR := hide hrr
            have hxi : (x : Int) < (n : Int) := by omega
            have hki : (k : Int) < ((k : Int) + 1) := by omega
            clear hx hset hD hcr hrr
            by_cases hfo : fo k = (L x : Int)
            · have hfo' : (fo k == (L x : Int)) = true := by simp [hfo]
              obtain ⟨hd, hkg⟩ := phase_pop HD.out HP.out (by rw [HX.out]; exact hfo) hkn
              clear hfo
              go_wp2
              go_quiet (fail)
              go_wp2
              go_roundg k
              case measure => omega
              case rel => exact ⟨k, _, fo, (dfs_pop HD.out HX.out hd).drewN _, .inr ⟨fun k' e => by have := HD.out.low k' (by omega); exact this, hd, rfl⟩⟩
            · have hfo' : (fo k == (L x : Int)) = false := by simp [hfo]
              obtain ⟨hf0, hLx, hgk⟩ := phase_go HP.out (by rw [HX.out]; exact hfo)
              rw [HX.out] at hLx
              have hL1 := HL.out x hxn
              obtain ⟨b2, off2, rfl, hc2⟩ := HRR.out 0 hLx
              have hcy : wr.cell? ⟨b2, off2, none⟩ = some (.int .i64 (T x 0 : Int)) := (hb.cell (p := ⟨b2, off2, none⟩) (World.block_lt_of_cell? _ _ hc2)).trans hc2
              obtain ⟨y, hy⟩ : ∃ y, T x 0 = y := ⟨_, rfl⟩
              have hyn : y < n := by rw [← hy]; exact HT.out x hxn 0 hLx
              rw [hy] at hcy
              have HY : Hid (it T r (k + 1) = y) := by show T (it T r k) 0 = y; rw [HX.out]; exact hy
              rw [hf0] at cF hfo'
              have hLi : (0 : Int) < (L x : Int) := by omega
              have hyi : (y : Int) < (n : Int) := by omega
              have cSy := HD.out.st.cell hyn
              have fSy := HD.out.st.frozen y
              have hgB : w.heap.size ≠ g := by omega
              have hD1 := fun q => dfs_follow HD.out hg (HSet.out 1) q
              have HD1 := hide hD1
              have hLx1 : L x = 1 := by omega
              have hfk : Hid ((1 : Int) = (L (it T r k) : Int)) := by show (1 : Int) = _; rw [HX.out, hLx1]; rfl
              have hLk : Hid (0 < L (it T r k)) := by show 0 < L (it T r k); rw [HX.out]; exact hLx
              clear hc2 hf0 hfo cS fS hL1 hD1 hLx1 hy
              by_cases hS1 : S y = 1
              · have hS1' : (S y == 1) = true := by simp [hS1]
                obtain ⟨p, hpy, hrep⟩ := dfs_rep HD.out HY.out hyn hLk.out hS1
                have hcl := rep_closed hrep
                rw [hpy] at hcl
                have HC := hide (And.intro hpy (And.intro hrep hcl))
                have HDi := hide HD.out.dies
                clear hpy hrep hcl hS1
                go_wp2
                go_quiet (fail)
                go_wp2
                go_quiet (fail)
                go_wp2_with fail
                refine (shortestCycle_any pb po ai (some ⟨b, off, none⟩) ci c n y L T I _ hn hyn (fun u hu => by have := HL.out u hu; omega) (((HD1.out _).bel.cell (p := ⟨pb, po, none⟩) (World.block_lt_of_cell? _ _ hg0)).trans hg0) (((HD1.out _).bel.cell (p := ⟨pb, po + 1, none⟩) (World.block_lt_of_cell? _ _ hg1)).trans hg1) (HI.out.below (HD1.out _).bel) (HR.out.below (HD1.out _).bel) HT.out ⟨_, _, HC.out.2.2⟩).mono ?_
                intro e w3 hF
                obtain ⟨k3, q3, m1, m2, a3, c3, rfl, m3, m4⟩ := foundCyc_below (HD1.out _).bel hF
                clear hF
                go_wp2
                go_ret
                refine .inr ⟨r, p, k + 1, hlt, HDi.out, HC.out.2.1, ?_⟩
                rw [HC.out.1]
                exact ⟨k3, q3, m1, m2, a3, c3, rfl, m3, m4⟩
              · have hS1' : (S y == 1) = false := by simp [hS1]
                by_cases hS0 : S y = 0
                · have hS0' : (S y == 0) = true := by simp [hS0]
                  have HS0 := hide hS0
                  clear hS0 hS1
                  have hown : ∀ q, OwnPr (w.heap.size + 1) (((wr.drewN q).setCell ⟨g, k * 2 + 1, none⟩ (.int .i64 1)).setCell ⟨w.heap.size, y, none⟩ (.int .u8 1)) (.slice (some ⟨g, 0, none⟩) (k + 1) cap) (k + 1) (fun i => (it T r i : Int)) (fun i => if i = k then 1 else fo i) :=
                    fun q => (HD1.out q).own.setBelow (by show w.heap.size < _; omega) _
                  have HO := hide hown
                  clear hown
                  have hB2 : w.heap.size + 1 ≤ wr.heap.size := HD.out.st.lt
                  go_wp2
                  go_quiet (fail)
                  go_wp2
                  go_quiet (fail)
                  go_wp2_with (at_builtin; refine wpList_pushPr (w.heap.size + 1) _ rfl (.tmp 108) (.tmp 111) 45 rfl 47 i0 Try.underlying45 hi0 hz0 hz1 hz2 (HO.out _) rfl (y : Int) 0 rfl (by simp) (fun i => (it T r i : Int)) (fun i => if i = k + 1 then 0 else if i = k then 1 else fo i) (fun j hj => rfl) (fun j hj => if_neg (by omega)) (by rw [HY.out]) (if_pos rfl) (by omega) (by simp; omega) ?_)
                  intro path2 w4 hown4 hb4
                  have R := dfs_push (HD1.out _) HY.out hLk.out (by show (if k = k then (1 : Int) else fo k) = _; rw [if_pos rfl]; exact hfk.out) HS0.out hb4 hown4
                  go_wp2
                  go_roundg (gk - 1)
                  case measure => omega
                  case rel => exact ⟨k + 1 + 1, _, _, R, .inl ⟨k + 1, rfl, if_pos rfl, by omega⟩⟩
                · have hS0' : (S y == 0) = false := by simp [hS0]
                  obtain ⟨hS2, hd⟩ := dfs_done HD.out HY.out hyn hLk.out hS1 hS0
                  clear hS0 hS1 hS2
                  go_wp2
                  go_quiet (fail)
                  go_wp2
                  go_quiet (fail)
                  go_wp2
                  go_roundg (k + 1)
                  case measure => omega
                  case rel =>
                    refine ⟨k + 1, S, _, HD1.out _, .inr ⟨fun k' e => ?_, hd, rfl⟩⟩
                    obtain rfl : k = k' := by omega
                    show (if k = k then (1 : Int) else fo k) = _
                    rw [if_pos rfl]
                    exact hfk.out
      · rw [hS] at cS
        go_wp2
        go_roundg (gk - 1)
        case measure => omega
        case rel => exact ⟨r + 1, m, S, A, F, by omega, by go_num, hO.st, hO.own, hO.bel, hO.rest, all_succ hO.dies hd⟩
    · go_wp2
      go_ret
      exact .inl ⟨rfl, hO.bel, fun x hx => hO.dies x (by omega)⟩

end Go.Proofs.Qxb6600485a
