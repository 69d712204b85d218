/-
  Seat b6600485a: firstRootLoop (14).
-/
import Derived.Test.Qxb6600485aOwn
import Derived.Test.Qxb6600485aRoot
import Derived.Test.Qxb6600485aClone
namespace Go.Proofs.Qxb6600485a
open Go.RowKit

/-- What firstRootLoop has done: nil, and every walk dies; or the loop of the first root whose walk repeats. -/
def FirstLoop (w : World) (n : Nat) (L : Nat → Nat) (T : Nat → Nat → Nat) (e : Ending) (w' : World) : Prop :=
  Below w.heap.size w w' ∧
  ((e = .returned (.slice none 0 0) ∧ ∀ r, r < n → Dies L T r) ∨
   ∃ r p s A c', r < n ∧ (∀ r', r' < r → Dies L T r') ∧ Rep L T r p s ∧ s ≤ n ∧ e = .returned (.slice (some A) (s - p + 1) c') ∧ IntsAt w' (some A) (s - p + 1) (fun j => (it T r (p + j) : Int)))

/-- At the head of the loop over the roots. -/
structure FrOut (w wr : World) (n r : Nat) (L : Nat → Nat) (T : Nat → Nat → Nat) (M Po : Nat → Int) (wk : Value) (m : Nat) (f : Nat → Int) : Prop where
  mark : wr.rowIs w.heap.size 3 n (fun j => .int .i64 (M j))
  pos : wr.rowIs (w.heap.size + 1) 3 n (fun j => .int .i64 (Po j))
  own : OwnSl (w.heap.size + 2) wr wk m f
  bel : Below w.heap.size w wr
  old : ∀ x, x < n → M x ≤ (r : Int)
  dies : ∀ r', r' < r → Dies L T r'

/-- At the head of the loop over the steps. -/
structure FrIn (w wr : World) (n r s : Nat) (L : Nat → Nat) (T : Nat → Nat → Nat) (M Po : Nat → Int) (wk : Value) : Prop where
  mark : wr.rowIs w.heap.size 3 n (fun j => .int .i64 (M j))
  pos : wr.rowIs (w.heap.size + 1) 3 n (fun j => .int .i64 (Po j))
  own : OwnSl (w.heap.size + 2) wr wk s (fun j => (it T r j : Int))
  bel : Below w.heap.size w wr
  seen : ∀ i, i < s → M (it T r i) = (r : Int) + 1 ∧ Po (it T r i) = (i : Int)
  fresh : ∀ x, x < n → (∀ i, i < s → it T r i ≠ x) → M x ≤ (r : Int)
  posL : ∀ i, i < s → 0 < L (it T r i)
  inj : ∀ i j, i < s → j < s → it T r i = it T r j → i = j

theorem frIn_start {w wr : World} {n r m : Nat} {L : Nat → Nat} {T : Nat → Nat → Nat} {M Po : Nat → Int} {wk wk' : Value} {f : Nat → Int} (h : FrOut w wr n r L T M Po wk m f) (ho : OwnSl (w.heap.size + 2) wr wk' 0 (fun j => (it T r j : Int))) : FrIn w wr n r 0 L T M Po wk' :=
  ⟨h.mark, h.pos, ho, h.bel, fun _ hi => absurd hi (Nat.not_lt_zero _), fun x hx _ => h.old x hx, fun _ hi => absurd hi (Nat.not_lt_zero _), fun _ _ hi => absurd hi (Nat.not_lt_zero _)⟩

/-- 's[:0]'. -/
theorem own_cut0 {base : Nat} {w : World} {v : Value} {n : Nat} {f g : Nat → Int} (h : OwnSl base w v n f) : ∃ ao cap, v = .slice ao n cap ∧ OwnSl base w (.slice ao 0 cap) 0 g ∧ (ao = none → n = 0 ∧ cap = 0) := by
  obtain ⟨ao, b, off, cap, rfl, h1, h2, h3, h4, h5⟩ := h
  refine ⟨ao, cap, rfl, ⟨ao, b, off, cap, rfl, Nat.zero_le _, h2, h3, h4, fun _ hi => absurd hi (Nat.not_lt_zero _)⟩, fun e => ?_⟩
  rcases Nat.eq_zero_or_pos cap with hc | hc
  · exact ⟨by omega, hc⟩
  · have := (h3 hc).1
    rw [e] at this
    cases this

/-- The two stores and the append at a node where the walk has not been. -/
theorem frIn_rows {w wr w2 : World} {n r s x : Nat} {L : Nat → Nat} {T : Nat → Nat → Nat} {M Po : Nat → Int} {wk : Value} (h : FrIn w wr n r s L T M Po wk)
    (hb : Below (w.heap.size + 2) ((wr.setCell ⟨w.heap.size, x, none⟩ (.int .i64 ((r : Int) + 1))).setCell ⟨w.heap.size + 1, x, none⟩ (.int .i64 (s : Int))) w2) :
    w2.rowIs w.heap.size 3 n (fun j => .int .i64 (if j = x then (r : Int) + 1 else M j)) ∧ w2.rowIs (w.heap.size + 1) 3 n (fun j => .int .i64 (if j = x then (s : Int) else Po j)) ∧ Below w.heap.size w w2 := by
  refine ⟨?_, ?_, ?_⟩
  · refine (((h.mark.set x _).setOther (by show w.heap.size ≠ w.heap.size + 1; omega) _).congr (fun j _ => ?_)).of_block (hb.block _ (by omega))
    by_cases e : j = x
    · rw [if_pos e, if_pos e]
    · rw [if_neg e, if_neg e]
  · refine (((h.pos.setOther (by show w.heap.size + 1 ≠ w.heap.size; omega) _).set x _).congr (fun j _ => ?_)).of_block (hb.block _ (by omega))
    by_cases e : j = x
    · rw [if_pos e, if_pos e]
    · rw [if_neg e, if_neg e]
  · exact ((h.bel.setCell (Nat.le_refl _) _).setCell (by show w.heap.size ≤ w.heap.size + 1; omega) _).trans (hb.mono (by omega))

theorem frIn_step {w wr w2 : World} {n r s x : Nat} {L : Nat → Nat} {T : Nat → Nat → Nat} {M Po : Nat → Int} {wk wk' : Value} (h : FrIn w wr n r s L T M Po wk) (hx : it T r s = x) (hnew : ∀ i, i < s → it T r i ≠ x) (hL : 0 < L x)
    (hb : Below (w.heap.size + 2) ((wr.setCell ⟨w.heap.size, x, none⟩ (.int .i64 ((r : Int) + 1))).setCell ⟨w.heap.size + 1, x, none⟩ (.int .i64 (s : Int))) w2)
    (ho : OwnSl (w.heap.size + 2) w2 wk' (s + 1) (fun j => (it T r j : Int))) :
    FrIn w w2 n r (s + 1) L T (fun j => if j = x then (r : Int) + 1 else M j) (fun j => if j = x then (s : Int) else Po j) wk' := by
  obtain ⟨h1, h2, h3⟩ := frIn_rows h hb
  refine ⟨h1, h2, ho, h3, fun i hi => ?_, fun y hy hno => ?_, all_succ h.posL (by rw [hx]; exact hL), fun i j hi hj e => ?_⟩
  · by_cases e : i = s
    · subst e; rw [hx]; simp
    · rw [if_neg (hnew i (by omega)), if_neg (hnew i (by omega))]
      exact h.seen i (by omega)
  · show (if y = x then (r : Int) + 1 else M y) ≤ (r : Int)
    rw [if_neg (fun e => hno s (by omega) (by rw [hx, e]))]
    exact h.fresh y hy (fun i hi => hno i (by omega))
  · by_cases ei : i = s
    · by_cases ej : j = s
      · omega
      · subst ei; rw [hx] at e; exact absurd e.symm (hnew j (by omega))
    · by_cases ej : j = s
      · subst ej; rw [hx] at e; exact absurd e (hnew i (by omega))
      · exact h.inj i j (by omega) (by omega) e

theorem frIn_out {w wr w2 : World} {n r s x m : Nat} {L : Nat → Nat} {T : Nat → Nat → Nat} {M Po : Nat → Int} {wk wk' : Value} {f : Nat → Int} (h : FrIn w wr n r s L T M Po wk) (hx : it T r s = x) (hL : L x = 0) (hd : ∀ r', r' < r → Dies L T r')
    (hb : Below (w.heap.size + 2) ((wr.setCell ⟨w.heap.size, x, none⟩ (.int .i64 ((r : Int) + 1))).setCell ⟨w.heap.size + 1, x, none⟩ (.int .i64 (s : Int))) w2)
    (ho : OwnSl (w.heap.size + 2) w2 wk' m f) :
    FrOut w w2 n (r + 1) L T (fun j => if j = x then (r : Int) + 1 else M j) (fun j => if j = x then (s : Int) else Po j) wk' m f := by
  obtain ⟨h1, h2, h3⟩ := frIn_rows h hb
  refine ⟨h1, h2, ho, h3, fun y hy => ?_, all_succ hd ⟨s, by rw [hx]; exact hL, h.posL⟩⟩
  show (if y = x then (r : Int) + 1 else M y) ≤ ((r + 1 : Nat) : Int)
  by_cases e : y = x
  · rw [if_pos e]; omega
  · rw [if_neg e]
    by_cases hs : ∃ i, i < s ∧ it T r i = y
    · obtain ⟨i, hi, e2⟩ := hs
      have := (h.seen i hi).1
      rw [e2] at this
      omega
    · have := h.fresh y hy (fun i hi e2 => hs ⟨i, hi, e2⟩)
      omega

set_option maxHeartbeats 2000000 in
set_option maxRecDepth 100000 in
theorem firstRootLoop_any (a : Option Addr) (n c : Nat) (L : Nat → Nat) (T : Nat → Nat → Nat) (w : World) (hn : n ≤ 1048576) (h : RowsAt w a n L (fun u j => (T u j : Int))) (hT : ∀ u, u < n → ∀ j, j < L u → T u j < n) :
    Calls Try.prog 14 #[.slice a n c] w fun e w' => FirstLoop w n L T e w' := by
  obtain ⟨i0, hi0, hz0, hz1, hz2⟩ := info_parts Try.info3
  have hmk := run_make_row' (P := Try.prog) 22 3 (.int .i64 0) 8 Try.underlying22 Try.info3 rfl .i64 .i64 n (by omega) (by omega)
  have HR := hide h
  have HT := hide hT
  clear h hT
  go_enter Try.func14, Try.ntmps14
  go_wp2
  go_loopg [6, 7] n (fun k wk ri wr => ∃ (r : Nat) (M Po : Nat → Int) (m : Nat) (f : Nat → Int), r + k = n ∧ ri = .int .i64 r ∧ FrOut w wr n r L T M Po wk m f)
  case atStart =>
    refine ⟨0, fun _ => 0, fun _ => 0, 0, fun _ => 0, by omega, rfl, (World.rowIs_made w _ n 3).alloc _, ?_, OwnSl.nil _ _ _, ((Below.refl _ _).alloc (Nat.le_refl _) _).alloc (by simp) _, fun _ _ => Int.le_refl _, fun _ hr => absurd hr (Nat.not_lt_zero _)⟩
    have := World.rowIs_made (w.alloc (.cells (madeCells #[.int .i64 0] n) 3)) (.int .i64 0) n 3
    simpa using this
  case round =>
    obtain ⟨r, M, Po, m, f, hk, rfl, hO⟩ := hrel
    by_cases hlt : r < n
    · obtain ⟨ao, cap, rfl, hown, hnil⟩ := own_cut0 (g := fun j => (it T r j : Int)) hO.own
      have hS := frIn_start hO hown
      have HD := hide hO.dies
      clear hO hown
      go_wp2
      go_loopg [6, 8, 9] (n + 1) (fun k wk x st wr => ∃ (s : Nat) (M Po : Nat → Int), s + k = n + 1 ∧ st = .int .i64 s ∧ x = .int .i64 (it T r s) ∧ FrIn w wr n r s L T M Po wk)
      case atStart => exact ⟨0, M, Po, by omega, rfl, rfl, hS⟩
      case round =>
        clear hS hnil
        obtain ⟨s, M, Po, hk2, rfl, rfl, hS⟩ := hrel
        have hsn := walk_short HT.out hlt hS.posL hS.inj
        obtain ⟨x, hx⟩ : ∃ x, it T r s = x := ⟨_, rfl⟩
        have hxn : x < n := by rw [← hx]; exact it_lt HT.out hlt s hS.posL
        rw [hx]
        have HX := hide hx
        clear hx
        have hb := hS.bel
        have hsz := hb.size
        obtain ⟨ao2, cap2, rfl, hwalk⟩ := hS.own.at
        have HW := hide hwalk
        clear hwalk
        have cM := hS.mark.cell hxn
        have cP := hS.pos.cell hxn
        have fM := hS.mark.frozen x
        have fP := hS.pos.frozen x
        by_cases hseen : ∃ p, p < s ∧ it T r p = x
        · obtain ⟨p, hps, hpx⟩ := hseen
          obtain ⟨s1, s2⟩ := hS.seen p hps
          rw [hpx] at s1 s2
          rw [s1] at cM
          rw [s2] at cP
          have hrep : Rep L T r p s := ⟨hps, by rw [hpx, HX.out], hS.posL, hS.inj⟩
          have HRep := hide hrep
          clear hS hpx hrep s1 s2 fM fP
          have hmk0 : ∀ w, (Instr.makeSlice 22 (.int .i64 0) (.int .i64 ((s : Int) - (p : Int) + 1))).run Try.prog w = .ok (.slice (some ⟨w.heap.size, 0, none⟩) 0 (s - p + 1)) (w.alloc (.cells (madeCells #[.int .i64 0] (s - p + 1)) 3)) := by
            intro w
            have := run_make (P := Try.prog) w 22 3 i0 (.int .i64 0) Try.underlying22 hi0 hz0 .i64 .i64 0 ((s : Int) - (p : Int) + 1) (Int.le_refl _) (by omega) (by rw [hz2]; omega) (by omega)
            rw [show ((s : Int) - (p : Int) + 1).toNat = s - p + 1 by omega, hz1, Nat.mul_one] at this
            exact this
          have cP2 : ∀ o, (wr.alloc o).cell? ⟨w.heap.size + 1, x, none⟩ = some (.int .i64 (p : Int)) := fun o => (((Below.refl wr.heap.size wr).alloc (Nat.le_refl _) o).cell (p := ⟨w.heap.size + 1, x, none⟩) (World.block_lt_of_cell? _ _ cP)).trans cP
          have hbm : Below wr.heap.size wr (wr.alloc (.cells (madeCells #[.int .i64 0] (s - p + 1)) 3)) := (Below.refl _ _).alloc (Nat.le_refl _) _
          have hom : OwnSl wr.heap.size (wr.alloc (.cells (madeCells #[.int .i64 0] (s - p + 1)) 3)) (.slice (some ⟨wr.heap.size, 0, none⟩) 0 (s - p + 1)) 0 (fun j => (it T r (p + j) : Int)) := OwnSl.made _ _ _ _ (Nat.le_refl _) (by unfold maxLen; omega)
          go_wp2
          obtain ⟨w0, hw0⟩ : ∃ w0, w0 = wr := ⟨_, rfl⟩
          go_loopg [10, 11] (s - p) (fun k lp ii wq => ∃ t : Nat, t + k = s - p ∧ ii = .int .i64 ((p + t : Nat) : Int) ∧ OwnSl w0.heap.size wq lp t (fun j => (it T r (p + j) : Int)) ∧ Below w0.heap.size w0 wq)
          case atStart => exact ⟨0, by omega, by go_num, by rw [hw0]; exact hom, by rw [hw0]; exact hbm⟩
          case round =>
            subst hw0
            clear hom hbm cP2 cP cM hmk0
            obtain ⟨t, ht, rfl, hown, hbq⟩ := hrel
            have hszq := hbq.size
            by_cases hlt2 : t < s - p
            · obtain ⟨b3, off3, rfl, _, hc3⟩ := HW.out (p + t) (by omega)
              have hc4 : wr.cell? ⟨b3, off3 + (p + t), none⟩ = some (.int .i64 (it T r (p + t) : Int)) := (hbq.cell (p := ⟨b3, off3 + (p + t), none⟩) (World.block_lt_of_cell? _ _ hc3)).trans hc3
              clear hc3
              go_wp2_with (at_builtin; refine wpList_push1 w0.heap.size _ rfl (.tmp 57) (.tmp 62) 22 rfl i0 Try.underlying22 hi0 hz0 hz1 hz2 hown rfl (it T r (p + t) : Int) rfl rfl (fun j => (it T r (p + j) : Int)) (fun _ _ => rfl) rfl (by omega) hszq ?_)
              intro lp' w3 hown' hb'
              go_wp2
              go_roundg (gk - 1)
              case measure => omega
              case rel => exact ⟨t + 1, by omega, by go_num, hown', hbq.trans hb'⟩
            · obtain rfl : t = s - p := by omega
              go_wp2_with (at_builtin; refine wpList_push1 w0.heap.size _ rfl (.tmp 64) (.tmp 66) 22 rfl i0 Try.underlying22 hi0 hz0 hz1 hz2 hown rfl (x : Int) rfl rfl (fun j => (it T r (p + j) : Int)) (fun _ _ => rfl) (by rw [show p + (s - p) = s by omega, HX.out]) (by omega) hszq ?_)
              intro lp' w3 hown' hb'
              obtain ⟨ao3, cap3, rfl, hat⟩ := hown'.at
              go_wp2
              go_ret
              have hb4 : Below w.heap.size w w3 := hb.trans ((hbq.trans hb').mono hsz)
              cases ao3 with
              | none => exact absurd hat.at.nil (Nat.succ_ne_zero _)
              | some A => exact ⟨hb4, .inr ⟨r, p, s, A, cap3, hlt, HD.out, HRep.out, hsn, rfl, hat.at⟩⟩
        · have hnew : ∀ i, i < s → it T r i ≠ x := fun i hi e => hseen ⟨i, hi, e⟩
          have hM := hS.fresh x hxn hnew
          have hM' : (M x == (r : Int) + 1) = false := by simp; omega
          obtain ⟨b, off, a', c', rfl, hcr, hrr⟩ := HR.out x hxn
          have hlr := World.block_lt_of_cell? _ _ hcr
          have hown := (hS.own.setBelow (p := ⟨w.heap.size, x, none⟩) (by show w.heap.size < _; omega) (.int .i64 ((r : Int) + 1))).setBelow (p := ⟨w.heap.size + 1, x, none⟩) (by show w.heap.size + 1 < _; omega) (.int .i64 (s : Int))
          have hB2 : w.heap.size + 2 ≤ wr.heap.size := hS.pos.lt
          have HS := hide hS
          have HN := hide hnew
          have HRR := hide hrr
          have HCR := hide hcr
          clear hS hnew hseen hrr hcr
          go_wp2_with (at_builtin; refine wpList_push1 (w.heap.size + 2) _ rfl (.tmp 78) (.tmp 80) 22 rfl i0 Try.underlying22 hi0 hz0 hz1 hz2 hown rfl (x : Int) rfl (by simp) (fun j => (it T r j : Int)) (fun _ _ => rfl) (by rw [HX.out]) (by omega) (by simp; omega) ?_)
          intro wk' w2 hown' hb'
          obtain ⟨_, _, hb2⟩ := frIn_rows HS.out hb'
          have hc3 : w2.cell? ⟨b, off + x, none⟩ = some (.slice a' (L x) c') := (hb2.cell (p := ⟨b, off + x, none⟩) hlr).trans HCR.out
          have HB' := hide hb'
          clear hown hb' cM cP fM fP hM hM'
          by_cases hL : L x = 0
          · have hL0 : ((L x : Int) == 0) = true := by simp [hL]
            have R := frIn_out HS.out HX.out hL HD.out HB'.out hown'
            clear hL
            go_wp2
            go_roundg (n - (r + 1))
            case measure => omega
            case rel => exact ⟨r + 1, _, _, _, _, by omega, by go_num, R⟩
          · have hL0 : ((L x : Int) == 0) = false := by simp [hL]
            have hLp : (0 : Int) < (L x : Int) := by omega
            obtain ⟨b2, off2, rfl, hc2⟩ := HRR.out 0 (by omega)
            have hc4 : w2.cell? ⟨b2, off2, none⟩ = some (.int .i64 (T x 0 : Int)) := (hb2.cell (p := ⟨b2, off2, none⟩) (World.block_lt_of_cell? _ _ hc2)).trans hc2
            have R := frIn_step HS.out HX.out HN.out (by omega) HB'.out hown'
            have hnext : Hid (T x 0 = it T r (s + 1)) := by show T x 0 = T (it T r s) 0; rw [HX.out]
            clear hc2 hL
            go_wp2
            go_roundg (gk - 1)
            case measure => omega
            case rel => exact ⟨s + 1, _, _, by omega, by go_num, by rw [hnext.out], R⟩
    · go_wp2
      go_ret
      exact ⟨hO.bel, .inl ⟨rfl, fun x hx => hO.dies x (by omega)⟩⟩

end Go.Proofs.Qxb6600485a
