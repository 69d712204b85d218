/-
  Seat b6600485a: shortestCycleLen (21): relaxation rounds, then the least way back.
-/
import Derived.Test.Qxb6600485aOwn
import Derived.Test.Qxb6600485aRelax
namespace Go.Proofs.Qxb6600485a
open Go.RowKit

def LenGot (w : World) (v : Nat) (L : Nat → Nat) (T : Nat → Nat → Nat) (e : Ending) (w' : World) : Prop :=
  ∃ b : Int, e = .returned (.int .i64 b) ∧ Below w.heap.size w w' ∧ (0 ≤ b → ∃ (k : Nat) (q : Nat → Nat), b = (k : Int) ∧ Closed L T v k q ∧ ∀ k' q', Closed L T v k' q' → k ≤ k')

theorem sound_start {n v : Nat} {L : Nat → Nat} {T : Nat → Nat → Nat} : Sound n v L T (fun x => if x = v then 0 else -1) := by
  refine ⟨if_pos rfl, fun x _ h0 => ?_⟩
  by_cases e : x = v
  · subst e
    simp only [if_true]
    exact ⟨fun _ => x, ⟨rfl, fun i hi => absurd hi (Nat.not_lt_zero _)⟩, rfl⟩
  · simp only [if_neg e] at h0
    omega

theorem row_drewN {w : World} {b n q : Nat} {t : TypeId} {f : Nat → Value} (h : w.rowIs b t n f) : (w.drewN q).rowIs b t n f := h.of_block rfl

/-- A store into the row of distances. -/
theorem row_set {w : World} {b n y : Nat} {D : Nat → Int} {x : Int} (h : w.rowIs b 3 n (fun j => .int .i64 (D j))) : (w.setCell ⟨b, y, none⟩ (.int .i64 x)).rowIs b 3 n (fun j => .int .i64 (if j = y then x else D j)) := by
  refine (h.set y _).congr (fun j _ => ?_)
  by_cases e : j = y
  · rw [if_pos e, if_pos e]
  · rw [if_neg e, if_neg e]

theorem take_pos {D : Nat → Int} {u y : Nat} (h : 0 ≤ D u) : 0 ≤ (if u = y then D u + 1 else D u) := by
  by_cases e : u = y
  · rw [if_pos e]; omega
  · rw [if_neg e]; exact h

theorem take_le {n u y j : Nat} {D : Nat → Int} {A : Int} (h : ∀ x, x < n → D x ≤ A + (j : Int)) (hu : u < n) : ∀ x, x < n → (if x = y then D u + 1 else D x) ≤ A + ((j + 1 : Nat) : Int) := by
  intro x hx
  have h1 := h u hu
  have h2 := h x hx
  by_cases e : x = y
  · rw [if_pos e]; omega
  · rw [if_neg e]; omega

set_option maxHeartbeats 4000000 in
set_option maxRecDepth 100000 in
theorem shortLen_any (a : Option Addr) (n c v : Nat) (L : Nat → Nat) (T : Nat → Nat → Nat) (w : World) (hn : n ≤ 4096) (hv : v < n) (hL : ∀ u, u < n → L u ≤ 131072)
    (hr : RowsAt w a n L (fun u j => (T u j : Int))) (hT : ∀ u, u < n → ∀ j, j < L u → T u j < n) :
    Calls Try.prog 21 #[.slice a n c, .int .i64 v] w fun e w' => LenGot w v L T e w' := by
  have hmk := run_make_row' (P := Try.prog) 22 3 (.int .i64 0) 8 Try.underlying22 Try.info3 rfl .i64 .i64 n (by omega) (by omega)
  have HR := hide hr
  have HT := hide hT
  have HL := hide hL
  clear hr hT hL
  go_enter Try.func21, Try.ntmps21
  go_wp2
  go_loopg [7] n (fun k i wr => ∃ m : Nat, m + k = n ∧ i = .int .i64 m ∧ wr.rowIs w.heap.size 3 n (fun j => if j < m then .int .i64 (-1) else .int .i64 0) ∧ Below w.heap.size w wr)
  case atStart => exact ⟨0, by omega, rfl, (World.rowIs_made w _ n 3).congr (fun j _ => by simp), (Below.refl _ _).alloc (Nat.le_refl _) _⟩
  case round =>
    clear hmk
    obtain ⟨m, hm, rfl, hrow, hb⟩ := hrel
    by_cases hlt : m < n
    · have hc2 := hrow.cell hlt
      have hf2 := hrow.frozen m
      go_wp2
      go_roundg (gk - 1)
      case measure => omega
      case rel =>
        refine ⟨m + 1, by omega, by go_num, (hrow.set m _).congr (fun j _ => ?_), hb.setCell (Nat.le_refl _) _⟩
        by_cases e : j = m
        · subst e; simp
        · rw [if_neg e]
          by_cases hj : j < m
          · rw [if_pos hj, if_pos (by omega)]
          · rw [if_neg hj, if_neg (by omega)]
    · have hrow1 : wr.rowIs w.heap.size 3 n (fun j => .int .i64 ((fun _ => -1 : Nat → Int) j)) := hrow.congr (fun j hj => if_pos (by omega))
      have hcv := hrow1.cell hv
      have hfv := hrow1.frozen v
      have HS0 := hide (And.intro (row_set (y := v) (x := 0) hrow1) (hb.setCell (p := ⟨w.heap.size, v, none⟩) (Nat.le_refl _) (.int .i64 0)))
      clear hrow hrow1 hb
      go_wp2
      go_loopg [8] n (fun k rr wr => ∃ (r : Nat) (D : Nat → Int), r + k = n ∧ rr = .int .i64 r ∧ wr.rowIs w.heap.size 3 n (fun x => .int .i64 (D x)) ∧ Below w.heap.size w wr ∧ Sound n v L T D ∧ KnowsTo v L T D r ∧ ∀ x, x < n → D x ≤ (r : Int) * 536870912)
      case atStart => exact ⟨0, _, by omega, rfl, HS0.out.1, HS0.out.2, sound_start, knowsTo_start (n := n) sound_start, fun x _ => by by_cases e : x = v <;> simp [e]⟩
      case round =>
        clear HS0 hcv hfv
        obtain ⟨r, D, hkr, rfl, hrow, hb, hS, hK, hBd⟩ := hrel
        by_cases hlt2 : r < n
        · -- one round
          have HRnd := hide (round_start hS)
          have HKT := hide hK
          have HBd := hide hBd
          clear hS hK hBd
          go_wp2
          go_loopg [9, 10] n (fun k cc uu wr => ∃ (u : Nat) (D2 : Nat → Int) (ch : Bool), u + k = n ∧ cc = .bool ch ∧ uu = .int .i64 u ∧ wr.rowIs w.heap.size 3 n (fun x => .int .i64 (D2 x)) ∧ Below w.heap.size w wr ∧ Round n v L T D D2 ch u 0 ∧ ∀ x, x < n → D2 x ≤ (r : Int) * 536870912 + (u : Int) * 131072)
          case atStart => exact ⟨0, D, false, by omega, rfl, rfl, hrow, hb, HRnd.out, fun x hx => by have := HBd.out x hx; omega⟩
          case round =>
            clear HRnd HBd hrow hb
            obtain ⟨u, D2, ch, hku, rfl, rfl, hrow, hb, hR, hBd⟩ := hrel
            by_cases hltu : u < n
            · have HRnd := hide hR
              have HBd := hide hBd
              have hcD := hrow.cell hltu
              clear hR hBd
              by_cases hneg : D2 u < 0
              · go_wp2
                go_roundg (gk - 1)
                case measure => omega
                case rel => exact ⟨u + 1, D2, ch, by omega, rfl, by go_num, hrow, hb, round_pass HRnd.out hltu hneg, fun x hx => by have := HBd.out x hx; omega⟩
              · have hpos0 : 0 ≤ D2 u := by omega
                obtain ⟨b0, off0, a0, c0, rfl, hcr, hrr⟩ := HR.out u hltu
                have HRR := hide hrr
                have hLu := HL.out u hltu
                have hlr := World.block_lt_of_cell? _ _ hcr
                have HCR := hide hcr
                clear hrr hcr
                go_wp2
                go_loopg [9, 11] (L u) (fun k cc jj wr => ∃ (j : Nat) (D3 : Nat → Int) (ch : Bool), j + k = L u ∧ cc = .bool ch ∧ jj = .int .i64 j ∧ wr.rowIs w.heap.size 3 n (fun x => .int .i64 (D3 x)) ∧ Below w.heap.size w wr ∧ Round n v L T D D3 ch u j ∧ 0 ≤ D3 u ∧ ∀ x, x < n → D3 x ≤ (r : Int) * 536870912 + (u : Int) * 131072 + (j : Int))
                case atStart => exact ⟨0, D2, ch, by omega, rfl, rfl, hrow, hb, HRnd.out, hpos0, fun x hx => by have := HBd.out x hx; omega⟩
                case round =>
                  clear hcD HRnd HBd hrow hb hneg hpos0
                  obtain ⟨j, D3, ch, hkj, rfl, rfl, hrow, hb, hR, hpos, hBd⟩ := hrel
                  have HRnd := hide hR
                  have hDu := hBd u hltu
                  have HBd := hide hBd
                  clear hR hBd
                  have hcD := hrow.cell hltu
                  have hcu : wr.cell? ⟨b0, off0 + u, none⟩ = some (.slice a0 (L u) c0) := (hb.cell (p := ⟨b0, off0 + u, none⟩) hlr).trans HCR.out
                  by_cases hltj : j < L u
                  · obtain ⟨b2, off2, rfl, hc2⟩ := HRR.out j hltj
                    have hcy : wr.cell? ⟨b2, off2 + j, none⟩ = some (.int .i64 (T u j : Int)) := (hb.cell (p := ⟨b2, off2 + j, none⟩) (World.block_lt_of_cell? _ _ hc2)).trans hc2
                    obtain ⟨y, hy⟩ : ∃ y, T u j = y := ⟨_, rfl⟩
                    have hyn : y < n := by rw [← hy]; exact HT.out u hltu j hltj
                    rw [hy] at hcy
                    have hcDy := hrow.cell hyn
                    have hfDy := hrow.frozen y
                    have hyi : (y : Int) < (n : Int) := by omega
                    have hui : (u : Int) < (n : Int) := by omega
                    have HY := hide hy
                    clear hy hc2
                    by_cases hyv : y = v
                    · have hyv' : ((y : Int) != (v : Int)) = false := by simp [hyv]
                      have HYV : Hid (T u j = v) := HY.out.trans hyv
                      clear hyv
                      go_wp2
                      go_quiet (fail)
                      go_wp2
                      go_roundg (gk - 1)
                      case measure => omega
                      case rel => exact ⟨j + 1, D3, ch, by omega, rfl, by go_num, row_drewN hrow, below_drewN hb _, round_skip HRnd.out hltu (fun h => absurd HYV.out h), hpos, fun x hx => by have := HBd.out x hx; omega⟩
                    · have hyv' : ((y : Int) != (v : Int)) = true := by simp; omega
                      have HTk := hide (fun hl => round_take HRnd.out hltu hltj HY.out hyn hyv hpos hl)
                      have HNv := hide hyv
                      clear hyv
                      by_cases hd1 : D3 y < 0
                      · have hd1' : decide (D3 y < 0) = true := by simp; omega
                        go_wp2
                        go_quiet (fail)
                        go_wp2
                        go_roundg (gk - 1)
                        case measure => omega
                        case rel => exact ⟨j + 1, _, true, by omega, rfl, by go_num, row_set (row_drewN hrow), (below_drewN hb _).setCell (Nat.le_refl _) _, HTk.out (.inl hd1), take_pos hpos, take_le HBd.out hltu⟩
                      · have hd1' : decide (D3 y < 0) = false := by simp; omega
                        have hDy := HBd.out y hyn
                        by_cases hd2 : D3 u + 1 < D3 y
                        · have hd2' : decide (D3 u + 1 < D3 y) = true := by simp; omega
                          go_wp2
                          go_quiet (fail)
                          go_wp2
                          go_roundg (gk - 1)
                          case measure => omega
                          case rel => exact ⟨j + 1, _, true, by omega, rfl, by go_num, row_set (row_drewN hrow), (below_drewN hb _).setCell (Nat.le_refl _) _, HTk.out (.inr hd2), take_pos hpos, take_le HBd.out hltu⟩
                        · have hd2' : decide (D3 u + 1 < D3 y) = false := by simp; omega
                          go_wp2
                          go_quiet (fail)
                          go_wp2
                          go_roundg (gk - 1)
                          case measure => omega
                          case rel => exact ⟨j + 1, D3, ch, by omega, rfl, by go_num, row_drewN hrow, below_drewN hb _, round_skip HRnd.out hltu (fun _ => by rw [HY.out]; exact ⟨by omega, by omega⟩), hpos, fun x hx => by have := HBd.out x hx; omega⟩
                  · go_wp2
                    go_roundg (n - (u + 1))
                    case measure => omega
                    case rel => exact ⟨u + 1, D3, ch, by omega, rfl, by go_num, hrow, hb, round_next HRnd.out (by omega), fun x hx => by have := HBd.out x hx; omega⟩
            · have hun : u = n := by omega
              rw [hun] at hR hBd
              cases ch with
              | false =>
                have HK := hide (And.intro hR.sound (knows_fix HT.out hv hR))
                have HW := hide (And.intro hrow hb)
                have HBd := hide (fun x hx => show D2 x ≤ 4398046511103 by have := hBd x hx; omega)
                clear hR hBd hrow hb hun HKT
                go_wp2
                go_loopg [13, 14] n (fun k bb uu wr => ∃ (u : Nat) (b : Int), u + k = n ∧ bb = .int .i64 b ∧ uu = .int .i64 u ∧ b ≤ 4398046511104 ∧ wr.rowIs w.heap.size 3 n (fun x => .int .i64 (D2 x)) ∧ Below w.heap.size w wr ∧ Best n v L T D2 b u 0)
                case atStart => exact ⟨0, -1, by omega, rfl, rfl, by omega, HW.out.1, HW.out.2, best_start D2⟩
                case round =>
                  clear HW
                  obtain ⟨u, b, hku, rfl, rfl, hbb, hrow, hb, hB⟩ := hrel
                  have HB := hide hB
                  clear hB
                  by_cases hlt : u < n
                  · have hcD := hrow.cell hlt
                    have hDu := HBd.out u hlt
                    by_cases hneg : D2 u < 0
                    · go_wp2
                      go_roundg (gk - 1)
                      case measure => omega
                      case rel => exact ⟨u + 1, b, by omega, rfl, by go_num, hbb, hrow, hb, best_next HB.out (.inl hneg)⟩
                    · have hpos : 0 ≤ D2 u := by omega
                      obtain ⟨b0, off0, a0, c0, rfl, hcr, hrr⟩ := HR.out u hlt
                      have HRR := hide hrr
                      have hLu := HL.out u hlt
                      have hlr := World.block_lt_of_cell? _ _ hcr
                      have HCR := hide hcr
                      clear hrr hcr
                      go_wp2
                      go_loopg [13, 15] (L u) (fun k bb jj wr => ∃ (j : Nat) (b : Int), j + k = L u ∧ bb = .int .i64 b ∧ jj = .int .i64 j ∧ b ≤ 4398046511104 ∧ wr.rowIs w.heap.size 3 n (fun x => .int .i64 (D2 x)) ∧ Below w.heap.size w wr ∧ Best n v L T D2 b u j)
                      case atStart => exact ⟨0, b, by omega, rfl, rfl, hbb, hrow, hb, HB.out⟩
                      case round =>
                        clear hcD HB hrow hb hbb
                        obtain ⟨j, b, hkj, rfl, rfl, hbb, hrow, hb, hB⟩ := hrel
                        have HB := hide hB
                        clear hB
                        have hcD := hrow.cell hlt
                        have hcu : wr.cell? ⟨b0, off0 + u, none⟩ = some (.slice a0 (L u) c0) := (hb.cell (p := ⟨b0, off0 + u, none⟩) hlr).trans HCR.out
                        by_cases hltj : j < L u
                        · obtain ⟨b2, off2, rfl, hc2⟩ := HRR.out j hltj
                          have hcy : wr.cell? ⟨b2, off2 + j, none⟩ = some (.int .i64 (T u j : Int)) := (hb.cell (p := ⟨b2, off2 + j, none⟩) (World.block_lt_of_cell? _ _ hc2)).trans hc2
                          obtain ⟨y, hy⟩ : ∃ y, T u j = y := ⟨_, rfl⟩
                          rw [hy] at hcy
                          have HY := hide hy
                          clear hy hc2
                          by_cases hyv : y = v
                          · have hyv' : ((y : Int) == (v : Int)) = true := by simp [hyv]
                            have HYV : Hid (T u j = v) := HY.out.trans hyv
                            clear hyv
                            by_cases hb0 : b < 0
                            · go_wp2
                              go_roundg (gk - 1)
                              case measure => omega
                              case rel => exact ⟨j + 1, D2 u + 1, by omega, rfl, by go_num, by omega, hrow, hb, best_take HB.out hlt hltj hpos HYV.out (.inl hb0)⟩
                            · by_cases hb1 : D2 u + 1 < b
                              · go_wp2
                                go_roundg (gk - 1)
                                case measure => omega
                                case rel => exact ⟨j + 1, D2 u + 1, by omega, rfl, by go_num, by omega, hrow, hb, best_take HB.out hlt hltj hpos HYV.out (.inr hb1)⟩
                              · go_wp2
                                go_roundg (gk - 1)
                                case measure => omega
                                case rel => exact ⟨j + 1, b, by omega, rfl, by go_num, hbb, hrow, hb, best_skip HB.out (fun _ => ⟨by omega, by omega⟩)⟩
                          · have hyv' : ((y : Int) == (v : Int)) = false := by simp; omega
                            go_wp2
                            go_roundg (gk - 1)
                            case measure => omega
                            case rel => exact ⟨j + 1, b, by omega, rfl, by go_num, hbb, hrow, hb, best_skip HB.out (fun e => absurd (HY.out.symm.trans e) hyv)⟩
                        · go_wp2
                          go_roundg (n - (u + 1))
                          case measure => omega
                          case rel => exact ⟨u + 1, b, by omega, rfl, by go_num, hbb, hrow, hb, best_next HB.out (.inr (by omega))⟩
                  · have hun : u = n := by omega
                    have HB2 : Hid (Best n v L T D2 b n 0) := by have := HB.out; rw [hun] at this; exact this
                    clear hun HB
                    go_wp2
                    go_ret
                    exact ⟨b, rfl, hb, fun hp => best_end HT.out hv HB2.out HK.out.1 HK.out.2 hp⟩
              | true =>
                have HRn := hide hR
                have HBn := hide hBd
                clear hR hBd hun
                go_wp2
                go_roundg (n - (r + 1))
                case measure => omega
                case rel => exact ⟨r + 1, D2, by omega, by go_num, hrow, hb, HRn.out.sound, knowsTo_round HT.out hv HKT.out HRn.out, fun x hx => by have := HBn.out x hx; omega⟩
        · have HK := hide (And.intro hS (knows_all HT.out hv hK (by omega)))
          have HW := hide (And.intro hrow hb)
          have HBd := hide (fun x hx => show D x ≤ 4398046511103 by have := hBd x hx; omega)
          clear hS hK hrow hb hBd
          go_wp2
          go_loopg [13, 14] n (fun k bb uu wr => ∃ (u : Nat) (b : Int), u + k = n ∧ bb = .int .i64 b ∧ uu = .int .i64 u ∧ b ≤ 4398046511104 ∧ wr.rowIs w.heap.size 3 n (fun x => .int .i64 (D x)) ∧ Below w.heap.size w wr ∧ Best n v L T D b u 0)
          case atStart => exact ⟨0, -1, by omega, rfl, rfl, by omega, HW.out.1, HW.out.2, best_start D⟩
          case round =>
            clear HW
            obtain ⟨u, b, hku, rfl, rfl, hbb, hrow, hb, hB⟩ := hrel
            have HB := hide hB
            clear hB
            by_cases hlt : u < n
            · have hcD := hrow.cell hlt
              have hDu := HBd.out u hlt
              by_cases hneg : D u < 0
              · go_wp2
                go_roundg (gk - 1)
                case measure => omega
                case rel => exact ⟨u + 1, b, by omega, rfl, by go_num, hbb, hrow, hb, best_next HB.out (.inl hneg)⟩
              · have hpos : 0 ≤ D u := by omega
                obtain ⟨b0, off0, a0, c0, rfl, hcr, hrr⟩ := HR.out u hlt
                have HRR := hide hrr
                have hLu := HL.out u hlt
                have hlr := World.block_lt_of_cell? _ _ hcr
                have HCR := hide hcr
                clear hrr hcr
                go_wp2
                go_loopg [13, 15] (L u) (fun k bb jj wr => ∃ (j : Nat) (b : Int), j + k = L u ∧ bb = .int .i64 b ∧ jj = .int .i64 j ∧ b ≤ 4398046511104 ∧ wr.rowIs w.heap.size 3 n (fun x => .int .i64 (D x)) ∧ Below w.heap.size w wr ∧ Best n v L T D b u j)
                case atStart => exact ⟨0, b, by omega, rfl, rfl, hbb, hrow, hb, HB.out⟩
                case round =>
                  clear hcD HB hrow hb hbb
                  obtain ⟨j, b, hkj, rfl, rfl, hbb, hrow, hb, hB⟩ := hrel
                  have HB := hide hB
                  clear hB
                  have hcD := hrow.cell hlt
                  have hcu : wr.cell? ⟨b0, off0 + u, none⟩ = some (.slice a0 (L u) c0) := (hb.cell (p := ⟨b0, off0 + u, none⟩) hlr).trans HCR.out
                  by_cases hltj : j < L u
                  · obtain ⟨b2, off2, rfl, hc2⟩ := HRR.out j hltj
                    have hcy : wr.cell? ⟨b2, off2 + j, none⟩ = some (.int .i64 (T u j : Int)) := (hb.cell (p := ⟨b2, off2 + j, none⟩) (World.block_lt_of_cell? _ _ hc2)).trans hc2
                    obtain ⟨y, hy⟩ : ∃ y, T u j = y := ⟨_, rfl⟩
                    rw [hy] at hcy
                    have HY := hide hy
                    clear hy hc2
                    by_cases hyv : y = v
                    · have hyv' : ((y : Int) == (v : Int)) = true := by simp [hyv]
                      have HYV : Hid (T u j = v) := HY.out.trans hyv
                      clear hyv
                      by_cases hb0 : b < 0
                      · go_wp2
                        go_roundg (gk - 1)
                        case measure => omega
                        case rel => exact ⟨j + 1, D u + 1, by omega, rfl, by go_num, by omega, hrow, hb, best_take HB.out hlt hltj hpos HYV.out (.inl hb0)⟩
                      · by_cases hb1 : D u + 1 < b
                        · go_wp2
                          go_roundg (gk - 1)
                          case measure => omega
                          case rel => exact ⟨j + 1, D u + 1, by omega, rfl, by go_num, by omega, hrow, hb, best_take HB.out hlt hltj hpos HYV.out (.inr hb1)⟩
                        · go_wp2
                          go_roundg (gk - 1)
                          case measure => omega
                          case rel => exact ⟨j + 1, b, by omega, rfl, by go_num, hbb, hrow, hb, best_skip HB.out (fun _ => ⟨by omega, by omega⟩)⟩
                    · have hyv' : ((y : Int) == (v : Int)) = false := by simp; omega
                      go_wp2
                      go_roundg (gk - 1)
                      case measure => omega
                      case rel => exact ⟨j + 1, b, by omega, rfl, by go_num, hbb, hrow, hb, best_skip HB.out (fun e => absurd (HY.out.symm.trans e) hyv)⟩
                  · go_wp2
                    go_roundg (n - (u + 1))
                    case measure => omega
                    case rel => exact ⟨u + 1, b, by omega, rfl, by go_num, hbb, hrow, hb, best_next HB.out (.inr (by omega))⟩
            · have hun : u = n := by omega
              have HB2 : Hid (Best n v L T D b n 0) := by have := HB.out; rw [hun] at this; exact this
              clear hun HB
              go_wp2
              go_ret
              exact ⟨b, rfl, hb, fun hp => best_end HT.out hv HB2.out HK.out.1 HK.out.2 hp⟩

end Go.Proofs.Qxb6600485a
