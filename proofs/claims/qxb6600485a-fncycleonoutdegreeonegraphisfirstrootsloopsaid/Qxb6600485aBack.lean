/-
  Seat b6600485a: walkBack (24), equalInts (16).
-/
import Derived.Test.Qxb6600485aOwn
import Derived.Test.Qxb6600485aRoot
namespace Go.Proofs.Qxb6600485a
open Go.RowKit

/-- What walkBack has done. -/
def WentBack (w : World) (n v : Nat) (L : Nat → Nat) (T : Nat → Nat → Nat) (I : Nat → Int) (e : Ending) (w' : World) : Prop :=
  ∃ a' m c' b, e = .returned (.tuple #[.slice a' m c', .bool b]) ∧ Below w.heap.size w w' ∧
    (b = true → ∃ k, 0 < k ∧ m = k + 1 ∧ k ≤ n ∧ it T v k = v ∧ (∀ i, i < k → 0 < L (it T v i)) ∧ (∀ i, 0 < i → i < k → it T v i ≠ v) ∧ IntsAt w' a' (k + 1) (fun j => I (it T v j)))

theorem wentBack_no {w w' : World} {n v : Nat} {L : Nat → Nat} {T : Nat → Nat → Nat} {I : Nat → Int} (hb : Below w.heap.size w w') : WentBack w n v L T I (.returned (.tuple #[.slice none 0 0, .bool false])) w' :=
  ⟨none, 0, 0, false, rfl, hb, fun h => by cases h⟩

theorem wentBack_yes {w w' : World} {n v s : Nat} {L : Nat → Nat} {T : Nat → Nat → Nat} {I : Nat → Int} {v' : Value} (hb : Below w.heap.size w w') (ho : OwnSl w.heap.size w' v' (s + 1 + 1) (fun j => I (it T v j)))
    (hs : s + 1 ≤ n) (hv : v = it T v (s + 1)) (hp : ∀ i, i < s + 1 → 0 < L (it T v i)) (hn : ∀ i, 0 < i → i < s + 1 → it T v i ≠ v) : WentBack w n v L T I (.returned (.tuple #[v', .bool true])) w' := by
  obtain ⟨a9, c9, rfl, hat⟩ := ho.at
  exact ⟨a9, s + 1 + 1, c9, true, rfl, hb, fun _ => ⟨s + 1, by omega, rfl, hs, hv.symm, hp, hn, hat.at⟩⟩

set_option maxHeartbeats 1000000 in
theorem walkBack_any (ai : Option Addr) (ci : Nat) (a : Option Addr) (n c v : Nat) (L : Nat → Nat) (T : Nat → Nat → Nat) (I : Nat → Int) (w : World) (hn : n ≤ 1048576) (hv : v < n)
    (hi : IntsAt w ai n I) (h : RowsAt w a n L (fun u j => (T u j : Int))) (hT : ∀ u, u < n → ∀ j, j < L u → T u j < n) :
    Calls Try.prog 24 #[.slice ai n ci, .slice a n c, .int .i64 v] w fun e w' => WentBack w n v L T I e w' := by
  obtain ⟨i0, hi0, hz0, hz1, hz2⟩ := info_parts Try.info3
  obtain ⟨bi, offi, rfl, hci⟩ := hi v hv
  go_enter Try.func24, Try.ntmps24
  go_wp2
  go_loopg [8, 9, 10] n (fun k wk x i wr => ∃ s : Nat, s + k = n ∧ i = .int .i64 s ∧ x = .int .i64 (it T v s) ∧ OwnSl w.heap.size wr wk (s + 1) (fun j => I (it T v j)) ∧ Below w.heap.size w wr ∧
    (∀ i, i < s → 0 < L (it T v i)) ∧ (∀ i, 0 < i → i ≤ s → it T v i ≠ v))
  case atStart => exact ⟨0, by omega, rfl, rfl, OwnSl.one _ _ _ _ (Nat.le_refl _) rfl, (Below.refl _ _).alloc (Nat.le_refl _) _, fun i hi => absurd hi (Nat.not_lt_zero _), fun i h1 h2 => by omega⟩
  case round =>
    obtain ⟨s, hs, rfl, rfl, hown, hb, hpos, hne⟩ := hrel
    have HP := hide hpos
    have HN := hide hne
    clear hpos hne
    by_cases hlt : s < n
    · have hx := it_lt hT hv s HP.out
      have HT := hide hT
      have HI := hide hi
      generalize hxe : it T v s = x at hx ⊢
      have HX := hide hxe
      obtain ⟨b, off, a', c', rfl, hc, hr⟩ := h x hx
      have hc1 : wr.cell? ⟨b, off + x, none⟩ = some (.slice a' (L x) c') := (hb.cell (p := ⟨b, off + x, none⟩) (World.block_lt_of_cell? _ _ hc)).trans hc
      clear hT hxe hi h
      by_cases hL : L x = 0
      · have hL0 : ((L x : Int) == 0) = true := by simp [hL]
        clear hL hc hr
        go_wp2
        go_ret2
        exact wentBack_no hb
      · have hL0 : ((L x : Int) == 0) = false := by simp [hL]
        have hLp : (0 : Int) < (L x : Int) := by omega
        obtain ⟨b2, off2, rfl, hc2⟩ := hr 0 (by omega)
        have hc3 : wr.cell? ⟨b2, off2, none⟩ = some (.int .i64 (T x 0)) := (hb.cell (p := ⟨b2, off2, none⟩) (World.block_lt_of_cell? _ _ hc2)).trans hc2
        have hy := HT.out x hx 0 (by omega)
        have HY : Hid (T x 0 = it T v (s + 1)) := by show T x 0 = T (it T v s) 0; rw [HX.out]
        generalize T x 0 = y at hc3 hy HY
        obtain ⟨bi2, offi2, e2, hci2⟩ := HI.out y hy
        simp only [Option.some.injEq, Addr.mk.injEq, and_true] at e2
        obtain ⟨rfl, rfl⟩ := e2
        have hc4 : wr.cell? ⟨bi, offi + y, none⟩ = some (.int .i64 (I y)) := (hb.cell (p := ⟨bi, offi + y, none⟩) (World.block_lt_of_cell? _ _ hci2)).trans hci2
        have hsz := hb.size
        clear hc hr hc2 hci2 hL hci
        go_wp2_with (at_builtin; refine wpList_push w.heap.size _ rfl (.tmp 35) (.tmp 40) 22 rfl 3 i0 Try.underlying22 hi0 hz0 hz1 hz2 rfl (hown.alloc _) ⟨wr.heap.size, 0, none⟩ 1 (I y) rfl ?qc (fun j => I (it T v j)) (fun _ _ => rfl) ?qf ?qn ?qb ?_)
        case qc => simp
        case qf => rw [HY.out]
        case qn => omega
        case qb => simp; omega
        intro v' w' hown' hb'
        have hb2 : Below w.heap.size w w' := (hb.alloc hsz _).trans hb'
        clear hown hc1 hc3 hc4
        by_cases hyv : y = v
        · subst hyv
          go_wp2
          go_ret2
          exact wentBack_yes hb2 hown' (by omega) HY.out (all_succ HP.out (by rw [HX.out]; omega)) (fun i h1 h2 => HN.out i h1 (by omega))
        · have hyv' : ((y : Int) == (v : Int)) = false := by simp; omega
          go_wp2
          go_roundg (gk - 1)
          case measure => omega
          case rel =>
            refine ⟨s + 1, by omega, by go_num, by rw [HY.out], hown', hb2, all_succ HP.out (by rw [HX.out]; omega), fun i h1 h2 => ?_⟩
            by_cases e : i = s + 1
            · subst e; rw [← HY.out]; exact hyv
            · exact HN.out i h1 (by omega)
    · go_wp2
      go_ret2
      exact wentBack_no hb

set_option maxHeartbeats 1000000 in
theorem equalInts_yes (a b : Option Addr) (n ca cb : Nat) (f g : Nat → Int) (w : World) (hn : n ≤ 1048576) (ha : IntsAt w a n f) (hb : IntsAt w b n g) (hfg : ∀ j, j < n → f j = g j) :
    Calls Try.prog 16 #[.slice a n ca, .slice b n cb] w fun e w' => e = .returned (.bool true) ∧ Below w.heap.size w w' := by
  go_enter Try.func16, Try.ntmps16
  go_wp2
  go_loopg [5] n (fun k i wr => ∃ m : Nat, m + k = n ∧ i = .int .i64 m ∧ Below w.heap.size w wr)
  case atStart => exact ⟨0, by omega, rfl, Below.refl _ _⟩
  case round =>
    obtain ⟨m, hm, rfl, hbl⟩ := hrel
    by_cases hlt : m < n
    · obtain ⟨b1, off1, rfl, hc1⟩ := ha m hlt
      obtain ⟨b2, off2, rfl, hc2⟩ := hb m hlt
      have hd1 : wr.cell? ⟨b1, off1 + m, none⟩ = some (.int .i64 (f m)) := (hbl.cell (p := ⟨b1, off1 + m, none⟩) (World.block_lt_of_cell? _ _ hc1)).trans hc1
      have hd2 : wr.cell? ⟨b2, off2 + m, none⟩ = some (.int .i64 (f m)) := by rw [hfg m hlt]; exact (hbl.cell (p := ⟨b2, off2 + m, none⟩) (World.block_lt_of_cell? _ _ hc2)).trans hc2
      clear hc1 hc2 ha hb hfg
      go_wp2
      go_quiet (fail)
      go_wp2
      go_roundg (gk - 1)
      case measure => omega
      case rel => exact ⟨m + 1, by omega, by go_num, below_drewN hbl _⟩
    · go_wp2
      go_ret
      exact ⟨rfl, hbl⟩

end Go.Proofs.Qxb6600485a
