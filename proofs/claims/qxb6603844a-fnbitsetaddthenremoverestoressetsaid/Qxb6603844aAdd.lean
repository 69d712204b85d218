/-
  Seat b6603844a: (*bitset).add (17), ZZBitsetAdd (9).
-/
import Derived.Test.Qxb6603844aReads
namespace Go.Proofs.Qxb6603844a
open Go.RowKit

/-- A bitset in memory of the call's own: the struct at the head of block pb; its two slices apart from each other and from it. -/
structure Bs (base : Nat) (w : World) (pb : Nat) (v1 v2 : Value) (g1 g2 : Option Nat) (n1 : Nat) (f1 : Nat → Nat) (n2 : Nat) (f2 : Nat → Nat) : Prop where
  c0 : w.cell? ⟨pb, 0, none⟩ = some v1
  c1 : w.cell? ⟨pb, 1, none⟩ = some v2
  z0 : w.frozen? ⟨pb, 0, none⟩ = false
  z1 : w.frozen? ⟨pb, 1, none⟩ = false
  o1 : OwnW g1 w v1 n1 f1
  o2 : OwnW g2 w v2 n2 f2
  apart : ∀ b, g1 = some b → g2 ≠ some b
  p1 : g1 ≠ some pb
  p2 : g2 ≠ some pb
  b1 : ∀ b, g1 = some b → base ≤ b
  b2 : ∀ b, g2 = some b → base ≤ b
  pbl : base ≤ pb

/-- What is there, and zeros behind. -/
def pad (n : Nat) (f : Nat → Nat) (j : Nat) : Nat := if j < n then f j else 0

theorem pad_small {n m : Nat} {f : Nat → Nat} (h : Small n f) : Small m (pad n f) := by
  intro j _
  unfold pad
  by_cases e : j < n
  · rw [if_pos e]; exact h j e
  · rw [if_neg e]; decide

section
variable {base pb n1 n2 : Nat} {w wr w1 : World} {v1 v2 v1' v2' : Value} {g1 g2 g1' g2' : Option Nat} {f1 f2 f1' f2' : Nat → Nat}

theorem Bs.lt (h : Bs base w pb v1 v2 g1 g2 n1 f1 n2 f2) : pb < w.heap.size := World.block_lt_of_cell? _ _ h.c0

/-- The first slice is grown and stored back. -/
theorem bs_grow1 (h : Bs base w pb v1 v2 g1 g2 n1 f1 n2 f2) (ho : OwnW g1' w1 v1' (n1 + 1) f1') (hg : w.grownBy w1 g1) (hg' : g1' = g1 ∨ ∃ b, g1' = some b ∧ w.heap.size ≤ b) (hbase : base ≤ w.heap.size) :
    Bs base (w1.setCell ⟨pb, 0, none⟩ v1') pb v1' v2 g1' g2 (n1 + 1) f1' n2 f2 ∧ Below base w (w1.setCell ⟨pb, 0, none⟩ v1') := by
  have hlt := h.lt
  have hblk : w1.heap[pb]? = w.heap[pb]? := hg.block pb hlt (fun e => h.p1 e.symm)
  have hc0 : w1.cell? ⟨pb, 0, none⟩ = some v1 := (World.cell?_of_block (w := w) (a := ⟨pb, 0, none⟩) hblk).trans h.c0
  have hc1 : w1.cell? ⟨pb, 1, none⟩ = some v2 := (World.cell?_of_block (w := w) (a := ⟨pb, 1, none⟩) hblk).trans h.c1
  have hz0 : w1.frozen? ⟨pb, 0, none⟩ = false := (World.frozen?_of_block (w := w) (a := ⟨pb, 0, none⟩) hblk).trans h.z0
  have hz1 : w1.frozen? ⟨pb, 1, none⟩ = false := (World.frozen?_of_block (w := w) (a := ⟨pb, 1, none⟩) hblk).trans h.z1
  have hp1 : g1' ≠ some pb := by
    rcases hg' with e | ⟨b, e, hb⟩
    · rw [e]; exact h.p1
    · rw [e]; intro e2; cases e2; omega
  refine ⟨⟨World.cell?_setCell_same _ _ _ hc0, ?_, by rw [World.frozen?_setCell]; exact hz0, by rw [World.frozen?_setCell]; exact hz1, ho.setOther hp1 _, ?_, ?_, hp1, h.p2, ?_, h.b2, h.pbl⟩, ?_⟩
  · rw [World.cell?_setCell_other _ _ _ _ (fun e => by have := (Addr.mk.inj e).2.1; omega)]; exact hc1
  · exact (h.o2.carry (fun b e => hg.block b (h.o2.lt b e) (fun e2 => h.apart b e2.symm e))).setOther h.p2 _
  · intro b e e2
    rcases hg' with e3 | ⟨b', e3, hb'⟩
    · exact h.apart b (by rw [← e3]; exact e) e2
    · rw [e3] at e; cases e
      have := h.o2.lt b e2
      omega
  · intro b e
    rcases hg' with e3 | ⟨b', e3, hb'⟩
    · exact h.b1 b (by rw [← e3]; exact e)
    · rw [e3] at e; cases e; omega
  · exact ((Below.refl base w).grown hg hbase (fun k e => h.b1 k e)).setCell (p := ⟨pb, 0, none⟩) h.pbl _

/-- The second. -/
theorem bs_grow2 (h : Bs base w pb v1 v2 g1 g2 n1 f1 n2 f2) (ho : OwnW g2' w1 v2' (n2 + 1) f2') (hg : w.grownBy w1 g2) (hg' : g2' = g2 ∨ ∃ b, g2' = some b ∧ w.heap.size ≤ b) (hbase : base ≤ w.heap.size) :
    Bs base (w1.setCell ⟨pb, 1, none⟩ v2') pb v1 v2' g1 g2' n1 f1 (n2 + 1) f2' ∧ Below base w (w1.setCell ⟨pb, 1, none⟩ v2') := by
  have hlt := h.lt
  have hblk : w1.heap[pb]? = w.heap[pb]? := hg.block pb hlt (fun e => h.p2 e.symm)
  have hc0 : w1.cell? ⟨pb, 0, none⟩ = some v1 := (World.cell?_of_block (w := w) (a := ⟨pb, 0, none⟩) hblk).trans h.c0
  have hc1 : w1.cell? ⟨pb, 1, none⟩ = some v2 := (World.cell?_of_block (w := w) (a := ⟨pb, 1, none⟩) hblk).trans h.c1
  have hz0 : w1.frozen? ⟨pb, 0, none⟩ = false := (World.frozen?_of_block (w := w) (a := ⟨pb, 0, none⟩) hblk).trans h.z0
  have hz1 : w1.frozen? ⟨pb, 1, none⟩ = false := (World.frozen?_of_block (w := w) (a := ⟨pb, 1, none⟩) hblk).trans h.z1
  have hp2 : g2' ≠ some pb := by
    rcases hg' with e | ⟨b, e, hb⟩
    · rw [e]; exact h.p2
    · rw [e]; intro e2; cases e2; omega
  refine ⟨⟨?_, World.cell?_setCell_same _ _ _ hc1, by rw [World.frozen?_setCell]; exact hz0, by rw [World.frozen?_setCell]; exact hz1, ?_, ho.setOther hp2 _, ?_, h.p1, hp2, h.b1, ?_, h.pbl⟩, ?_⟩
  · rw [World.cell?_setCell_other _ _ _ _ (fun e => by have := (Addr.mk.inj e).2.1; omega)]; exact hc0
  · exact (h.o1.carry (fun b e => hg.block b (h.o1.lt b e) (fun e2 => h.apart b e e2.symm))).setOther h.p1 _
  · intro b e e2
    rcases hg' with e3 | ⟨b', e3, hb'⟩
    · exact h.apart b e (by rw [← e3]; exact e2)
    · rw [e3] at e2; cases e2
      have := h.o1.lt b e
      omega
  · intro b e
    rcases hg' with e3 | ⟨b', e3, hb'⟩
    · exact h.b2 b (by rw [← e3]; exact e)
    · rw [e3] at e; cases e; omega
  · exact ((Below.refl base w).grown hg hbase (fun k e => h.b2 k e)).setCell (p := ⟨pb, 1, none⟩) h.pbl _

/-- A store into word k of the first. -/
theorem bs_set1 (h : Bs base w pb v1 v2 g1 g2 n1 f1 n2 f2) {k : Nat} (hk : k < n1) : ∃ b off cap, v1 = .slice (some ⟨b, off, none⟩) n1 cap ∧ b ≠ pb ∧ w.cell? ⟨b, off + k, none⟩ = some (.int .u64 (f1 k : Int)) ∧ w.frozen? ⟨b, off + k, none⟩ = false ∧
    ∀ x : Nat, Bs base (w.setCell ⟨b, off + k, none⟩ (.int .u64 (x : Int))) pb v1 v2 g1 g2 n1 (fun i => if i = k then x else f1 i) n2 f2 ∧ Below base w (w.setCell ⟨b, off + k, none⟩ (.int .u64 (x : Int))) := by
  obtain ⟨b, off, cap, hg, hv, hc, hz, hset⟩ := h.o1.elem hk
  have hne : b ≠ pb := fun e => h.p1 (by rw [hg, e])
  refine ⟨b, off, cap, hv, hne, hc, hz, fun x => ⟨⟨?_, ?_, by rw [World.frozen?_setCell]; exact h.z0, by rw [World.frozen?_setCell]; exact h.z1, hset x, h.o2.setOther (fun e => h.apart b hg e) _, h.apart, h.p1, h.p2, h.b1, h.b2, h.pbl⟩, (Below.refl _ _).setCell (p := ⟨b, off + k, none⟩) (h.b1 b hg) _⟩⟩
  · rw [World.cell?_setCell_other _ _ _ _ (fun e => hne (Addr.mk.inj e).1)]; exact h.c0
  · rw [World.cell?_setCell_other _ _ _ _ (fun e => hne (Addr.mk.inj e).1)]; exact h.c1

theorem bs_set2 (h : Bs base w pb v1 v2 g1 g2 n1 f1 n2 f2) {k : Nat} (hk : k < n2) : ∃ b off cap, v2 = .slice (some ⟨b, off, none⟩) n2 cap ∧ b ≠ pb ∧ w.cell? ⟨b, off + k, none⟩ = some (.int .u64 (f2 k : Int)) ∧ w.frozen? ⟨b, off + k, none⟩ = false ∧
    ∀ x : Nat, Bs base (w.setCell ⟨b, off + k, none⟩ (.int .u64 (x : Int))) pb v1 v2 g1 g2 n1 f1 n2 (fun i => if i = k then x else f2 i) ∧ Below base w (w.setCell ⟨b, off + k, none⟩ (.int .u64 (x : Int))) := by
  obtain ⟨b, off, cap, hg, hv, hc, hz, hset⟩ := h.o2.elem hk
  have hne : b ≠ pb := fun e => h.p2 (by rw [hg, e])
  refine ⟨b, off, cap, hv, hne, hc, hz, fun x => ⟨⟨?_, ?_, by rw [World.frozen?_setCell]; exact h.z0, by rw [World.frozen?_setCell]; exact h.z1, h.o1.setOther (fun e => h.apart b e hg) _, hset x, h.apart, h.p1, h.p2, h.b1, h.b2, h.pbl⟩, (Below.refl _ _).setCell (p := ⟨b, off + k, none⟩) (h.b2 b hg) _⟩⟩
  · rw [World.cell?_setCell_other _ _ _ _ (fun e => hne (Addr.mk.inj e).1)]; exact h.c0
  · rw [World.cell?_setCell_other _ _ _ _ (fun e => hne (Addr.mk.inj e).1)]; exact h.c1

/-- Other blocks, a draw: nothing of it turns. -/
theorem Bs.same (h : Bs base w pb v1 v2 g1 g2 n1 f1 n2 f2) (e : wr.heap = w.heap) : Bs base wr pb v1 v2 g1 g2 n1 f1 n2 f2 := by
  have hc : ∀ a, wr.cell? a = w.cell? a := fun a => World.cell?_of_block (w := w) (by rw [e])
  have hz : ∀ a, wr.frozen? a = w.frozen? a := fun a => World.frozen?_of_block (w := w) (by rw [e])
  exact ⟨by rw [hc]; exact h.c0, by rw [hc]; exact h.c1, by rw [hz]; exact h.z0, by rw [hz]; exact h.z1, h.o1.carry (fun b _ => by rw [e]), h.o2.carry (fun b _ => by rw [e]), h.apart, h.p1, h.p2, h.b1, h.b2, h.pbl⟩

end

/-- What add has done. -/
def Added (base : Nat) (w : World) (pb i n1 : Nat) (f1 : Nat → Nat) (n2 : Nat) (f2 : Nat → Nat) (e : Ending) (w' : World) : Prop :=
  e = .returned (.tuple #[]) ∧ Below base w w' ∧ ∃ v1 v2 g1 g2, Bs base w' pb v1 v2 g1 g2 (max n1 (i / 64 + 1)) (fun j => if j = i / 64 then pad n1 f1 j ||| 2 ^ (i % 64) else pad n1 f1 j)
    (max n2 (i / 4096 + 1)) (fun j => if j = i / 4096 then pad n2 f2 j ||| 2 ^ (i / 64 % 64) else pad n2 f2 j)

theorem added_mk {base : Nat} {w W : World} {pb i n1 n2 n m : Nat} {f1 f2 : Nat → Nat} {v1 v2 : Value} {g1 g2 : Option Nat} (hb : Below base w W)
    (h : Bs base W pb v1 v2 g1 g2 n (fun j => if j = i / 64 then pad n1 f1 (i / 64) ||| 2 ^ (i % 64) else pad n1 f1 j) m (fun j => if j = i / 64 / 64 then pad n2 f2 (i / 64 / 64) ||| 2 ^ (i / 64 % 64) else pad n2 f2 j))
    (hn : n = max n1 (i / 64 + 1)) (hm : m = max n2 (i / 4096 + 1)) : Added base w pb i n1 f1 n2 f2 (.returned (.tuple #[])) W := by
  have hdd : i / 64 / 64 = i / 4096 := by omega
  rw [hdd] at h
  have e1 : (fun j => if j = i / 64 then pad n1 f1 (i / 64) ||| 2 ^ (i % 64) else pad n1 f1 j) = (fun j => if j = i / 64 then pad n1 f1 j ||| 2 ^ (i % 64) else pad n1 f1 j) := by
    funext j
    by_cases e : j = i / 64
    · rw [if_pos e, if_pos e, e]
    · rw [if_neg e, if_neg e]
  have e2 : (fun j => if j = i / 4096 then pad n2 f2 (i / 4096) ||| 2 ^ (i / 64 % 64) else pad n2 f2 j) = (fun j => if j = i / 4096 then pad n2 f2 j ||| 2 ^ (i / 64 % 64) else pad n2 f2 j) := by
    funext j
    by_cases e : j = i / 4096
    · rw [if_pos e, if_pos e, e]
    · rw [if_neg e, if_neg e]
  rw [e1, e2, hn, hm] at h
  exact ⟨rfl, hb, v1, v2, g1, g2, h⟩

set_option maxHeartbeats 2000000 in
set_option maxRecDepth 100000 in
theorem add_any (base : Nat) (w : World) (pb i : Nat) (v1 v2 : Value) (g1 g2 : Option Nat) (n1 : Nat) (f1 : Nat → Nat) (n2 : Nat) (f2 : Nat → Nat) (hi : i < 4194304) (h1 : n1 ≤ 1048576) (h2 : n2 ≤ 1048576) (hs1 : Small n1 f1) (hs2 : Small n2 f2)
    (hbase : base ≤ w.heap.size) (h : Bs base w pb v1 v2 g1 g2 n1 f1 n2 f2) :
    Calls Try.prog 17 #[.pointer (some ⟨pb, 0, none⟩), .int .i64 i] w fun e w' => Added base w pb i n1 f1 n2 f2 e w' := by
  obtain ⟨i0, hi0, hz0, hz1, hz2⟩ := info_parts Try.info30
  have HS1 := hide hs1
  have HS2 := hide hs2
  have HB := hide h
  clear hs1 hs2 h
  go_enter Try.func17, Try.ntmps17
  go_wp2
  go_loopg [] (i / 64 + 1) (fun k wr => ∃ (n : Nat) (v1 : Value) (g1 : Option Nat), n1 ≤ n ∧ (n ≤ n1 ∨ n ≤ i / 64 + 1) ∧ i / 64 + 1 ≤ n + k ∧ Bs base wr pb v1 v2 g1 g2 n (pad n1 f1) n2 f2 ∧ Below base w wr)
  case atStart => exact ⟨n1, v1, g1, Nat.le_refl _, .inl (Nat.le_refl _), by omega, { HB.out with o1 := HB.out.o1.congr (fun j hj => by unfold pad; rw [if_pos hj]) }, Below.refl _ _⟩
  case round =>
    clear HB
    obtain ⟨n, v1, g1, hn1, hn2, hnk, hB, hbel⟩ := hrel
    have hsz := hbel.size
    have HB := hide hB
    have c0 := hB.c0
    have z0 := hB.z0
    obtain ⟨ao, cap, rfl, _⟩ := hB.o1.at
    have hown := hB.o1
    have hg1 := hB.p1
    have hpl := hB.lt
    clear hB
    by_cases hlt : n ≤ i / 64
    · have hlt' : ((n : Int) ≤ (i : Int) / 64) := by omega
      go_wp2_with (at_builtin; refine wpList_pushW _ rfl (.tmp 18) (.tmp 19) 22 rfl 30 i0 Try.underlying22 hi0 hz0 hz1 hz2 hown rfl 0 rfl rfl rfl (pad n1 f1) (fun _ _ => rfl) (by unfold pad; rw [if_neg (by omega)]) (by omega) ?_)
      intro v1' w1 g1' hown' hgr hg'
      obtain ⟨R1, R2⟩ := bs_grow1 HB.out hown' hgr hg' (by omega)
      have hblk : w1.heap[pb]? = wr.heap[pb]? := hgr.block pb hpl (fun e => hg1 e.symm)
      have c0' : w1.cell? ⟨pb, 0, none⟩ = some (.slice ao n cap) := (World.cell?_of_block (w := wr) (a := ⟨pb, 0, none⟩) hblk).trans c0
      have z0' : w1.frozen? ⟨pb, 0, none⟩ = false := (World.frozen?_of_block (w := wr) (a := ⟨pb, 0, none⟩) hblk).trans z0
      obtain ⟨ao', cap', rfl, _⟩ := hown'.at
      clear hown hown' hgr hblk c0 z0
      go_wp2
      go_roundg (gk - 1)
      case measure => omega
      case rel => exact ⟨n + 1, _, g1', by omega, by omega, by omega, R1, hbel.trans R2⟩
    · have hlt' : ¬ ((n : Int) ≤ (i : Int) / 64) := by omega
      have hlt2 : decide ((n : Int) ≤ (i : Int) / 64) = false := by simp; omega
      have HNM : Hid (n = max n1 (i / 64 + 1)) := (by omega : n = max n1 (i / 64 + 1))
      clear hlt'
      go_wp2
      go_loopg [] (i / 4096 + 1) (fun k wr => ∃ (m : Nat) (v2 : Value) (g2 : Option Nat), n2 ≤ m ∧ (m ≤ n2 ∨ m ≤ i / 4096 + 1) ∧ i / 4096 + 1 ≤ m + k ∧ Bs base wr pb (.slice ao n cap) v2 g1 g2 n (pad n1 f1) m (pad n2 f2) ∧ Below base w wr)
      case atStart => exact ⟨n2, v2, g2, Nat.le_refl _, .inl (Nat.le_refl _), by omega, { HB.out with o2 := HB.out.o2.congr (fun j hj => by unfold pad; rw [if_pos hj]) }, hbel⟩
      case round =>
        clear HB c0 z0 hown hpl hbel hsz
        obtain ⟨m, v2, g2, hm1, hm2, hmk, hB, hbel⟩ := hrel
        have hsz := hbel.size
        have HB := hide hB
        have c1 := hB.c1
        have z1 := hB.z1
        obtain ⟨ao2, cap2, rfl, _⟩ := hB.o2.at
        have hown := hB.o2
        have hg2 := hB.p2
        have hpl := hB.lt
        clear hB
        by_cases hltm : m ≤ i / 4096
        · have hltm' : ((m : Int) ≤ (i : Int) / 64 / 64) := by omega
          go_wp2_with (at_builtin; refine wpList_pushW _ rfl (.tmp 35) (.tmp 36) 22 rfl 30 i0 Try.underlying22 hi0 hz0 hz1 hz2 hown rfl 0 rfl rfl rfl (pad n2 f2) (fun _ _ => rfl) (by unfold pad; rw [if_neg (by omega)]) (by omega) ?_)
          intro v2' w1 g2' hown' hgr hg'
          obtain ⟨R1, R2⟩ := bs_grow2 HB.out hown' hgr hg' (by omega)
          have hblk : w1.heap[pb]? = wr.heap[pb]? := hgr.block pb hpl (fun e => hg2 e.symm)
          have c1' : w1.cell? ⟨pb, 1, none⟩ = some (.slice ao2 m cap2) := (World.cell?_of_block (w := wr) (a := ⟨pb, 1, none⟩) hblk).trans c1
          have z1' : w1.frozen? ⟨pb, 1, none⟩ = false := (World.frozen?_of_block (w := wr) (a := ⟨pb, 1, none⟩) hblk).trans z1
          obtain ⟨ao', cap', rfl, _⟩ := hown'.at
          clear hown hown' hgr hblk c1 z1
          go_wp2
          go_roundg (gk - 1)
          case measure => omega
          case rel => exact ⟨m + 1, _, g2', by omega, by omega, by omega, R1, hbel.trans R2⟩
        · have hltm' : decide ((m : Int) ≤ (i : Int) / 64 / 64) = false := by simp; omega
          have HMM : Hid (m = max n2 (i / 4096 + 1)) := (by omega : m = max n2 (i / 4096 + 1))
          clear z1 hown hpl
          obtain ⟨b1, off1, cp1, e1, hne1, hc1, hz1', hset1⟩ := bs_set1 HB.out (k := i / 64) (by omega)
          obtain ⟨rfl, _, rfl⟩ := Value.slice.inj e1
          have HSet1 := hide hset1
          have c0 := HB.out.c0
          have HVal := hide (or_pow (pad n1 f1 (i / 64)) (i % 64) (pad_small (m := n) HS1.out _ (by omega)) (by omega))
          have hki : (i : Int) / 64 < (n : Int) := by omega
          clear hset1 e1
          go_wp2
          go_region
          rw [HVal.out]
          obtain ⟨R1, R2⟩ := HSet1.out (pad n1 f1 (i / 64) ||| 2 ^ (i % 64))
          have R1' := R1.same (wr := (wr.setCell ⟨b1, off1 + i / 64, none⟩ (.int .u64 ((pad n1 f1 (i / 64) ||| 2 ^ (i % 64) : Nat) : Int))).drew) rfl
          have R2' := R2.drew
          clear R1 R2 HSet1 c0 c1 hc1 hz1' HVal HB
          generalize (wr.setCell ⟨b1, off1 + i / 64, none⟩ (.int .u64 ((pad n1 f1 (i / 64) ||| 2 ^ (i % 64) : Nat) : Int))).drew = W2 at R1' R2' ⊢
          have hb2 := hbel.trans R2'
          obtain ⟨b2, off2, cp2, e2, hne2, hc2, hz2', hset2⟩ := bs_set2 R1' (k := i / 64 / 64) (by omega)
          obtain ⟨rfl, _, rfl⟩ := Value.slice.inj e2
          have HSet2 := hide hset2
          have c1 := R1'.c1
          have HVal := hide (or_pow (pad n2 f2 (i / 64 / 64)) (i / 64 % 64) (pad_small (m := m) HS2.out _ (by omega)) (by omega))
          have hki2 : (i : Int) / 64 / 64 < (m : Int) := by omega
          clear hset2 e2 R1' R2' hbel
          go_wp2
          go_region
          rw [HVal.out]
          obtain ⟨R1, R2⟩ := HSet2.out (pad n2 f2 (i / 64 / 64) ||| 2 ^ (i / 64 % 64))
          go_wp2
          go_end0
          exact added_mk (hb2.trans R2).drew (R1.same rfl) HNM.out HMM.out

/-- Two slices of words of the call's own, apart from each other. -/
structure Pair (base : Nat) (w : World) (v1 v2 : Value) (g1 g2 : Option Nat) (n1 : Nat) (f1 : Nat → Nat) (n2 : Nat) (f2 : Nat → Nat) : Prop where
  o1 : OwnW g1 w v1 n1 f1
  o2 : OwnW g2 w v2 n2 f2
  apart : ∀ b, g1 = some b → g2 ≠ some b
  b1 : ∀ b, g1 = some b → base ≤ b
  b2 : ∀ b, g2 = some b → base ≤ b

theorem Bs.pair {base pb n1 n2 : Nat} {w : World} {v1 v2 : Value} {g1 g2 : Option Nat} {f1 f2 : Nat → Nat} (h : Bs base w pb v1 v2 g1 g2 n1 f1 n2 f2) : Pair base w v1 v2 g1 g2 n1 f1 n2 f2 := ⟨h.o1, h.o2, h.apart, h.b1, h.b2⟩

/-- The struct laid in a new block. -/
theorem Pair.box {base n1 n2 : Nat} {w : World} {v1 v2 : Value} {g1 g2 : Option Nat} {f1 f2 : Nat → Nat} (h : Pair base w v1 v2 g1 g2 n1 f1 n2 f2) (hb : base ≤ w.heap.size) : Bs base (w.alloc (.cells #[v1, v2] 32)) w.heap.size v1 v2 g1 g2 n1 f1 n2 f2 :=
  ⟨by simp, by simp, by simp, by simp, h.o1.alloc _, h.o2.alloc _, h.apart, (fun e => by have := h.o1.lt _ e; omega), (fun e => by have := h.o2.lt _ e; omega), h.b1, h.b2, hb⟩

theorem Bs.drewN {base pb n1 n2 : Nat} {w : World} {v1 v2 : Value} {g1 g2 : Option Nat} {f1 f2 : Nat → Nat} (h : Bs base w pb v1 v2 g1 g2 n1 f1 n2 f2) (q : Nat) : Bs base (w.drewN q) pb v1 v2 g1 g2 n1 f1 n2 f2 := h.same rfl

/-- How many words hold the old ones and i. -/
def addN (n i : Nat) : Nat := max n (i / 64 + 1)

/-- The old words, and i's bit. -/
def addF (n : Nat) (f : Nat → Nat) (i : Nat) (j : Nat) : Nat := if j = i / 64 then pad n f j ||| 2 ^ (i % 64) else pad n f j

theorem addF_eq1 (n : Nat) (f : Nat → Nat) (i : Nat) : (fun j => if j = i / 64 then pad n f j ||| 2 ^ (i % 64) else pad n f j) = addF n f i := rfl

theorem addF_eq2 (n : Nat) (f : Nat → Nat) (i : Nat) : (fun j => if j = i / 4096 then pad n f j ||| 2 ^ (i / 64 % 64) else pad n f j) = addF n f (i / 64) := by
  have hdd : i / 64 / 64 = i / 4096 := by omega
  funext j
  unfold addF
  rw [hdd]

theorem addN_eq2 (n i : Nat) : max n (i / 4096 + 1) = addN n (i / 64) := by
  unfold addN
  omega

/-- What a call that hands back two slices of words has done. -/
def Back (base : Nat) (w : World) (n1 : Nat) (f1 : Nat → Nat) (n2 : Nat) (f2 : Nat → Nat) (e : Ending) (w' : World) : Prop :=
  ∃ a1 c1 a2 c2 g1 g2, e = .returned (.tuple #[.slice a1 n1 c1, .slice a2 n2 c2]) ∧ Below base w w' ∧ Pair base w' (.slice a1 n1 c1) (.slice a2 n2 c2) g1 g2 n1 f1 n2 f2

set_option maxHeartbeats 1000000 in
theorem zzAdd_any (base : Nat) (w : World) (i : Nat) (a1 a2 : Option Addr) (c1 c2 : Nat) (g1 g2 : Option Nat) (n1 : Nat) (f1 : Nat → Nat) (n2 : Nat) (f2 : Nat → Nat) (hi : i < 4194304) (h1 : n1 ≤ 1048576) (h2 : n2 ≤ 1048576) (hs1 : Small n1 f1) (hs2 : Small n2 f2)
    (hbase : base ≤ w.heap.size) (h : Pair base w (.slice a1 n1 c1) (.slice a2 n2 c2) g1 g2 n1 f1 n2 f2) :
    Calls Try.prog 9 #[.slice a1 n1 c1, .slice a2 n2 c2, .int .i64 i] w fun e w' => Back base w (addN n1 i) (addF n1 f1 i) (addN n2 (i / 64)) (addF n2 f2 (i / 64)) e w' := by
  have HA := hide (add_any base (w.alloc (.cells #[.slice a1 n1 c1, .slice a2 n2 c2] 32)) w.heap.size i _ _ g1 g2 n1 f1 n2 f2 hi h1 h2 hs1 hs2 (by simp; omega) (h.box hbase))
  clear h hs1 hs2
  go_enter Try.func9, Try.ntmps9
  go_wp2_with fail
  refine HA.out.mono ?_
  rintro e w1 ⟨rfl, hb, v1, v2, g1', g2', hB⟩
  rw [addF_eq1, addF_eq2, addN_eq2, show max n1 (i / 64 + 1) = addN n1 i from rfl] at hB
  obtain ⟨a1', c1', rfl, _⟩ := hB.o1.at
  obtain ⟨a2', c2', rfl, _⟩ := hB.o2.at
  have c0 := hB.c0
  have c1 := hB.c1
  have HB := hide hB
  clear hB HA
  go_wp2
  go_quiet (fail)
  go_wp2
  go_ret2
  exact ⟨a1', c1', a2', c2', g1', g2', rfl, below_drewN (((Below.refl base w).alloc hbase _).trans hb) _, (HB.out.drewN _).pair⟩

end Go.Proofs.Qxb6603844a
