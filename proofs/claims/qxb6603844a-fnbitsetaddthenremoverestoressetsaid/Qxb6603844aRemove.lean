/-
  Seat b6603844a: (*bitset).remove (18), ZZBitsetRemove (15), and the plain laws of remove behind add.
-/
import Derived.Test.Qxb6603844aPlain
namespace Go.Proofs.Qxb6603844a
open Go.RowKit

/-- The words without i's bit. -/
def remF (f : Nat → Nat) (i : Nat) (j : Nat) : Nat := if j = i / 64 then andn (f j) (i % 64) else f j

/-- The marks behind remove: word i/64's mark goes where the word is nought. -/
def remG (f g : Nat → Nat) (i : Nat) (j : Nat) : Nat := if remF f i (i / 64) = 0 then remF g (i / 64) j else g j

/-- What remove has done. -/
def Removed (base : Nat) (w : World) (pb i n1 : Nat) (f1 : Nat → Nat) (n2 : Nat) (f2 : Nat → Nat) (v1 v2 : Value) (g1 g2 : Option Nat) (e : Ending) (w' : World) : Prop :=
  e = .returned (.tuple #[]) ∧ Below base w w' ∧ Bs base w' pb v1 v2 g1 g2 n1 (remF f1 i) n2 (remG f1 f2 i)

theorem remF_mk {base : Nat} {W : World} {pb i n m : Nat} {f1 F2 : Nat → Nat} {v1 v2 : Value} {g1 g2 : Option Nat}
    (h : Bs base W pb v1 v2 g1 g2 n (fun j => if j = i / 64 then andn (f1 (i / 64)) (i % 64) else f1 j) m F2) : Bs base W pb v1 v2 g1 g2 n (remF f1 i) m F2 := by
  have e1 : (fun j => if j = i / 64 then andn (f1 (i / 64)) (i % 64) else f1 j) = remF f1 i := by
    funext j
    unfold remF
    by_cases e : j = i / 64
    · rw [if_pos e, if_pos e, e]
    · rw [if_neg e, if_neg e]
  rw [e1] at h
  exact h

theorem remG_mk {base : Nat} {W : World} {pb i n m : Nat} {F1 f1 f2 : Nat → Nat} {v1 v2 : Value} {g1 g2 : Option Nat} (h0 : andn (f1 (i / 64)) (i % 64) = 0)
    (h : Bs base W pb v1 v2 g1 g2 n F1 m (fun j => if j = i / 64 / 64 then andn (f2 (i / 64 / 64)) (i / 64 % 64) else f2 j)) : Bs base W pb v1 v2 g1 g2 n F1 m (remG f1 f2 i) := by
  have e1 : (fun j => if j = i / 64 / 64 then andn (f2 (i / 64 / 64)) (i / 64 % 64) else f2 j) = remG f1 f2 i := by
    funext j
    have hz : remF f1 i (i / 64) = 0 := by unfold remF; rw [if_pos rfl]; exact h0
    unfold remG
    rw [if_pos hz]
    unfold remF
    by_cases e : j = i / 64 / 64
    · rw [if_pos e, if_pos e, e]
    · rw [if_neg e, if_neg e]
  rw [e1] at h
  exact h

theorem remG_keep {f1 f2 : Nat → Nat} {i : Nat} (h0 : andn (f1 (i / 64)) (i % 64) ≠ 0) : f2 = remG f1 f2 i := by
  funext j
  have hz : ¬ remF f1 i (i / 64) = 0 := by unfold remF; rw [if_pos rfl]; exact h0
  unfold remG
  rw [if_neg hz]

set_option maxHeartbeats 2000000 in
set_option maxRecDepth 100000 in
theorem remove_any (base : Nat) (w : World) (pb i : Nat) (v1 v2 : Value) (g1 g2 : Option Nat) (n1 : Nat) (f1 : Nat → Nat) (n2 : Nat) (f2 : Nat → Nat) (hi : i < 4194304) (hi1 : i / 64 < n1) (hi2 : i / 64 / 64 < n2)
    (h : Bs base w pb v1 v2 g1 g2 n1 f1 n2 f2) :
    Calls Try.prog 18 #[.pointer (some ⟨pb, 0, none⟩), .int .i64 i] w fun e w' => Removed base w pb i n1 f1 n2 f2 v1 v2 g1 g2 e w' := by
  obtain ⟨b1, off1, cp1, rfl, hne1, hc1, hz1', hset1⟩ := bs_set1 h (k := i / 64) hi1
  have HSet1 := hide hset1
  have c0 := h.c0
  have HVal := hide (andn_pow (f1 (i / 64)) (i % 64) (by omega))
  have hki : (i : Int) / 64 < (n1 : Int) := by omega
  have hki2 : (i : Int) / 64 / 64 < (n2 : Int) := by omega
  clear h hset1
  go_enter Try.func18, Try.ntmps18
  go_wp2
  go_region
  rw [HVal.out]
  obtain ⟨R1, R2⟩ := HSet1.out (andn (f1 (i / 64)) (i % 64))
  have R1' := R1.same (wr := (w.setCell ⟨b1, off1 + i / 64, none⟩ (.int .u64 ((andn (f1 (i / 64)) (i % 64) : Nat) : Int))).drew) rfl
  have R2' := R2.drew
  have hc1' : (w.setCell ⟨b1, off1 + i / 64, none⟩ (.int .u64 ((andn (f1 (i / 64)) (i % 64) : Nat) : Int))).drew.cell? ⟨b1, off1 + i / 64, none⟩ = some (.int .u64 ((andn (f1 (i / 64)) (i % 64) : Nat) : Int)) := World.cell?_setCell_same _ _ _ hc1
  clear R1 R2 HSet1 c0 hc1 hz1' HVal
  generalize (w.setCell ⟨b1, off1 + i / 64, none⟩ (.int .u64 ((andn (f1 (i / 64)) (i % 64) : Nat) : Int))).drew = W2 at R1' R2' hc1' ⊢
  obtain ⟨b2, off2, cp2, rfl, hne2, hc2, hz2', hset2⟩ := bs_set2 R1' (k := i / 64 / 64) hi2
  have HSet2 := hide hset2
  have c0 := R1'.c0
  have c1 := R1'.c1
  have HVal := hide (andn_pow (f2 (i / 64 / 64)) (i / 64 % 64) (by omega))
  have HR1 := hide R1'
  clear hset2 R1'
  by_cases hx : andn (f1 (i / 64)) (i % 64) = 0
  · have hx' : (((andn (f1 (i / 64)) (i % 64) : Nat) : Int) == 0) = true := by simp [hx]
    have HX := hide hx
    clear hx
    go_wp2
    go_region
    rw [HVal.out]
    obtain ⟨R1, R2⟩ := HSet2.out (andn (f2 (i / 64 / 64)) (i / 64 % 64))
    go_wp2
    go_end0
    exact ⟨rfl, (R2'.trans R2).drew, remG_mk HX.out (remF_mk (R1.same rfl))⟩
  · have hx' : (((andn (f1 (i / 64)) (i % 64) : Nat) : Int) == 0) = false := by simp; omega
    have HX := hide hx
    clear hx
    go_wp2
    go_end0
    refine ⟨rfl, R2', ?_⟩
    rw [← remG_keep HX.out]
    exact remF_mk HR1.out

set_option maxHeartbeats 1000000 in
theorem zzRemove_any (base : Nat) (w : World) (i : Nat) (a1 a2 : Option Addr) (c1 c2 : Nat) (g1 g2 : Option Nat) (n1 : Nat) (f1 : Nat → Nat) (n2 : Nat) (f2 : Nat → Nat) (hi : i < 4194304) (hi1 : i / 64 < n1) (hi2 : i / 64 / 64 < n2)
    (hbase : base ≤ w.heap.size) (h : Pair base w (.slice a1 n1 c1) (.slice a2 n2 c2) g1 g2 n1 f1 n2 f2) :
    Calls Try.prog 15 #[.slice a1 n1 c1, .slice a2 n2 c2, .int .i64 i] w fun e w' => Back base w n1 (remF f1 i) n2 (remG f1 f2 i) e w' := by
  have HA := hide (remove_any base (w.alloc (.cells #[.slice a1 n1 c1, .slice a2 n2 c2] 32)) w.heap.size i _ _ g1 g2 n1 f1 n2 f2 hi hi1 hi2 (h.box hbase))
  clear h
  go_enter Try.func15, Try.ntmps15
  go_wp2_with fail
  refine HA.out.mono ?_
  rintro e w1 ⟨rfl, hb, hB⟩
  have k0 := hB.c0
  have k1 := hB.c1
  have HB := hide hB
  clear hB HA
  go_wp2
  go_quiet (fail)
  go_wp2
  go_ret2
  exact ⟨a1, c1, a2, c2, g1, g2, rfl, below_drewN (((Below.refl base w).alloc hbase _).trans hb) _, (HB.out.drewN _).pair⟩

theorem bit_rem (N : Nat) (F : Nat → Nat) (i j : Nat) : bitAt N (remF F i) j = (bitAt N F j && !decide (j = i)) := by
  have ej : decide (j = i) = (decide (j / 64 = i / 64) && decide (j % 64 = i % 64)) := by
    rw [Bool.eq_iff_iff]; simp; omega
  rw [ej]
  unfold bitAt remF
  by_cases e : j / 64 = i / 64
  · rw [if_pos e, testBit_andn _ _ _ (by omega)]
    simp [e, Bool.and_assoc]
  · rw [if_neg e]; simp [e]

theorem remF_small {n i : Nat} {f : Nat → Nat} (h : Small n f) : Small n (remF f i) := by
  intro j hj
  unfold remF
  by_cases e : j = i / 64
  · rw [if_pos e]; exact andn_lt _ _
  · rw [if_neg e]; exact h j hj

theorem remG_small {n i : Nat} {f g : Nat → Nat} (h : Small n g) : Small n (remG f g i) := by
  intro j hj
  unfold remG
  by_cases e : remF f i (i / 64) = 0
  · rw [if_pos e]; exact remF_small h j hj
  · rw [if_neg e]; exact h j hj

section
variable {nw nn i : Nat} {f g : Nat → Nat}

/-- add then remove: the old members. -/
theorem bit_back (h0 : bitAt nw f i = false) (j : Nat) : bitAt (addN nw i) (remF (addF nw f i) i) j = bitAt nw f j := by
  rw [bit_rem, bit_add]
  by_cases e : j = i
  · subst e; simp [h0]
  · simp [e]

/-- .. and the old words, nought behind them. -/
theorem word_back (hs : Small nw f) (h0 : bitAt nw f i = false) (q : Nat) (hq : q < addN nw i) : remF (addF nw f i) i q = pad nw f q := by
  apply eq_of_bits
  · exact remF_small (addF_small hs) q hq
  · exact pad_small (m := addN nw i) hs q hq
  · intro t ht
    have h := bit_back (i := i) h0 (64 * q + t)
    have e1 : (64 * q + t) / 64 = q := by omega
    have e2 : (64 * q + t) % 64 = t := by omega
    unfold bitAt at h
    rw [e1, e2] at h
    rw [pad_bit, ← h]
    simp [hq]

theorem mark_old (h : WF nw f nn g) (m : Nat) : bitAt nn g m = (decide (m < nw) && decide (f m ≠ 0)) := by
  by_cases hmn : m < 64 * nn
  · exact h.2 m hmn
  · have h1 := h.1
    have h2 : ¬ m / 64 < nn := by omega
    have h3 : ¬ m < nw := by omega
    unfold bitAt
    simp [h2, h3]

theorem mark_back (hs : Small nw f) (h : WF nw f nn g) (h0 : bitAt nw f i = false) (m : Nat) : bitAt (addN nn (i / 64)) (remG (addF nw f i) (addF nn g (i / 64)) i) m = bitAt nn g m := by
  have hk := word_back hs h0 (i / 64) (addN_ge nw i).2
  have hold := mark_old h (i / 64)
  by_cases e : remF (addF nw f i) i (i / 64) = 0
  · have eg : remG (addF nw f i) (addF nn g (i / 64)) i = remF (addF nn g (i / 64)) (i / 64) := by
      funext j
      unfold remG
      rw [if_pos e]
    rw [eg, bit_rem, bit_add]
    by_cases em : m = i / 64
    · subst em
      rw [e] at hk
      rw [hold]
      unfold pad at hk
      by_cases h3 : i / 64 < nw
      · rw [if_pos h3] at hk; simp [← hk]
      · simp [h3]
    · simp [em]
  · have eg : remG (addF nw f i) (addF nn g (i / 64)) i = addF nn g (i / 64) := by
      funext j
      unfold remG
      rw [if_neg e]
    rw [eg, bit_add]
    by_cases em : m = i / 64
    · subst em
      rw [hk] at e
      rw [hold]
      unfold pad at e
      by_cases h3 : i / 64 < nw
      · rw [if_pos h3] at e; simp [h3, e]
      · rw [if_neg h3] at e; exact absurd rfl e
    · simp [em]

theorem wf_back (hs : Small nw f) (h : WF nw f nn g) (h0 : bitAt nw f i = false) : WF (addN nw i) (remF (addF nw f i) i) (addN nn (i / 64)) (remG (addF nw f i) (addF nn g (i / 64)) i) := by
  refine ⟨(wf_add (i := i) h).1, fun m _ => ?_⟩
  rw [mark_back hs h h0, mark_old h]
  have hge := addN_ge nw i
  by_cases h4 : m < addN nw i
  · rw [word_back hs h0 m h4]
    unfold pad
    by_cases h3 : m < nw
    · simp [h3, h4]
    · simp [h3]
  · have h3 : ¬ m < nw := by omega
    simp [h3, h4]

end
end Go.Proofs.Qxb6603844a
