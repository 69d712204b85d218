/-
  Seat b6600485a: closedCycle (30).
-/
import Derived.Test.Qxb6600485aRev
import Derived.Test.Qxb6600485aClone
import Derived.Test.Qxb6600485aBfs
namespace Go.Proofs.Qxb6600485a
open Go.RowKit

/-- Behind the reversal of all but the first. -/
theorem own_reversed {base : Nat} {w w' : World} {g off k cap : Nat} {f f' : Nat → Int} (hg : base ≤ g) (h1 : k + 1 ≤ cap) (h2 : cap ≤ maxLen)
    (h4 : ∀ i, i < cap → (w.cell? ⟨g, off + i, none⟩).isSome = true ∧ w.frozen? ⟨g, off + i, none⟩ = false) (h5 : ∀ i, i < k + 1 → w.cell? ⟨g, off + i, none⟩ = some (.int .i64 (f i)))
    (ho : Only g (off + 1) k w w') (hr : ∀ t, t < k → w'.cell? ⟨g, off + 1 + t, none⟩ = some (.int .i64 (f (k - 1 - t + 1))))
    (e0 : f' 0 = f 0) (e1 : ∀ j, 0 < j → j < k + 1 → f' j = f (k + 1 - j)) :
    OwnSl base w' (.slice (some ⟨g, off, none⟩) (k + 1) cap) (k + 1) f' ∧ Below base w w' := by
  refine ⟨⟨_, g, off, cap, rfl, h1, h2, fun _ => ⟨rfl, hg⟩, fun i hi => ⟨?_, ?_⟩, fun i hi => ?_⟩, ⟨ho.os, ho.tape, ho.output, by rw [ho.size]; exact Nat.le_refl _, fun b hb => ho.block b (by omega)⟩⟩
  · by_cases c : i < 1 ∨ 1 + k ≤ i
    · rw [ho.out (off + i) (by omega)]; exact (h4 i hi).1
    · have := hr (i - 1) (by omega)
      rw [show off + 1 + (i - 1) = off + i by omega] at this
      rw [this]; rfl
  · rw [ho.frozen]; exact (h4 i hi).2
  · by_cases c : i < 1
    · obtain rfl : i = 0 := by omega
      rw [ho.out (off + 0) (by omega), h5 0 (by omega), e0]
    · have := hr (i - 1) (by omega)
      rw [show off + 1 + (i - 1) = off + i by omega] at this
      rw [this, e1 i (by omega) hi, show k - 1 - (i - 1) + 1 = k + 1 - i by omega]

theorem newInts_own {w w' : World} {v : Value} {n : Nat} {f : Nat → Int} (h : OwnSl w.heap.size w' v n f) (hb : Below w.heap.size w w') : NewInts w n f (.returned v) w' := by
  obtain ⟨ao, cap, rfl, hat⟩ := h.at
  exact ⟨ao, cap, rfl, hat, hb⟩

set_option maxHeartbeats 1000000 in
theorem closedCycle_any (pb po : Nat) (ai af : Option Addr) (ci cf n v k : Nat) (F : Nat → Int) (I : Nat → Int) (ch : Nat → Nat) (w : World) (hn : n ≤ 1048576) (hk : k ≤ n) (hv : v < n)
    (hg0 : w.cell? ⟨pb, po, none⟩ = some (.slice ai n ci)) (hi : IntsAt w ai n I) (hF : IntsAt w af n F) (hch : Chain n v k F ch) :
    Calls Try.prog 30 #[.pointer (some ⟨pb, po, none⟩), .slice af n cf, .int .i64 (ch 0), .int .i64 v] w fun e w' => NewInts w (k + 2) (fun j => if j ≤ k then I (ch (k - j)) else I v) e w' := by
  obtain ⟨i0, hi0, hz0, hz1, hz2⟩ := info_parts Try.info3
  obtain ⟨bi, offi, rfl, hci⟩ := hi v hv
  go_enter Try.func30, Try.ntmps30
  go_wp2
  go_loopg [9, 10] k (fun m ids u wr => ∃ s : Nat, s + m = k ∧ u = .int .i64 (ch s) ∧ OwnSl w.heap.size wr ids (s + 1) (fun j => if j = 0 then I v else I (ch (j - 1))) ∧ Below w.heap.size w wr)
  case atStart => exact ⟨0, by omega, rfl, OwnSl.one _ _ _ _ (Nat.le_refl _) rfl, (Below.refl _ _).alloc (Nat.le_refl _) _⟩
  case round =>
    obtain ⟨s, hs, rfl, hown, hb⟩ := hrel
    have HI := hide hi
    have HF := hide hF
    have HC := hide hch
    have hsz := hb.size
    have hp0 : wr.cell? ⟨pb, po, none⟩ = some (.slice (some ⟨bi, offi, none⟩) n ci) := (hb.cell (p := ⟨pb, po, none⟩) (World.block_lt_of_cell? _ _ hg0)).trans hg0
    clear hi hF hch
    by_cases hlt : s < k
    · obtain ⟨hne, hx, hFx⟩ := HC.out.step s hlt
      have HX : Hid (ch s = ch s) := rfl
      have hne' : (((ch s : Nat) : Int) != (v : Int)) = true := by simp; omega
      obtain ⟨bi2, offi2, e2, hci2⟩ := HI.out (ch s) hx
      simp only [Option.some.injEq, Addr.mk.injEq, and_true] at e2
      obtain ⟨rfl, rfl⟩ := e2
      obtain ⟨bf, offf, rfl, hcf⟩ := HF.out (ch s) hx
      rw [hFx] at hcf
      have hc4 : wr.cell? ⟨bi, offi + ch s, none⟩ = some (.int .i64 (I (ch s))) := (hb.cell (p := ⟨bi, offi + ch s, none⟩) (World.block_lt_of_cell? _ _ hci2)).trans hci2
      have hltf := World.block_lt_of_cell? _ _ hcf
      have HCF := hide hcf
      clear hci2 hcf hFx hci
      go_wp2_with (at_builtin; refine wpList_push1 w.heap.size _ rfl (.tmp 27) (.tmp 35) 22 rfl i0 Try.underlying22 hi0 hz0 hz1 hz2 hown rfl (I (ch s)) rfl rfl (fun j => if j = 0 then I v else I (ch (j - 1))) (fun _ _ => rfl) (if_neg (Nat.succ_ne_zero s)) (by omega) hsz ?_)
      intro v' w' hown' hb'
      have hb2 : Below w.heap.size w w' := hb.trans hb'
      have hc5 : w'.cell? ⟨bf, offf + ch s, none⟩ = some (.int .i64 (ch (s + 1))) := (hb2.cell (p := ⟨bf, offf + ch s, none⟩) hltf).trans HCF.out
      clear hown hc4 hp0
      go_wp2
      go_roundg (gk - 1)
      case measure => omega
      case rel => exact ⟨s + 1, by omega, rfl, hown', hb2⟩
    · obtain rfl : s = k := by omega
      have hkv := HC.out.last
      rw [hkv]
      have HK := hide hkv
      clear hkv
      obtain ⟨ao, g, off, cap, e0, h1, h2, h3, h4, h5⟩ := hown
      obtain ⟨rfl, hg⟩ := h3 (by omega)
      subst e0
      clear h3
      by_cases hcap : cap = 1
      · subst hcap
        obtain rfl : s = 0 := by omega
        go_wp2_with fail
        refine (reverse_any _ g (off + 1) 0 _ (fun i => if i + 1 = 0 then I v else I (ch (i + 1 - 1))) _ (by omega) (fun h => absurd h (Nat.not_lt_zero _)) (fun i hi => by rw [show off + 1 + i = off + (i + 1) by omega]; exact h5 (i + 1) (by omega)) (fun i hi => by rw [show off + 1 + i = off + (i + 1) by omega]; exact (h4 (i + 1) (by omega)).2)).mono ?_
        rintro e w1 ⟨rfl, ho, hr⟩
        obtain ⟨hown, hb1⟩ := own_reversed (f := fun j => if j = 0 then I v else I (ch (j - 1))) (f' := fun j => if j ≤ 0 then I (ch (0 - j)) else I v) hg h1 h2 h4 h5 ho hr (by simp [HK.out]) (fun j h6 h7 => by
          show (if j ≤ 0 then I (ch (0 - j)) else I v) = (if 0 + 1 - j = 0 then I v else I (ch (0 + 1 - j - 1)))
          rw [if_pos (by omega), if_neg (by omega), show 0 + 1 - j - 1 = 0 - j by omega])
        have hb2 : Below w.heap.size w w1 := hb.trans hb1
        have hsz2 := hb2.size
        have hp1 : w1.cell? ⟨pb, po, none⟩ = some (.slice (some ⟨bi, offi, none⟩) n ci) := (hb2.cell (p := ⟨pb, po, none⟩) (World.block_lt_of_cell? _ _ hg0)).trans hg0
        have hc6 : w1.cell? ⟨bi, offi + v, none⟩ = some (.int .i64 (I v)) := (hb2.cell (p := ⟨bi, offi + v, none⟩) (World.block_lt_of_cell? _ _ hci)).trans hci
        clear h4 h5 ho hr hp0 hci hg0
        go_wp2_with (at_builtin; refine wpList_push1 w.heap.size _ rfl (.tmp 40) (.tmp 48) 22 rfl i0 Try.underlying22 hi0 hz0 hz1 hz2 hown rfl (I v) rfl rfl (fun j => if j ≤ 0 then I (ch (0 - j)) else I v) (fun _ _ => rfl) (if_neg (by omega)) (by omega) hsz2 ?_)
        intro v' w' hown' hb'
        go_wp2
        go_ret
        exact newInts_own (hown'.congr (fun j _ => by by_cases e : j = 0 <;> simp [e])) (hb2.trans hb')
      · go_wp2_with fail
        refine (reverse_any _ g (off + 1) s _ (fun i => if i + 1 = 0 then I v else I (ch (i + 1 - 1))) _ (by omega) (fun _ => rfl) (fun i hi => by rw [show off + 1 + i = off + (i + 1) by omega]; exact h5 (i + 1) (by omega)) (fun i hi => by rw [show off + 1 + i = off + (i + 1) by omega]; exact (h4 (i + 1) (by omega)).2)).mono ?_
        rintro e w1 ⟨rfl, ho, hr⟩
        obtain ⟨hown, hb1⟩ := own_reversed (f := fun j => if j = 0 then I v else I (ch (j - 1))) (f' := fun j => if j ≤ s then I (ch (s - j)) else I v) hg h1 h2 h4 h5 ho hr (by simp [HK.out]) (fun j h6 h7 => by
          show (if j ≤ s then I (ch (s - j)) else I v) = (if s + 1 - j = 0 then I v else I (ch (s + 1 - j - 1)))
          rw [if_pos (by omega), if_neg (by omega), show s + 1 - j - 1 = s - j by omega])
        have hb2 : Below w.heap.size w w1 := hb.trans hb1
        have hsz2 := hb2.size
        have hp1 : w1.cell? ⟨pb, po, none⟩ = some (.slice (some ⟨bi, offi, none⟩) n ci) := (hb2.cell (p := ⟨pb, po, none⟩) (World.block_lt_of_cell? _ _ hg0)).trans hg0
        have hc6 : w1.cell? ⟨bi, offi + v, none⟩ = some (.int .i64 (I v)) := (hb2.cell (p := ⟨bi, offi + v, none⟩) (World.block_lt_of_cell? _ _ hci)).trans hci
        clear h4 h5 ho hr hp0 hci hg0
        go_wp2_with (at_builtin; refine wpList_push1 w.heap.size _ rfl (.tmp 40) (.tmp 48) 22 rfl i0 Try.underlying22 hi0 hz0 hz1 hz2 hown rfl (I v) rfl rfl (fun j => if j ≤ s then I (ch (s - j)) else I v) (fun _ _ => rfl) (if_neg (by omega)) (by omega) hsz2 ?_)
        intro v' w' hown' hb'
        go_wp2
        go_ret
        exact newInts_own hown' (hb2.trans hb')

end Go.Proofs.Qxb6600485a
