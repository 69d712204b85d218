/-
  Seat b6601053a: FnHex4Exact (4) at every input.
-/
import Derived.Test.Qxb6601053aLaw
namespace Go.Proofs.Qxb6601053a
open Go.RowKit

set_option maxRecDepth 100000 in
set_option maxHeartbeats 2000000 in
theorem law4_nil (c at_ : Nat) (f : Nat → Nat) (w : World) (hat : at_ ≤ 1048576) :
    Calls Try.prog 4 #[.slice none 0 c, .int .i64 at_] w fun e w' => Holds w e w' := by
  have q27 := fun a l c w => run_neq_slice_nil (P := Try.prog) w 27 5 a l c Try.underlying27
  have HG := hide (zzBytes12_any none 0 c at_ w (by omega))
  have hx : hex4 f 0 at_ = none := by unfold hex4; rw [if_neg (fun h => by omega)]
  have hz := zzhex4_any none 0 c at_ f w (by omega) (by omega) hat (fun j hj => absurd hj (Nat.not_lt_zero _)) (fun j hj => absurd hj (Nat.not_lt_zero _))
  rw [hx] at hz
  have HZ := hide hz
  have h6' : decide ((at_ : Int) ≤ 0 - 6) = false := by simp; omega
  have h6'' : decide ((at_ : Int) ≤ -6) = false := by simp; omega
  clear hx hz
  go_enter Try.func4, Try.ntmps4
  go_wp2_with fail
  refine HG.out.mono ?_
  rintro e w' ⟨b, rfl, rfl⟩
  cases b with
  | false =>
    go_wp2
    go_ret
    exact ⟨rfl, Below.refl _ _⟩
  | true =>
    go_wp2_with fail
    refine HZ.out.mono ?_
    rintro e w3 ⟨rfl, hB⟩
    have HB := hide hB
    clear HZ hB
    go_wp2
    go_ret
    exact ⟨rfl, HB.out⟩

set_option maxRecDepth 100000 in
set_option maxHeartbeats 2000000 in
theorem law4_any (a : Option Addr) (n c : Nat) (i : Int) (f : Nat → Nat) (w : World) (hn : n ≤ 9223372036854775807) (h : BytesAt w a n f) (hs : Small n f) :
    Calls Try.prog 4 #[.slice a n c, .int .i64 i] w fun e w' => Holds w e w' := by
  by_cases h1 : n ≤ 1048576
  · by_cases h2 : 0 ≤ i
    · by_cases h3 : i ≤ 1048576
      · obtain ⟨at_, rfl⟩ := Int.eq_ofNat_of_zero_le h2
        cases a with
        | none =>
          obtain rfl := h.nil
          exact law4_nil c at_ f w (by omega)
        | some A => exact law4_some A n c at_ f w h1 (by omega) h hs
      · have HG := hide (zzBytes12_any a n c i w (by omega))
        have h3' : decide ((1048576 : Int) < i) = true := by simp; omega
        clear h hs
        go_enter Try.func4, Try.ntmps4
        go_wp2_with fail
        refine HG.out.mono ?_
        rintro e w' ⟨b, rfl, rfl⟩
        cases b with
        | false =>
          go_wp2
          go_ret
          exact ⟨rfl, Below.refl _ _⟩
        | true =>
          go_wp2
          go_ret
          exact ⟨rfl, Below.refl _ _⟩
    · have HG := hide (zzBytes12_any a n c i w (by omega))
      clear h hs
      go_enter Try.func4, Try.ntmps4
      go_wp2_with fail
      refine HG.out.mono ?_
      rintro e w' ⟨b, rfl, rfl⟩
      cases b with
      | false =>
        go_wp2
        go_ret
        exact ⟨rfl, Below.refl _ _⟩
      | true =>
        go_wp2
        go_ret
        exact ⟨rfl, Below.refl _ _⟩
  · have HG := hide (zzBytes12_any a n c i w hn)
    clear h hs
    go_enter Try.func4, Try.ntmps4
    go_wp2_with fail
    refine HG.out.mono ?_
    rintro e w' ⟨b, rfl, rfl⟩
    cases b with
    | false =>
      go_wp2
      go_ret
      exact ⟨rfl, Below.refl _ _⟩
    | true =>
      go_wp2
      go_ret
      exact ⟨rfl, Below.refl _ _⟩

end Go.Proofs.Qxb6601053a
