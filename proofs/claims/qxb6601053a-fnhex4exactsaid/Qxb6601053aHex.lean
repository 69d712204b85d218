/-
  Seat b6601053a: (*Decoder).hex4 (24), ZZhex4 (13).
-/
import Derived.Test.Qxb6601053aDigit
namespace Go.Proofs.Qxb6601053a
open Go.RowKit

/-- What hex4 answers. -/
def SaysHex4 (x : Option Nat) (w : World) (e : Ending) (w' : World) : Prop :=
  e = .returned (.tuple #[.int .i32 ((x.getD 0 : Nat) : Int), .bool x.isSome]) ∧ w' = w

theorem saysHex4_yes {x : Option Nat} {v : Nat} {w : World} (h : x = some v) : SaysHex4 x w (.returned (.tuple #[.int .i32 (v : Int), .bool true])) w := by
  subst h; exact ⟨rfl, rfl⟩

theorem saysHex4_no {x : Option Nat} {w : World} (h : x = none) : SaysHex4 x w (.returned (.tuple #[.int .i32 0, .bool false])) w := by
  subst h; exact ⟨rfl, rfl⟩

theorem or_hex {r h : Nat} {y : Int} (hr : r < 65536) (hh : h < 16) (hy : y = (h : Int)) : Value.int .i32 (bits .or .i32 ((r : Int) * 16) y) = .int .i32 ((r * 16 + h : Nat) : Int) := by
  subst hy
  congr 1
  show IntKind.i32.wrap ((BitVec.ofInt 32 ((r : Int) * 16) ||| BitVec.ofInt 32 (h : Int)).toNat : Int) = _
  have e : ((r : Int) * 16) = ((r * 16 : Nat) : Int) := by omega
  have k : r * 16 ||| h = r * 16 + h := by
    have := Nat.two_pow_add_eq_or_of_lt (i := 4) (b := h) (by omega) r
    rw [show 2 ^ 4 * r = r * 16 by omega] at this
    exact this.symm
  rw [e, BitVec.toNat_or, BitVec.ofInt_natCast, BitVec.ofInt_natCast, BitVec.toNat_ofNat, BitVec.toNat_ofNat, Nat.mod_eq_of_lt (by omega), Nat.mod_eq_of_lt (by omega), k, IntKind.wrap_i32]
  omega

set_option maxRecDepth 100000 in
set_option maxHeartbeats 2000000 in
theorem hex4_any (d o : Nat) (a : Option Addr) (n c : Nat) (at_ : Nat) (f : Nat → Nat) (w : World) (_hn : n ≤ 1048576) (hnc : n ≤ c) (hat : at_ ≤ 1048576) (hd : w.cell? ⟨d, o, none⟩ = some (.slice a n c)) (h : BytesAt w a n f) (hs : Small n f) :
    Calls Try.prog 24 #[.pointer (some ⟨d, o, none⟩), .int .i64 at_] w fun e w' => SaysHex4 (hex4 f n at_) w e w' := by
  by_cases h6 : at_ + 6 ≤ n
  · obtain ⟨b, off, rfl, hc0⟩ := h at_ (by omega)
    have hc1 : w.cell? ⟨b, off + (at_ + 1), none⟩ = some (.int .u8 (f (at_ + 1) : Int)) := by
      obtain ⟨b', off', e, hc⟩ := h (at_ + 1) (by omega)
      cases e; exact hc
    have hcd : ∀ m, m < 4 → w.cell? ⟨b, off + (at_ + 2) + m, none⟩ = some (.int .u8 (f (at_ + 2 + m) : Int)) ∧ f (at_ + 2 + m) < 256 := by
      intro m hm
      obtain ⟨b', off', e, hc⟩ := h (at_ + 2 + m) (by omega)
      cases e
      refine ⟨?_, hs _ (by omega)⟩
      rw [← hc]; congr 2; omega
    have HD := hide hcd
    have h6' : decide ((n : Int) < (at_ : Int) + 6) = false := by simp; omega
    clear hcd hs h
    by_cases e0 : f at_ = 92
    · by_cases e1 : f (at_ + 1) = 117
      · have hx : hex4 f n at_ = hexs f (at_ + 2) 4 := by unfold hex4; rw [if_pos ⟨h6, e0, e1⟩]
        rw [hx]
        rw [e0] at hc0
        rw [e1] at hc1
        clear hx e0 e1
        go_enter Try.func24, Try.ntmps24
        go_wp2
        rw [show at_ + 6 - (at_ + 2) = 4 by omega]
        go_loopg [48, 6] 4 (fun k i rr wr => ∃ m r : Nat, m + k = 4 ∧ i = .int .i64 m ∧ rr = .int .i32 r ∧ wr = w ∧ hexs f (at_ + 2) m = some r)
        case atStart => exact ⟨0, 0, by omega, rfl, rfl, rfl, rfl⟩
        case round =>
          obtain ⟨m, r, hm, rfl, rfl, rfl, hp⟩ := hrel
          have HP := hide hp
          clear hc0 hc1 hp h6'
          by_cases hlt : m < 4
          · obtain ⟨hcm, hx⟩ := HD.out m hlt
            have hr : r < 65536 := by
              have h1 := hexs_lt HP.out
              have h2 : 16 ^ m ≤ 16 ^ 3 := Nat.pow_le_pow_right (by decide) (by omega)
              have h3 : 16 ^ 3 = 4096 := by decide
              omega
            have YES : Hid (∀ v, hexv (f (at_ + 2 + m)) = some v → hexs f (at_ + 2) (m + 1) = some (r * 16 + v)) := fun v hv => hexs_yes HP.out hv
            have NO : Hid (hexv (f (at_ + 2 + m)) = none → hexs f (at_ + 2) 4 = none) := fun hv => hexs_stay (hexs_no hv) 4 (by omega)
            generalize f (at_ + 2 + m) = x at *
            have HI := hide (isDigit_any x wr hx)
            clear HP HD
            by_cases q1 : 48 ≤ x ∧ x ≤ 57
            · rw [show decide (48 ≤ x ∧ x ≤ 57) = true by simp; omega] at HI
              have hv : hexv x = some (x - 48) := by unfold hexv; rw [if_pos q1]
              have Y := hide (YES.out _ hv)
              clear YES NO hv
              go_wp2_with (go_at_call 26; refine HI.out.mono ?_; rintro e w' ⟨rfl, rfl⟩)
              go_roundg (gk - 1)
              case measure => omega
              case rel => exact ⟨m + 1, _, by omega, by go_num, or_hex hr (by omega) (by omega), rfl, Y.out⟩
            · rw [show decide (48 ≤ x ∧ x ≤ 57) = false by simp; omega] at HI
              by_cases q2 : 97 ≤ x
              · by_cases q3 : x ≤ 102
                · have hv : hexv x = some (x - 87) := by unfold hexv; rw [if_neg q1, if_pos ⟨q2, q3⟩]
                  have q3' : decide ((x : Int) ≤ 102) = true := by simp; omega
                  have Y := hide (YES.out _ hv)
                  clear YES NO hv q1
                  go_wp2_with (go_at_call 26; refine HI.out.mono ?_; rintro e w' ⟨rfl, rfl⟩)
                  go_roundg (gk - 1)
                  case measure => omega
                  case rel => exact ⟨m + 1, _, by omega, by go_num, or_hex hr (by omega) (by omega), rfl, Y.out⟩
                · have hv : hexv x = none := by unfold hexv; rw [if_neg q1, if_neg (by omega), if_neg (by omega)]
                  have q3' : decide ((x : Int) ≤ 102) = false := by simp; omega
                  have q4' : decide ((x : Int) ≤ 70) = false := by simp; omega
                  have N := hide (NO.out hv)
                  clear YES NO hv q1
                  go_wp2_with (go_at_call 26; refine HI.out.mono ?_; rintro e w' ⟨rfl, rfl⟩)
                  go_ret2
                  exact saysHex4_no N.out
              · by_cases q4 : 65 ≤ x
                · by_cases q5 : x ≤ 70
                  · have hv : hexv x = some (x - 55) := by unfold hexv; rw [if_neg q1, if_neg (by omega), if_pos ⟨q4, q5⟩]
                    have q5' : decide ((x : Int) ≤ 70) = true := by simp; omega
                    have Y := hide (YES.out _ hv)
                    clear YES NO hv q1
                    go_wp2_with (go_at_call 26; refine HI.out.mono ?_; rintro e w' ⟨rfl, rfl⟩)
                    go_roundg (gk - 1)
                    case measure => omega
                    case rel => exact ⟨m + 1, _, by omega, by go_num, or_hex hr (by omega) (by omega), rfl, Y.out⟩
                  · have hv : hexv x = none := by unfold hexv; rw [if_neg q1, if_neg (by omega), if_neg (by omega)]
                    have q5' : decide ((x : Int) ≤ 70) = false := by simp; omega
                    have N := hide (NO.out hv)
                    clear YES NO hv q1
                    go_wp2_with (go_at_call 26; refine HI.out.mono ?_; rintro e w' ⟨rfl, rfl⟩)
                    go_ret2
                    exact saysHex4_no N.out
                · have hv : hexv x = none := by unfold hexv; rw [if_neg q1, if_neg (by omega), if_neg (by omega)]
                  have N := hide (NO.out hv)
                  clear YES NO hv q1
                  go_wp2_with (go_at_call 26; refine HI.out.mono ?_; rintro e w' ⟨rfl, rfl⟩)
                  go_ret2
                  exact saysHex4_no N.out
          · go_wp2
            go_ret2
            obtain rfl : m = 4 := by omega
            exact saysHex4_yes HP.out
      · have hx : hex4 f n at_ = none := by unfold hex4; rw [if_neg (fun h => e1 h.2.2)]
        have HX := hide hx
        have e1' : ((f (at_ + 1) : Int) != 117) = true := by simp; omega
        rw [e0] at hc0
        clear hx e0 e1
        go_enter Try.func24, Try.ntmps24
        go_wp2
        go_ret2
        exact saysHex4_no HX.out
    · have hx : hex4 f n at_ = none := by unfold hex4; rw [if_neg (fun h => e0 h.2.1)]
      have HX := hide hx
      have e0' : ((f at_ : Int) != 92) = true := by simp; omega
      clear hx e0
      go_enter Try.func24, Try.ntmps24
      go_wp2
      go_ret2
      exact saysHex4_no HX.out
  · have hx : hex4 f n at_ = none := by unfold hex4; rw [if_neg (fun h => h6 h.1)]
    have HX := hide hx
    have h6' : decide ((n : Int) < (at_ : Int) + 6) = true := by simp; omega
    clear hx hs h
    go_enter Try.func24, Try.ntmps24
    go_wp2
    go_ret2
    exact saysHex4_no HX.out

set_option maxRecDepth 100000 in
set_option maxHeartbeats 2000000 in
theorem zzhex4_any (a : Option Addr) (n c : Nat) (at_ : Nat) (f : Nat → Nat) (w : World) (hn : n ≤ 1048576) (hnc : n ≤ c) (hat : at_ ≤ 1048576) (h : BytesAt w a n f) (hs : Small n f) :
    Calls Try.prog 13 #[.slice a n c, .int .i64 at_] w fun e w' => e = .returned (.tuple #[.int .i32 (((hex4 f n at_).getD 0 : Nat) : Int), .bool (hex4 f n at_).isSome]) ∧ Below w.heap.size w w' := by
  have H := hide h
  have HS := hide hs
  clear h hs
  go_enter Try.func13, Try.ntmps13
  go_wp2_with fail
  refine (hex4_any w.heap.size 0 a n c at_ f _ hn hnc hat (by simp) (H.out.below ((Below.refl _ _).alloc (Nat.le_refl _) _)) HS.out).mono ?_
  rintro e w' ⟨rfl, rfl⟩
  clear H HS
  go_wp2
  go_ret2
  exact ⟨rfl, (Below.refl _ _).alloc (Nat.le_refl _) _⟩

end Go.Proofs.Qxb6601053a
