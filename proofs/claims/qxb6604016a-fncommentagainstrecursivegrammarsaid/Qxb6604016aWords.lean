/-
  Seat b6604016a: the walks of isMailText (15), zzIsCommentText (13), zzCommentRest (10), quotedPair (14), comment (12), ZZComment (9), the guard (8).
-/
import Derived.Test.Qxb6604016aRows
import Derived.Test.Qxb6604016aPlain
import Derived.WalkKit
import Derived.WalkSpells
import Derived.WalkLawsBesides
import Derived.Deep.LoopGhost
import Derived.Deep.OwnRows
import Derived.Deep.QuietTactic
import Derived.BigQuiet
import Derived.BigRegion
namespace Go.Proofs.Qxb6604016a
open Go.RowKit

theorem hide {p : Prop} (h : p) : Hid p := h

/-- Byte p of s. -/
def byt (s : ByteArray) (p : Nat) : Nat := if h : p < s.size then (s[p]'h).toNat else 0

theorem byt_eq (s : ByteArray) (p : Nat) (h : p < s.size) : (s[p]'h).toNat = byt s p := by unfold byt; rw [dif_pos h]

set_option maxRecDepth 100000 in
theorem isMailText_any (c : Nat) (w : World) : Calls Try.prog 15 #[.int .u8 (c : Int)] w fun e w' => e = .returned (.bool (text c)) ∧ w' = w := by
  by_cases h0 : c = 0
  · have ht : text c = false := text_no (.inl (by omega))
    rw [ht]
    have h0' : ((c : Int) != 0) = false := by simp [h0]
    clear ht h0
    go_enter Try.func15, Try.ntmps15
    go_wp2
    go_ret
    exact ⟨rfl, rfl⟩
  · have h0' : ((c : Int) != 0) = true := by simp [h0]
    by_cases h1 : c = 13
    · have ht : text c = false := text_no (.inr (.inr (.inl h1)))
      rw [ht]
      have h1' : ((c : Int) != 13) = false := by simp [h1]
      clear ht h1 h0
      go_enter Try.func15, Try.ntmps15
      go_wp2
      go_ret
      exact ⟨rfl, rfl⟩
    · have h1' : ((c : Int) != 13) = true := by simp; omega
      by_cases h2 : c = 10
      · have ht : text c = false := text_no (.inr (.inr (.inr h2)))
        rw [ht]
        have h2' : ((c : Int) != 10) = false := by simp [h2]
        clear ht h2 h1 h0
        go_enter Try.func15, Try.ntmps15
        go_wp2
        go_ret
        exact ⟨rfl, rfl⟩
      · have h2' : ((c : Int) != 10) = true := by simp; omega
        by_cases h3 : c < 128
        · have ht : text c = true := text_yes (by omega) h3 h1 h2
          rw [ht]
          have h3' : decide ((c : Int) < 128) = true := by simp; omega
          clear ht h2 h1 h0
          go_enter Try.func15, Try.ntmps15
          go_wp2
          go_ret
          exact ⟨rfl, rfl⟩
        · have ht : text c = false := text_no (.inr (.inl h3))
          rw [ht]
          have h3' : decide ((c : Int) < 128) = false := by simp; omega
          clear ht h2 h1 h0
          go_enter Try.func15, Try.ntmps15
          go_wp2
          go_ret
          exact ⟨rfl, rfl⟩

set_option maxRecDepth 100000 in
theorem isCommentText_any (c : Nat) (w : World) : Calls Try.prog 13 #[.int .u8 (c : Int)] w fun e w' => e = .returned (.bool (text c)) ∧ w' = w := by
  by_cases h0 : 1 ≤ c
  · by_cases h3 : c < 128
    · by_cases h1 : c = 13
      · have ht : text c = false := text_no (.inr (.inr (.inl h1)))
        rw [ht]
        have h1' : ((c : Int) != 13) = false := by simp [h1]
        clear ht h1
        go_enter Try.func13, Try.ntmps13
        go_wp2
        go_ret
        exact ⟨rfl, rfl⟩
      · have h1' : ((c : Int) != 13) = true := by simp; omega
        by_cases h2 : c = 10
        · have ht : text c = false := text_no (.inr (.inr (.inr h2)))
          rw [ht]
          have h2' : ((c : Int) != 10) = false := by simp [h2]
          clear ht h2 h1
          go_enter Try.func13, Try.ntmps13
          go_wp2
          go_ret
          exact ⟨rfl, rfl⟩
        · have h2' : ((c : Int) != 10) = true := by simp; omega
          have ht : text c = true := text_yes h0 h3 h1 h2
          rw [ht]
          clear ht h2 h1
          go_enter Try.func13, Try.ntmps13
          go_wp2
          go_ret
          exact ⟨rfl, rfl⟩
    · have ht : text c = false := text_no (.inr (.inl h3))
      rw [ht]
      clear ht
      go_enter Try.func13, Try.ntmps13
      go_wp2
      go_ret
      exact ⟨rfl, rfl⟩
  · have ht : text c = false := text_no (.inl h0)
    rw [ht]
    clear ht
    go_enter Try.func13, Try.ntmps13
    go_wp2
    go_ret
    exact ⟨rfl, rfl⟩

/-- What zzCommentRest answers. -/
def Rested (r : Bool × Nat) (w : World) (e : Ending) (w' : World) : Prop := e = .returned (.tuple #[.bool r.1, .int .i64 (r.2 : Int)]) ∧ w' = w

theorem rested_mk {r : Bool × Nat} {w : World} {b : Bool} {q : Int} (h : r = (b, q.toNat)) (hq : 0 ≤ q) : Rested r w (.returned (.tuple #[.bool b, .int .i64 q])) w := by
  refine ⟨?_, rfl⟩
  rw [h]
  show Ending.returned (.tuple #[.bool b, .int .i64 q]) = .returned (.tuple #[.bool b, .int .i64 ((q.toNat : Nat) : Int)])
  rw [show ((q.toNat : Nat) : Int) = q by omega]

set_option maxHeartbeats 2000000 in
set_option maxRecDepth 100000 in
theorem rest_any (s : ByteArray) (hs : s.size ≤ 65536) : ∀ (m p0 : Nat) (w : World), s.size - p0 < m → p0 ≤ s.size →
    Calls Try.prog 10 #[.string s, .int .i64 (p0 : Int)] w fun e w' => Rested (S s.size (byt s) p0 1) w e w' := by
  intro m
  induction m with
  | zero => intro p0 w hm; omega
  | succ m ih =>
    intro p0 w hm hp
    have IH := hide ih
    clear ih
    obtain ⟨R, hR⟩ : ∃ R, S s.size (byt s) p0 1 = R := ⟨_, rfl⟩
    rw [hR]
    have HR := hide hR
    clear hR
    go_enter Try.func10, Try.ntmps10
    go_wp2_with fail
    go_loopg [1] (s.size + 1 - p0) (fun k pp wr => ∃ p : Nat, p + k = s.size + 1 ∧ p0 ≤ p ∧ p ≤ s.size ∧ pp = .int .i64 p ∧ wr = w ∧ S s.size (byt s) p 1 = R)
    case atStart => exact ⟨p0, by omega, Nat.le_refl _, hp, rfl, rfl, HR.out⟩
    case round =>
      clear HR
      obtain ⟨p, hk, hp0, hpn, rfl, rfl, hS⟩ := hrel
      by_cases hlt : p < s.size
      · have hb := byt_eq s p hlt
        obtain ⟨c, hc⟩ : ∃ c, byt s p = c := ⟨_, rfl⟩
        rw [hc] at hb
        by_cases h41 : c = 41
        · have h41' : ((c : Int) == 41) = true := by simp [h41]
          rw [S_close hlt (by rw [hc, h41]), if_pos rfl] at hS
          have HS := hide hS
          clear hS hc h41
          go_wp2_with fail
          go_ret2
          exact rested_mk (by rw [← HS.out, show ((p : Int) + 1).toNat = p + 1 by omega]) (by omega)
        · have h41' : ((c : Int) == 41) = false := by simp; omega
          by_cases h40 : c = 40
          · have h40' : ((c : Int) == 40) = true := by simp [h40]
            rw [S_open hlt (by rw [hc, h40]), S_deep (s.size - (p + 1)) (p + 1) 1 (Nat.le_refl _) (by omega)] at hS
            have hle := S_le (n := s.size) (B := byt s) (s.size - (p + 1)) (p + 1) 1 (Nat.le_refl _) (by omega)
            have IHp := IH.out (p + 1) wr (by omega) (by omega)
            rw [show ((p + 1 : Nat) : Int) = (p : Int) + 1 by omega] at IHp
            obtain ⟨r, hr⟩ : ∃ r, S s.size (byt s) (p + 1) 1 = r := ⟨_, rfl⟩
            rw [hr] at hS hle IHp
            obtain ⟨b, q⟩ := r
            have HIP := hide IHp
            have hle1 : p + 1 ≤ q := hle.1
            have hle2 : q ≤ s.size := hle.2
            clear IHp hr hle hc h40
            cases b with
            | false =>
              have HS : Hid ((false, q) = R) := hS
              clear hS
              go_wp2_with fail
              refine HIP.out.mono ?_
              rintro e w2 ⟨rfl, rfl⟩
              go_wp2_with fail
              go_ret2
              exact rested_mk (by rw [← HS.out, show ((q : Int)).toNat = q by omega]) (by omega)
            | true =>
              have HS : Hid (S s.size (byt s) q 1 = R) := hS
              clear hS
              go_wp2_with fail
              refine HIP.out.mono ?_
              rintro e w2 ⟨rfl, rfl⟩
              go_wp2_with fail
              go_roundg (s.size + 1 - q)
              case measure => omega
              case rel => exact ⟨q, by omega, by omega, hle2, rfl, rfl, HS.out⟩
          · have h40' : ((c : Int) == 40) = false := by simp; omega
            by_cases h92 : c = 92
            · have h92' : ((c : Int) == 92) = true := by simp [h92]
              rw [S_quote hlt (by rw [hc, h92])] at hS
              by_cases hend : p + 1 = s.size
              · have hend' : ((p : Int) + 1 == (s.size : Int)) = true := by simp; omega
                rw [if_pos hend] at hS
                have HS := hide hS
                clear hS hc h92
                go_wp2_with fail
                go_ret2
                exact rested_mk (by rw [← HS.out, show ((s.size : Int)).toNat = p + 1 by omega]) (by omega)
              · have hend' : ((p : Int) + 1 == (s.size : Int)) = false := by simp; omega
                rw [if_neg hend] at hS
                have hlt1 : p + 1 < s.size := by omega
                have hlt1' : (0 : Int) ≤ (p : Int) + 1 ∧ (p : Int) + 1 < (s.size : Int) := by omega
                have hb1 := byt_eq s (p + 1) hlt1
                obtain ⟨c1, hc1⟩ : ∃ c1, byt s (p + 1) = c1 := ⟨_, rfl⟩
                rw [hc1] at hb1 hS
                by_cases hq : 128 ≤ c1
                · rw [if_pos hq] at hS
                  have HS := hide hS
                  clear hS hc h92 hc1
                  go_wp2_with fail
                  go_ret2
                  exact rested_mk (by rw [← HS.out, show ((p : Int) + 1).toNat = p + 1 by omega]) (by omega)
                · rw [if_neg hq] at hS
                  have HS := hide hS
                  clear hS hc h92 hc1
                  go_wp2_with fail
                  go_roundg (gk - 2)
                  case measure => omega
                  case rel => exact ⟨p + 2, by omega, by omega, by omega, by go_num, rfl, HS.out⟩
            · have h92' : ((c : Int) == 92) = false := by simp; omega
              rw [S_text hlt (by rw [hc]; exact h40) (by rw [hc]; exact h41) (by rw [hc]; exact h92), hc] at hS
              have HT := hide (isCommentText_any c wr)
              cases ht : text c with
              | true =>
                rw [ht, if_pos rfl] at hS
                rw [ht] at HT
                have HS := hide hS
                clear hS hc ht h40 h41 h92
                go_wp2_with fail
                refine HT.out.mono ?_
                rintro e w2 ⟨rfl, rfl⟩
                go_wp2_with fail
                go_roundg (gk - 1)
                case measure => omega
                case rel => exact ⟨p + 1, by omega, by omega, by omega, by go_num, rfl, HS.out⟩
              | false =>
                rw [ht, if_neg (by decide)] at hS
                rw [ht] at HT
                have HS := hide hS
                clear hS hc ht h40 h41 h92
                go_wp2_with fail
                refine HT.out.mono ?_
                rintro e w2 ⟨rfl, rfl⟩
                go_wp2_with fail
                go_ret2
                exact rested_mk (by rw [← HS.out, show ((p : Int) + 1).toNat = p + 1 by omega]) (by omega)
      · rw [S_end (by omega)] at hS
        have HS := hide hS
        clear hS
        go_wp2_with fail
        go_ret2
        exact rested_mk (by rw [← HS.out, show ((s.size : Int)).toNat = p by omega]) (by omega)

end Go.Proofs.Qxb6604016a
