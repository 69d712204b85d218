/-
  Seat b6604016a: quotedPair (14), comment (12), ZZComment (9).
-/
import Derived.Test.Qxb6604016aWords
namespace Go.Proofs.Qxb6604016a
open Go.RowKit

/-- The scanner in memory, in block pb, from base on: it stands at place p of s. -/
structure Sc (base : Nat) (w : World) (pb : Nat) (s : ByteArray) (p : Nat) : Prop where
  c0 : w.cell? ⟨pb, 0, none⟩ = some (.string s)
  c1 : w.cell? ⟨pb, 1, none⟩ = some (.int .i64 (p : Int))
  z1 : w.frozen? ⟨pb, 1, none⟩ = false
  pbl : base ≤ pb

theorem Sc.set {base : Nat} {w : World} {pb : Nat} {s : ByteArray} {p : Nat} (h : Sc base w pb s p) (q : Nat) : Sc base (w.setCell ⟨pb, 1, none⟩ (.int .i64 (q : Int))) pb s q :=
  ⟨by rw [World.cell?_setCell_other _ _ _ _ (fun e => by have := (Addr.mk.inj e).2.1; omega)]; exact h.c0, World.cell?_setCell_same _ _ _ h.c1, by rw [World.frozen?_setCell]; exact h.z1, h.pbl⟩

theorem Sc.same {base : Nat} {w w' : World} {pb : Nat} {s : ByteArray} {p : Nat} (h : Sc base w pb s p) (e : w'.heap = w.heap) : Sc base w' pb s p := by
  have hc : ∀ a, w'.cell? a = w.cell? a := fun a => World.cell?_of_block (w := w) (by rw [e])
  have hz : ∀ a, w'.frozen? a = w.frozen? a := fun a => World.frozen?_of_block (w := w) (by rw [e])
  exact ⟨by rw [hc]; exact h.c0, by rw [hc]; exact h.c1, by rw [hz]; exact h.z1, h.pbl⟩

/-- What quotedPair has done. -/
def Quoted (base : Nat) (w : World) (pb : Nat) (s : ByteArray) (b : Bool) (p : Nat) (e : Ending) (w' : World) : Prop := e = .returned (.bool b) ∧ Sc base w' pb s p ∧ Below base w w'

set_option maxHeartbeats 1000000 in
set_option maxRecDepth 100000 in
theorem quotedPair_end (base : Nat) (w : World) (pb : Nat) (s : ByteArray) (p : Nat) (h : Sc base w pb s p) (hp : p = s.size) :
    Calls Try.prog 14 #[.pointer (some ⟨pb, 0, none⟩)] w fun e w' => Quoted base w pb s false p e w' := by
  have c0 := h.c0
  have c1 := h.c1
  have HS := hide h
  have hpe : ((p : Int) == (s.size : Int)) = true := by simp [hp]
  clear h hp
  go_enter Try.func14, Try.ntmps14
  go_wp2
  go_quiet (fail)
  go_wp2
  go_ret
  exact ⟨rfl, HS.out.same rfl, below_drewN (Below.refl _ _) _⟩

set_option maxHeartbeats 1000000 in
set_option maxRecDepth 100000 in
theorem quotedPair_in (base : Nat) (w : World) (pb : Nat) (s : ByteArray) (p : Nat) (hs : s.size ≤ 65536) (h : Sc base w pb s p) (hp : p < s.size) :
    Calls Try.prog 14 #[.pointer (some ⟨pb, 0, none⟩)] w fun e w' => Quoted base w pb s (decide (byt s p < 128)) (if byt s p < 128 then p + 1 else p) e w' := by
  have c0 := h.c0
  have c1 := h.c1
  have z1 := h.z1
  have HS := hide h
  have hpe : ((p : Int) == (s.size : Int)) = false := by simp; omega
  have hb := byt_eq s p hp
  obtain ⟨c, hc⟩ : ∃ c, byt s p = c := ⟨_, rfl⟩
  rw [hc] at hb ⊢
  have hpi : (p : Int) < (s.size : Int) := by omega
  clear h hc
  by_cases hq : c < 128
  · rw [if_pos hq, decide_eq_true hq]
    have hq' : decide ((128 : Int) ≤ (c : Int)) = false := by simp; omega
    go_enter Try.func14, Try.ntmps14
    go_wp2
    go_quiet (fail)
    go_wp2
    go_ret
    exact ⟨rfl, (HS.out.same (w' := w.drewN _) rfl).set (p + 1), (below_drewN (Below.refl _ _) _).setCell (p := ⟨pb, 1, none⟩) HS.out.pbl _⟩
  · rw [if_neg hq, decide_eq_false hq]
    have hq' : decide ((128 : Int) ≤ (c : Int)) = true := by simp; omega
    go_enter Try.func14, Try.ntmps14
    go_wp2
    go_quiet (fail)
    go_wp2
    go_ret
    exact ⟨rfl, HS.out.same rfl, below_drewN (Below.refl _ _) _⟩

/-- What comment has done: the answer and the place r. -/
def Got (base : Nat) (w : World) (pb : Nat) (s : ByteArray) (r : Bool × Nat) (e : Ending) (w' : World) : Prop := e = .returned (.bool r.1) ∧ Sc base w' pb s r.2 ∧ Below base w w'

theorem got_mk {base : Nat} {w w' : World} {pb : Nat} {s : ByteArray} {r : Bool × Nat} {b : Bool} {p : Nat} (h : (b, p) = r) (hs : Sc base w' pb s p) (hb : Below base w w') : Got base w pb s r (.returned (.bool b)) w' := by
  subst h
  exact ⟨rfl, hs, hb⟩

set_option maxHeartbeats 1000000 in
set_option maxRecDepth 100000 in
theorem comment_past (base : Nat) (w : World) (pb : Nat) (s : ByteArray) (i : Nat) (h : Sc base w pb s i) (hp : s.size ≤ i) :
    Calls Try.prog 12 #[.pointer (some ⟨pb, 0, none⟩)] w fun e w' => Got base w pb s (false, i) e w' := by
  have c0 := h.c0
  have c1 := h.c1
  have HS := hide h
  have hpi : ¬ (i : Int) < (s.size : Int) := by omega
  clear h
  go_enter Try.func12, Try.ntmps12
  go_wp2
  go_loopg [3] 1 (fun k dd wr => k = 1 ∧ wr = w)
  case atStart => exact ⟨rfl, rfl⟩
  case round =>
    obtain ⟨-, rfl⟩ := hrel
    go_wp2
    go_quiet (fail)
    go_wp2
    go_ret
    exact got_mk rfl (HS.out.same rfl) (below_drewN (Below.refl _ _) _)

set_option maxHeartbeats 4000000 in
set_option maxRecDepth 100000 in
theorem comment_any (base : Nat) (w : World) (pb : Nat) (s : ByteArray) (i : Nat) (hs : s.size ≤ 65536) (h : Sc base w pb s i) (hi : i < s.size) (h40 : byt s i = 40) :
    Calls Try.prog 12 #[.pointer (some ⟨pb, 0, none⟩)] w fun e w' => Got base w pb s (S s.size (byt s) i 0) e w' := by
  have HS0 := hide h
  have H40 := hide h40
  obtain ⟨R, hR⟩ : ∃ R, S s.size (byt s) i 0 = R := ⟨_, rfl⟩
  rw [hR]
  have HR := hide hR
  have hpbl := h.pbl
  clear h h40 hR
  go_enter Try.func12, Try.ntmps12
  go_wp2
  go_loopg [3] (s.size + 1 - i) (fun k dd wr => ∃ p d : Nat, p + k = s.size + 1 ∧ p ≤ s.size ∧ d ≤ p ∧ dd = .int .i64 d ∧ Sc base wr pb s p ∧ Below base w wr ∧ S s.size (byt s) p d = R ∧ (d = 0 → p < s.size ∧ byt s p = 40))
  case atStart => exact ⟨i, 0, by omega, by omega, by omega, rfl, HS0.out, Below.refl _ _, HR.out, fun _ => ⟨hi, H40.out⟩⟩
  case round =>
    clear HR H40 HS0
    obtain ⟨p, d, hk, hpn, hdp, rfl, hSc, hbel, hS, hd0⟩ := hrel
    have HSc := hide hSc
    have c0 := hSc.c0
    have c1 := hSc.c1
    have z1 := hSc.z1
    clear hSc
    by_cases hlt : p < s.size
    · have hb := byt_eq s p hlt
      obtain ⟨c, hc⟩ : ∃ c, byt s p = c := ⟨_, rfl⟩
      rw [hc] at hb hd0
      have hpi : (p : Int) < (s.size : Int) := by omega
      by_cases h40 : c = 40
      · have h40' : ((c : Int) == 40) = true := by simp [h40]
        rw [S_open hlt (by rw [hc, h40])] at hS
        have HS := hide hS
        clear hS hc h40 hd0
        go_wp2
        go_quiet (fail)
        go_wp2
        go_quiet (fail)
        go_wp2
        go_roundg (gk - 1)
        case measure => omega
        case rel => exact ⟨p + 1, d + 1, by omega, by omega, by omega, by go_num, (HSc.out.same (w' := wr.drewN _) rfl).set (p + 1), (below_drewN hbel _).setCell (p := ⟨pb, 1, none⟩) hpbl _, HS.out, fun h => absurd h (Nat.succ_ne_zero _)⟩
      · have h40' : ((c : Int) == 40) = false := by simp; omega
        have hd1 : 1 ≤ d := by
          rcases Nat.eq_zero_or_pos d with e | e
          · exact absurd (hd0 e).2 h40
          · exact e
        by_cases h41 : c = 41
        · have h41' : ((c : Int) == 41) = true := by simp [h41]
          rw [S_close hlt (by rw [hc, h41])] at hS
          by_cases hd : d = 1
          · have hd' : ((d : Int) - 1 == 0) = true := by simp [hd]
            rw [if_pos hd] at hS
            have HS := hide hS
            clear hS hc h41 hd0 hd h40
            go_wp2
            go_quiet (fail)
            go_wp2
            go_quiet (fail)
            go_wp2
            go_ret
            exact got_mk HS.out ((HSc.out.same (w' := wr.drewN _) rfl).set (p + 1)) ((below_drewN hbel _).setCell (p := ⟨pb, 1, none⟩) hpbl _)
          · have hd' : ((d : Int) - 1 == 0) = false := by simp; omega
            rw [if_neg hd] at hS
            have HS := hide hS
            clear hS hc h41 hd0 h40
            go_wp2
            go_quiet (fail)
            go_wp2
            go_quiet (fail)
            go_wp2
            go_roundg (gk - 1)
            case measure => omega
            case rel => exact ⟨p + 1, d - 1, by omega, by omega, by omega, by go_num, (HSc.out.same (w' := wr.drewN _) rfl).set (p + 1), (below_drewN hbel _).setCell (p := ⟨pb, 1, none⟩) hpbl _, HS.out, fun h => by omega⟩
        · have h41' : ((c : Int) == 41) = false := by simp; omega
          by_cases h92 : c = 92
          · have h92' : ((c : Int) == 92) = true := by simp [h92]
            rw [S_quote hlt (by rw [hc, h92])] at hS
            by_cases hend : p + 1 = s.size
            · rw [if_pos hend] at hS
              have HS := hide hS
              have HE := hide hend
              clear hS hc h92 hd0 h40 h41 hend
              go_wp2
              go_quiet (fail)
              go_wp2
              go_quiet (fail)
              go_wp2_with fail
              refine (quotedPair_end base _ pb s (p + 1) ((HSc.out.same (w' := wr.drewN _) rfl).set (p + 1)) HE.out).mono ?_
              rintro e w2 ⟨rfl, hSc2, hb2⟩
              have hb3 := ((below_drewN hbel _).setCell (p := ⟨pb, 1, none⟩) hpbl _).trans hb2
              go_wp2
              go_ret
              exact got_mk HS.out hSc2 hb3
            · rw [if_neg hend] at hS
              have hlt1 : p + 1 < s.size := by omega
              by_cases hq : 128 ≤ byt s (p + 1)
              · rw [if_pos hq] at hS
                have HS := hide hS
                have HQ := hide hq
                clear hS hc h92 hd0 h40 h41 hend hq
                go_wp2
                go_quiet (fail)
                go_wp2
                go_quiet (fail)
                go_wp2_with fail
                refine (quotedPair_in base _ pb s (p + 1) hs ((HSc.out.same (w' := wr.drewN _) rfl).set (p + 1)) hlt1).mono ?_
                rw [if_neg (by have := HQ.out; omega), decide_eq_false (by have := HQ.out; omega)]
                rintro e w2 ⟨rfl, hSc2, hb2⟩
                have hb3 := ((below_drewN hbel _).setCell (p := ⟨pb, 1, none⟩) hpbl _).trans hb2
                go_wp2
                go_ret
                exact got_mk HS.out hSc2 hb3
              · rw [if_neg hq] at hS
                have HS := hide hS
                have HQ := hide hq
                clear hS hc h92 hd0 h40 h41 hend hq
                go_wp2
                go_quiet (fail)
                go_wp2
                go_quiet (fail)
                go_wp2_with fail
                refine (quotedPair_in base _ pb s (p + 1) hs ((HSc.out.same (w' := wr.drewN _) rfl).set (p + 1)) hlt1).mono ?_
                rw [if_pos (by have := HQ.out; omega), decide_eq_true (by have := HQ.out; omega)]
                rintro e w2 ⟨rfl, hSc2, hb2⟩
                have hb3 := ((below_drewN hbel _).setCell (p := ⟨pb, 1, none⟩) hpbl _).trans hb2
                go_wp2
                go_roundg (gk - 2)
                case measure => omega
                case rel => exact ⟨p + 2, d, by omega, by omega, by omega, rfl, hSc2, hb3, HS.out, fun h => by omega⟩
          · have h92' : ((c : Int) == 92) = false := by simp; omega
            rw [S_text hlt (by rw [hc]; exact h40) (by rw [hc]; exact h41) (by rw [hc]; exact h92), hc] at hS
            have HT := hide (fun w => isMailText_any c w)
            cases ht : text c with
            | true =>
              rw [ht, if_pos rfl] at hS
              rw [ht] at HT
              have HS := hide hS
              clear hS hc ht h40 h41 h92 hd0
              go_wp2
              go_quiet (fail)
              go_wp2
              go_quiet (fail)
              go_wp2_with fail
              refine (HT.out _).mono ?_
              rintro e w2 ⟨rfl, rfl⟩
              go_wp2
              go_roundg (gk - 1)
              case measure => omega
              case rel => exact ⟨p + 1, d, by omega, by omega, by omega, rfl, (HSc.out.same (w' := wr.drewN _) rfl).set (p + 1), (below_drewN hbel _).setCell (p := ⟨pb, 1, none⟩) hpbl _, HS.out, fun h => by omega⟩
            | false =>
              rw [ht, if_neg (by decide)] at hS
              rw [ht] at HT
              have HS := hide hS
              clear hS hc ht h40 h41 h92 hd0
              go_wp2
              go_quiet (fail)
              go_wp2
              go_quiet (fail)
              go_wp2_with fail
              refine (HT.out _).mono ?_
              rintro e w2 ⟨rfl, rfl⟩
              go_wp2
              go_ret
              exact got_mk HS.out ((HSc.out.same (w' := wr.drewN _) rfl).set (p + 1)) ((below_drewN hbel _).setCell (p := ⟨pb, 1, none⟩) hpbl _)
    · rw [S_end (by omega)] at hS
      have HS := hide hS
      have hpi : ¬ (p : Int) < (s.size : Int) := by omega
      clear hS hd0
      go_wp2
      go_quiet (fail)
      go_wp2
      go_ret
      exact got_mk HS.out (HSc.out.same rfl) (below_drewN hbel _)

end Go.Proofs.Qxb6604016a
