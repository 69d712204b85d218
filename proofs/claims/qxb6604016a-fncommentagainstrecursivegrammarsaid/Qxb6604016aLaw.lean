/-
  Seat b6604016a: ZZComment (9), the guard (8), the walk of the law FnCommentAgainstRecursiveGrammar (4).
-/
import Derived.Test.Qxb6604016aScan
namespace Go.Proofs.Qxb6604016a
open Go.RowKit

/-- What ZZComment has done. -/
def ZGot (w : World) (r : Bool × Nat) (e : Ending) (w' : World) : Prop := e = .returned (.tuple #[.bool r.1, .int .i64 (r.2 : Int)]) ∧ Below w.heap.size w w'

theorem box_sc (w : World) (s : ByteArray) (i : Nat) : Sc w.heap.size (w.alloc (.cells #[.string s, .int .i64 (i : Int)] 33)) w.heap.size s i := ⟨by simp, by simp, by simp, Nat.le_refl _⟩

set_option maxHeartbeats 1000000 in
theorem zzComment_of (w : World) (s : ByteArray) (i : Nat) (r : Bool × Nat)
    (h : Calls Try.prog 12 #[.pointer (some ⟨w.heap.size, 0, none⟩)] (w.alloc (.cells #[.string s, .int .i64 (i : Int)] 33)) fun e w' => Got w.heap.size (w.alloc (.cells #[.string s, .int .i64 (i : Int)] 33)) w.heap.size s r e w') :
    Calls Try.prog 9 #[.string s, .int .i64 (i : Int)] w fun e w' => ZGot w r e w' := by
  have H := hide h
  clear h
  obtain ⟨b, q⟩ := r
  go_enter Try.func9, Try.ntmps9
  go_wp2_with fail
  refine H.out.mono ?_
  rintro e w1 ⟨rfl, hSc, hb⟩
  have c1 := hSc.c1
  have hb2 : Below w.heap.size w w1 := ((Below.refl _ _).alloc (Nat.le_refl _) _).trans hb
  clear H hSc hb
  go_wp2
  go_quiet (fail)
  go_wp2
  go_ret2
  exact ⟨rfl, below_drewN hb2 _⟩

def Says (w : World) (e : Ending) (w' : World) : Prop := ∃ b : Bool, e = .returned (.bool b) ∧ w' = w

set_option maxHeartbeats 400000 in
theorem zzBytes8_any (s : ByteArray) (i : Int) (w : World) (hs : s.size ≤ 9223372036854775807) : Calls Try.prog 8 #[.string s, .int .i64 i] w fun e w' => Says w e w' := by
  by_cases h1 : s.size ≤ 1048576
  · go_enter Try.func8, Try.ntmps8
    go_wp2
    go_ret
    exact ⟨_, rfl, rfl⟩
  · go_enter Try.func8, Try.ntmps8
    go_wp2
    go_ret
    exact ⟨_, rfl, rfl⟩

def LawTrue (w : World) (e : Ending) (w' : World) : Prop := e = .returned (.bool true) ∧ Below w.heap.size w w'

set_option maxHeartbeats 2000000 in
set_option maxRecDepth 100000 in
theorem law_any (s : ByteArray) (iv : Int) (w : World) (hs0 : s.size ≤ 9223372036854775807) (hiv : iv ≤ 9223372036854775807) :
    Calls Try.prog 4 #[.string s, .int .i64 iv] w fun e w' => LawTrue w e w' := by
  go_enter Try.func4, Try.ntmps4
  go_wp2_with fail
  refine (zzBytes8_any s iv w hs0).mono ?_
  rintro e w1 ⟨b, rfl, rfl⟩
  cases b with
  | false =>
    go_wp2_with fail
    go_ret
    exact ⟨rfl, Below.refl _ _⟩
  | true =>
  by_cases hs : s.size ≤ 65536
  case neg =>
    have hs' : (65536 : Int) < (s.size : Int) := by omega
    go_wp2_with fail
    go_ret
    exact ⟨rfl, Below.refl _ _⟩
  case pos =>
  by_cases hi0 : iv < 0
  · go_wp2_with fail
    go_ret
    exact ⟨rfl, Below.refl _ _⟩
  obtain ⟨i, rfl⟩ : ∃ i : Nat, iv = (i : Int) := ⟨iv.toNat, by omega⟩
  by_cases hlt : i < s.size
  · have hb := byt_eq s i hlt
    obtain ⟨c, hc⟩ : ∃ c, byt s i = c := ⟨_, rfl⟩
    rw [hc] at hb
    by_cases h40 : c = 40
    · have h40' : ((c : Int) != 40) = false := by simp [h40]
      have hB : byt s i = 40 := by rw [hc, h40]
      have HZ := hide (zzComment_of w1 s i _ (comment_any w1.heap.size _ w1.heap.size s i hs (box_sc w1 s i) hlt hB))
      rw [S_open hlt hB] at HZ
      have HR := hide (fun w => rest_any s hs (s.size + 1) (i + 1) w (by omega) (by omega))
      obtain ⟨r, hr⟩ : ∃ r, S s.size (byt s) (i + 1) 1 = r := ⟨_, rfl⟩
      rw [hr] at HR
      rw [show (0 : Nat) + 1 = 1 from rfl, hr] at HZ
      rw [show ((i + 1 : Nat) : Int) = (i : Int) + 1 by omega] at HR
      obtain ⟨bb, q⟩ := r
      clear hr hB hc h40
      go_wp2_with fail
      refine HZ.out.mono ?_
      rintro e w2 ⟨rfl, hb2⟩
      go_wp2_with fail
      refine (HR.out _).mono ?_
      rintro e w3 ⟨rfl, rfl⟩
      go_wp2_with fail
      go_ret
      exact ⟨by simp, hb2⟩
    · have h40' : ((c : Int) != 40) = true := by simp; omega
      clear hc h40
      go_wp2_with fail
      go_ret
      exact ⟨rfl, Below.refl _ _⟩
  · have HZ := hide (zzComment_of w1 s i _ (comment_past w1.heap.size _ w1.heap.size s i (box_sc w1 s i) (by omega)))
    have hlt' : ¬ (i : Int) < (s.size : Int) := by omega
    go_wp2_with fail
    refine HZ.out.mono ?_
    rintro e w2 ⟨rfl, hb2⟩
    go_wp2_with fail
    go_ret
    exact ⟨rfl, hb2⟩

end Go.Proofs.Qxb6604016a
