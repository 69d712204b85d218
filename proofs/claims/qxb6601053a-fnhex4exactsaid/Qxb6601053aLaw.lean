/-
  Seat b6601053a: FnHex4Exact (4), walked.
-/
import Derived.Test.Qxb6601053aHex
namespace Go.Proofs.Qxb6601053a
open Go.RowKit

/-- What the law does. -/
def Holds (w : World) (e : Ending) (w' : World) : Prop := e = .returned (.bool true) ∧ Below w.heap.size w w'

/-- The bytes f as cells. -/
def bytes (f : Nat → Nat) (n : Nat) : List Value := (List.range n).map fun j => .int .u8 (f j : Int)

/-- The row that make has laid. -/
def zeros (n : Nat) : List Value := (madeCells #[.int .u8 0] n).toList

theorem length_bytes (f : Nat → Nat) (n : Nat) : (bytes f n).length = n := by simp [bytes]
theorem length_zeros (n : Nat) : (zeros n).length = n := by simp [zeros, size_madeCells]
theorem bytes_at (f : Nat → Nat) {n j : Nat} (h : j < n) : (bytes f n)[j]? = some (.int .u8 (f j : Int)) := by simp [bytes, h]

theorem splice_all (f : Nat → Nat) (n : Nat) : splice (zeros n) 0 (bytes f n) = bytes f n := by
  unfold splice
  rw [length_bytes, Nat.zero_add, List.drop_eq_nil_of_le (by rw [length_zeros]; exact Nat.le_refl _)]
  simp

theorem bytesAt_row {w : World} {g n : Nat} {f : Nat → Nat} (h : w.heap[g]? = some (.cells (bytes f n).toArray 5 (0, 0))) : BytesAt w (some ⟨g, 0, none⟩) n f := by
  intro j hj
  refine ⟨g, 0, rfl, ?_⟩
  simp only [World.cell?, h]
  simp [bytes_at f hj]

theorem new_row (w : World) (n : Nat) : (w.alloc (.cells (madeCells #[.int .u8 0] n) 5)).heap[w.heap.size]? = some (.cells (zeros n).toArray 5 (0, 0)) := by
  unfold zeros
  rw [Array.toArray_toList]
  exact heap_alloc_new w _

theorem zzhex4_row (n at_ : Nat) (f : Nat → Nat) (x : Option Nat) (hx : hex4 f n at_ = x) (hn : n ≤ 1048576) (hat : at_ ≤ 1048576) (hs : Small n f) (g : Nat) (w w2 : World) (hg : w2.heap[g]? = some (.cells (splice (zeros n) 0 (bytes f n)).toArray 5 (0, 0))) (hB : Below w.heap.size w w2) :
    Calls Try.prog 13 #[.slice (some ⟨g, 0, none⟩) n n, .int .i64 at_] w2 fun e w' => e = .returned (.tuple #[.int .i32 ((x.getD 0 : Nat) : Int), .bool x.isSome]) ∧ Hid (Below w.heap.size w w' ∧ ∀ j, j < n → w'.cell? ⟨g, j, none⟩ = some (.int .u8 (f j : Int))) := by
  rw [splice_all] at hg
  refine (zzhex4_any (some ⟨g, 0, none⟩) n n at_ f w2 hn (Nat.le_refl _) hat (bytesAt_row hg) hs).mono ?_
  rintro e w' ⟨rfl, hb⟩
  rw [hx]
  refine ⟨rfl, below_step hB hb, fun j hj => ?_⟩
  obtain ⟨b, off, e, hc⟩ := (bytesAt_row hg).below hb j hj
  cases e
  rw [Nat.zero_add] at hc
  exact hc

theorem source {A : Addr} {n : Nat} {f : Nat → Nat} {w : World} (h : BytesAt w (some A) n f) : ∀ j v, (bytes f n)[j]? = some v → (w.alloc (.cells (madeCells #[.int .u8 0] n) 5)).cell? (A.add j) = some v := by
  intro j v hv
  have hj : j < n := by
    have := (List.getElem?_eq_some_iff.1 hv).1
    rwa [length_bytes] at this
  rw [bytes_at f hj] at hv
  cases hv
  obtain ⟨b, off, e, hc⟩ := h.below ((Below.refl _ _).alloc (Nat.le_refl _) _) j hj
  cases e
  have hadd : (⟨b, off, none⟩ : Addr).add j = ⟨b, off + j, none⟩ := by simp [Addr.add]
  rw [hadd]
  exact hc

set_option maxRecDepth 100000 in
set_option maxHeartbeats 2000000 in
theorem law4_some (A : Addr) (n c at_ : Nat) (f : Nat → Nat) (w : World) (hn : n ≤ 1048576) (hat : at_ ≤ 1048576) (h : BytesAt w (some A) n f) (hs : Small n f) :
    Calls Try.prog 4 #[.slice (some A) n c, .int .i64 at_] w fun e w' => Holds w e w' := by
  have q27 := fun a l c w => run_neq_slice_nil (P := Try.prog) w 27 5 a l c Try.underlying27
  have hmk := run_make_row' (P := Try.prog) 27 5 (.int .u8 0) 1 Try.underlying27 Try.info5 rfl .i64 .i64 n (by omega) (by omega)
  have HG := hide (zzBytes12_any (some A) n c at_ w (by omega))
  have HSrc := hide (source h)
  by_cases h6 : at_ + 6 ≤ n
  · have h6' : decide ((at_ : Int) ≤ (n : Int) - 6) = true := by simp; omega
    by_cases e0 : f at_ = 92
    · by_cases e1 : f (at_ + 1) = 117
      · have hx : hex4 f n at_ = hexs f (at_ + 2) 4 := by unfold hex4; rw [if_pos ⟨h6, e0, e1⟩]
        have HZ := hide (zzhex4_row n at_ f _ hx hn hat hs w.heap.size w)
        have HS := hide hs
        clear hx h hs
        cases hX : hexs f (at_ + 2) 4 with
        | none =>
          rw [hX] at HZ
          have HX := hide hX
          clear hX
          go_enter Try.func4, Try.ntmps4
          go_wp2_with fail
          refine HG.out.mono ?_
          rintro e w' ⟨b, rfl, rfl⟩
          cases b with
          | false =>
            go_wp2
            go_ret
            exact ⟨rfl, Below.refl _ _⟩
          | true =>
            go_wp2_with (refine wpList_copy_splice rfl _ _ 27 27 rfl 5 Try.underlying27 (by kernel_rfl) (some ⟨w'.heap.size, 0, none⟩) (some A) n n n c rfl rfl w'.heap.size 0 (zeros n) 5 (new_row w' n) (bytes f n) (by rw [length_bytes]; exact (Nat.min_self n).symm) (fun _ => ⟨rfl, A, rfl, HSrc.out⟩) (by rw [length_bytes, length_zeros]; omega) (by simp [bytes, Value.oneCell']) w'.heap.size w' ((Below.refl _ _).alloc (Nat.le_refl _) _) (Nat.le_refl _) ?_; intro w2 HG2 hB2)
            refine (HZ.out w2 HG2.out hB2).mono ?_
            rintro e w3 ⟨rfl, HE⟩
            have hc0 := HE.out.2 at_ (by omega)
            have hc1 := HE.out.2 (at_ + 1) (by omega)
            rw [e0] at hc0
            rw [e1] at hc1
            clear HSrc HZ HG2 hB2 e0 e1
            go_wp2
            go_loopg [10, 11, 12] 4 (fun k vv gg ii wr => ∃ q v : Nat, q + k = 6 ∧ 2 ≤ q ∧ vv = .int .i64 v ∧ gg = .bool true ∧ ii = .int .i64 q ∧ wr = w3 ∧ hexs f (at_ + 2) (q - 2) = some v)
            case atStart => exact ⟨2, 0, by omega, by omega, rfl, rfl, rfl, rfl, rfl⟩
            case round =>
              obtain ⟨q, v, hq, hq2, rfl, rfl, rfl, rfl, hp⟩ := hrel
              have HP := hide hp
              clear hc0 hc1 hp h6'
              by_cases hlt : q < 6
              · have hcm := HE.out.2 (at_ + q) (by omega)
                have hfx := HS.out (at_ + q) (by omega)
                have hv : v < 65536 := by
                  have h1 := hexs_lt HP.out
                  have h2 : 16 ^ (q - 2) ≤ 16 ^ 3 := Nat.pow_le_pow_right (by decide) (by omega)
                  have h3 : 16 ^ 3 = 4096 := by decide
                  omega
                have YES : Hid (∀ d, hexv (f (at_ + q)) = some d → hexs f (at_ + 2) (q + 1 - 2) = some (v * 16 + d)) := by
                  intro d hd
                  rw [show at_ + q = at_ + 2 + (q - 2) by omega] at hd
                  rw [show q + 1 - 2 = q - 2 + 1 by omega]
                  exact hexs_yes HP.out hd
                have NO : Hid (hexv (f (at_ + q)) = none → hexs f (at_ + 2) 4 = none) := by
                  intro hd
                  rw [show at_ + q = at_ + 2 + (q - 2) by omega] at hd
                  exact hexs_stay (hexs_no hd) 4 (by omega)
                generalize f (at_ + q) = x at *
                have HV := hide (hexValue_any x wr hfx)
                unfold SaysHex at HV
                clear HP
                cases hd : hexv x with
                | none =>
                  rw [hd] at HV
                  have N := hide (NO.out hd)
                  clear YES NO hd
                  go_wp2_with (go_at_call 14; refine HV.out.mono ?_; rintro e w' ⟨rfl, rfl⟩)
                  go_ret
                  exact ⟨rfl, HE.out.1⟩
                | some d =>
                  rw [hd] at HV
                  have hd16 := hexv_lt hd
                  have Y := hide (YES.out d hd)
                  clear YES NO hd
                  go_wp2_with (go_at_call 14; refine HV.out.mono ?_; rintro e w' ⟨rfl, rfl⟩)
                  go_roundg (gk - 1)
                  case measure => omega
                  case rel => exact ⟨q + 1, v * 16 + d, by omega, by omega, by go_num, rfl, by go_num, rfl, Y.out⟩
              · exfalso
                obtain rfl : q = 6 := by omega
                have := HP.out
                rw [show 6 - 2 = 4 by rfl, HX.out] at this
                cases this
        | some X =>
          rw [hX] at HZ
          have HX := hide hX
          clear hX
          go_enter Try.func4, Try.ntmps4
          go_wp2_with fail
          refine HG.out.mono ?_
          rintro e w' ⟨b, rfl, rfl⟩
          cases b with
          | false =>
            go_wp2
            go_ret
            exact ⟨rfl, Below.refl _ _⟩
          | true =>
            go_wp2_with (refine wpList_copy_splice rfl _ _ 27 27 rfl 5 Try.underlying27 (by kernel_rfl) (some ⟨w'.heap.size, 0, none⟩) (some A) n n n c rfl rfl w'.heap.size 0 (zeros n) 5 (new_row w' n) (bytes f n) (by rw [length_bytes]; exact (Nat.min_self n).symm) (fun _ => ⟨rfl, A, rfl, HSrc.out⟩) (by rw [length_bytes, length_zeros]; omega) (by simp [bytes, Value.oneCell']) w'.heap.size w' ((Below.refl _ _).alloc (Nat.le_refl _) _) (Nat.le_refl _) ?_; intro w2 HG2 hB2)
            refine (HZ.out w2 HG2.out hB2).mono ?_
            rintro e w3 ⟨rfl, HE⟩
            have hc0 := HE.out.2 at_ (by omega)
            have hc1 := HE.out.2 (at_ + 1) (by omega)
            rw [e0] at hc0
            rw [e1] at hc1
            clear HSrc HZ HG2 hB2 e0 e1
            go_wp2
            go_loopg [10, 11, 12] 4 (fun k vv gg ii wr => ∃ q v : Nat, q + k = 6 ∧ 2 ≤ q ∧ vv = .int .i64 v ∧ gg = .bool true ∧ ii = .int .i64 q ∧ wr = w3 ∧ hexs f (at_ + 2) (q - 2) = some v)
            case atStart => exact ⟨2, 0, by omega, by omega, rfl, rfl, rfl, rfl, rfl⟩
            case round =>
              obtain ⟨q, v, hq, hq2, rfl, rfl, rfl, rfl, hp⟩ := hrel
              have HP := hide hp
              clear hc0 hc1 hp h6'
              by_cases hlt : q < 6
              · have hcm := HE.out.2 (at_ + q) (by omega)
                have hfx := HS.out (at_ + q) (by omega)
                have hv : v < 65536 := by
                  have h1 := hexs_lt HP.out
                  have h2 : 16 ^ (q - 2) ≤ 16 ^ 3 := Nat.pow_le_pow_right (by decide) (by omega)
                  have h3 : 16 ^ 3 = 4096 := by decide
                  omega
                have YES : Hid (∀ d, hexv (f (at_ + q)) = some d → hexs f (at_ + 2) (q + 1 - 2) = some (v * 16 + d)) := by
                  intro d hd
                  rw [show at_ + q = at_ + 2 + (q - 2) by omega] at hd
                  rw [show q + 1 - 2 = q - 2 + 1 by omega]
                  exact hexs_yes HP.out hd
                have NO : Hid (hexv (f (at_ + q)) = none → hexs f (at_ + 2) 4 = none) := by
                  intro hd
                  rw [show at_ + q = at_ + 2 + (q - 2) by omega] at hd
                  exact hexs_stay (hexs_no hd) 4 (by omega)
                generalize f (at_ + q) = x at *
                have HV := hide (hexValue_any x wr hfx)
                unfold SaysHex at HV
                clear HP
                cases hd : hexv x with
                | none =>
                  rw [hd] at HV
                  have N := hide (NO.out hd)
                  clear YES NO hd
                  exfalso
                  have := N.out
                  rw [HX.out] at this
                  cases this
                | some d =>
                  rw [hd] at HV
                  have hd16 := hexv_lt hd
                  have Y := hide (YES.out d hd)
                  clear YES NO hd
                  go_wp2_with (go_at_call 14; refine HV.out.mono ?_; rintro e w' ⟨rfl, rfl⟩)
                  go_roundg (gk - 1)
                  case measure => omega
                  case rel => exact ⟨q + 1, v * 16 + d, by omega, by omega, by go_num, rfl, by go_num, rfl, Y.out⟩
              · have ev : v = X := by
                  obtain rfl : q = 6 := by omega
                  have := HP.out
                  rw [show 6 - 2 = 4 by rfl, HX.out] at this
                  cases this; rfl
                subst ev
                have hv : v < 65536 := by
                  have h1 := hexs_lt HX.out
                  have h3 : 16 ^ 4 = 65536 := by decide
                  omega
                clear HP
                go_wp2
                go_ret
                exact ⟨rfl, HE.out.1⟩
      · have hx : hex4 f n at_ = none := by unfold hex4; rw [if_neg (fun h => e1 h.2.2)]
        have HZ := hide (zzhex4_row n at_ f _ hx hn hat hs w.heap.size w)
        have e1' : ((f (at_ + 1) : Int) == 117) = false := by simp; omega
        clear hx h hs e1
        go_enter Try.func4, Try.ntmps4
        go_wp2_with fail
        refine HG.out.mono ?_
        rintro e w' ⟨b, rfl, rfl⟩
        cases b with
        | false =>
          go_wp2
          go_ret
          exact ⟨rfl, Below.refl _ _⟩
        | true =>
          go_wp2_with (refine wpList_copy_splice rfl _ _ 27 27 rfl 5 Try.underlying27 (by kernel_rfl) (some ⟨w'.heap.size, 0, none⟩) (some A) n n n c rfl rfl w'.heap.size 0 (zeros n) 5 (new_row w' n) (bytes f n) (by rw [length_bytes]; exact (Nat.min_self n).symm) (fun _ => ⟨rfl, A, rfl, HSrc.out⟩) (by rw [length_bytes, length_zeros]; omega) (by simp [bytes, Value.oneCell']) w'.heap.size w' ((Below.refl _ _).alloc (Nat.le_refl _) _) (Nat.le_refl _) ?_; intro w2 HG2 hB2)
          refine (HZ.out w2 HG2.out hB2).mono ?_
          rintro e w3 ⟨rfl, HE⟩
          have hc0 := HE.out.2 at_ (by omega)
          have hc1 := HE.out.2 (at_ + 1) (by omega)
          rw [e0] at hc0
          clear HSrc HZ HG2 hB2 e0
          go_wp2
          go_ret
          exact ⟨rfl, HE.out.1⟩
    · have hx : hex4 f n at_ = none := by unfold hex4; rw [if_neg (fun h => e0 h.2.1)]
      have HZ := hide (zzhex4_row n at_ f _ hx hn hat hs w.heap.size w)
      have e0' : ((f at_ : Int) == 92) = false := by simp; omega
      clear hx h hs e0
      go_enter Try.func4, Try.ntmps4
      go_wp2_with fail
      refine HG.out.mono ?_
      rintro e w' ⟨b, rfl, rfl⟩
      cases b with
      | false =>
        go_wp2
        go_ret
        exact ⟨rfl, Below.refl _ _⟩
      | true =>
        go_wp2_with (refine wpList_copy_splice rfl _ _ 27 27 rfl 5 Try.underlying27 (by kernel_rfl) (some ⟨w'.heap.size, 0, none⟩) (some A) n n n c rfl rfl w'.heap.size 0 (zeros n) 5 (new_row w' n) (bytes f n) (by rw [length_bytes]; exact (Nat.min_self n).symm) (fun _ => ⟨rfl, A, rfl, HSrc.out⟩) (by rw [length_bytes, length_zeros]; omega) (by simp [bytes, Value.oneCell']) w'.heap.size w' ((Below.refl _ _).alloc (Nat.le_refl _) _) (Nat.le_refl _) ?_; intro w2 HG2 hB2)
        refine (HZ.out w2 HG2.out hB2).mono ?_
        rintro e w3 ⟨rfl, HE⟩
        have hc0 := HE.out.2 at_ (by omega)
        clear HSrc HZ HG2 hB2
        go_wp2
        go_ret
        exact ⟨rfl, HE.out.1⟩
  · have hx : hex4 f n at_ = none := by unfold hex4; rw [if_neg (fun h => h6 h.1)]
    have HZ := hide (zzhex4_row n at_ f _ hx hn hat hs w.heap.size w)
    have h6' : decide ((at_ : Int) ≤ (n : Int) - 6) = false := by simp; omega
    clear hx h hs
    go_enter Try.func4, Try.ntmps4
    go_wp2_with fail
    refine HG.out.mono ?_
    rintro e w' ⟨b, rfl, rfl⟩
    cases b with
    | false =>
      go_wp2
      go_ret
      exact ⟨rfl, Below.refl _ _⟩
    | true =>
      go_wp2_with (refine wpList_copy_splice rfl _ _ 27 27 rfl 5 Try.underlying27 (by kernel_rfl) (some ⟨w'.heap.size, 0, none⟩) (some A) n n n c rfl rfl w'.heap.size 0 (zeros n) 5 (new_row w' n) (bytes f n) (by rw [length_bytes]; exact (Nat.min_self n).symm) (fun _ => ⟨rfl, A, rfl, HSrc.out⟩) (by rw [length_bytes, length_zeros]; omega) (by simp [bytes, Value.oneCell']) w'.heap.size w' ((Below.refl _ _).alloc (Nat.le_refl _) _) (Nat.le_refl _) ?_; intro w2 HG2 hB2)
      refine (HZ.out w2 HG2.out hB2).mono ?_
      rintro e w3 ⟨rfl, HE⟩
      clear HSrc HZ HG2 hB2
      go_wp2
      go_ret
      exact ⟨rfl, HE.out.1⟩

end Go.Proofs.Qxb6601053a
