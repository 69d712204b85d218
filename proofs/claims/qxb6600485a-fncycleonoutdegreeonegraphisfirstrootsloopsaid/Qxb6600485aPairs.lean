/-
  Seat b6600485a: a slice of pairs of integers ('[]step') that the call itself has made, from the head of its block, grown one element at a time. Told by its cells.
-/
import Derived.Test.Qxb6600485aOwn
namespace Go.Proofs.Qxb6600485a
open Go.RowKit

theorem Try.info47 : (Try.prog.info? 47).map (fun i => (i.zero, i.size, i.bytes)) = some (some (.agg #[.int .i64 0, .int .i64 0]), 2, 16) := by kernel_rfl

/-- v is a slice of n pairs, (A i, F i); all its cells up to its capacity are there, are not frozen and lie in a block from 'base' on. -/
def OwnPr (base : Nat) (w : World) (v : Value) (n : Nat) (A F : Nat → Int) : Prop :=
  ∃ ao g cap, v = .slice ao n cap ∧ n ≤ cap ∧ cap ≤ maxLen ∧ (0 < cap → ao = some ⟨g, 0, none⟩ ∧ base ≤ g) ∧
    (∀ i, i < cap * 2 → (w.cell? ⟨g, i, none⟩).isSome = true ∧ w.frozen? ⟨g, i, none⟩ = false) ∧
    ∀ i, i < n → w.cell? ⟨g, i * 2, none⟩ = some (.int .i64 (A i)) ∧ w.cell? ⟨g, i * 2 + 1, none⟩ = some (.int .i64 (F i))

theorem OwnPr.nil (base : Nat) (w : World) (A F : Nat → Int) : OwnPr base w (.slice none 0 0) 0 A F :=
  ⟨none, 0, 0, rfl, Nat.le_refl _, Nat.zero_le _, fun h => absurd h (Nat.not_lt_zero _), fun i h => absurd h (by omega), fun _ h => absurd h (Nat.not_lt_zero _)⟩

theorem OwnPr.carry {base : Nat} {w w' : World} {v : Value} {n : Nat} {A F : Nat → Int} (h : OwnPr base w v n A F) (hb : ∀ g, base ≤ g → g < w.heap.size → w'.heap[g]? = w.heap[g]?) : OwnPr base w' v n A F := by
  obtain ⟨ao, g, cap, rfl, h1, h2, h3, h4, h5⟩ := h
  have key : ∀ i, i < cap * 2 → w'.heap[g]? = w.heap[g]? := fun i hi => hb g (h3 (by omega)).2 (lt_of_isSome (h4 i hi).1)
  refine ⟨ao, g, cap, rfl, h1, h2, h3, fun i hi => ?_, fun i hi => ?_⟩
  · rw [World.cell?_of_block (w := w) (a := ⟨g, i, none⟩) (key i hi), World.frozen?_of_block (w := w) (a := ⟨g, i, none⟩) (key i hi)]
    exact h4 i hi
  · rw [World.cell?_of_block (w := w) (a := ⟨g, i * 2, none⟩) (key i (by omega)), World.cell?_of_block (w := w) (a := ⟨g, i * 2 + 1, none⟩) (key i (by omega))]
    exact h5 i hi

theorem OwnPr.alloc {base : Nat} {w : World} {v : Value} {n : Nat} {A F : Nat → Int} (h : OwnPr base w v n A F) (o : Obj) : OwnPr base (w.alloc o) v n A F :=
  h.carry (fun g _ hg => Below.heap_alloc w o g hg)

theorem OwnPr.drewN {base : Nat} {w : World} {v : Value} {n : Nat} {A F : Nat → Int} (h : OwnPr base w v n A F) (k : Nat) : OwnPr base (w.drewN k) v n A F := h.carry (fun _ _ _ => rfl)

theorem OwnPr.setBelow {base : Nat} {w : World} {v : Value} {n : Nat} {A F : Nat → Int} (h : OwnPr base w v n A F) {p : Addr} (hp : p.block < base) (u : Value) : OwnPr base (w.setCell p u) v n A F :=
  h.carry (fun g hg _ => Below.heap_setCell w p u g (by omega))

theorem OwnPr.congr {base : Nat} {w : World} {v : Value} {n : Nat} {A F A' F' : Nat → Int} (h : OwnPr base w v n A F) (e : ∀ i, i < n → A i = A' i ∧ F i = F' i) : OwnPr base w v n A' F' := by
  obtain ⟨ao, g, cap, rfl, h1, h2, h3, h4, h5⟩ := h
  exact ⟨ao, g, cap, rfl, h1, h2, h3, h4, fun i hi => by rw [(h5 i hi).1, (h5 i hi).2, (e i hi).1, (e i hi).2]; exact ⟨rfl, rfl⟩⟩

/-- The first k of them ('s[:k]'). -/
theorem OwnPr.cut {base : Nat} {w : World} {ao : Option Addr} {cap n k : Nat} {A F : Nat → Int} (h : OwnPr base w (.slice ao n cap) n A F) (hk : k ≤ n) : OwnPr base w (.slice ao k cap) k A F := by
  obtain ⟨ao', g, cap', e, h1, h2, h3, h4, h5⟩ := h
  simp only [Value.slice.injEq, true_and] at e
  obtain ⟨rfl, rfl⟩ := e
  exact ⟨ao, g, cap, rfl, by omega, h2, h3, h4, fun i hi => h5 i (by omega)⟩

/-- The last pair: where it lies, and a store into its second number. -/
theorem OwnPr.last {base : Nat} {w : World} {v : Value} {n : Nat} {A F : Nat → Int} (h : OwnPr base w v (n + 1) A F) : ∃ g cap, v = .slice (some ⟨g, 0, none⟩) (n + 1) cap ∧ base ≤ g ∧ n + 1 ≤ cap ∧ g < w.heap.size ∧ w.cell? ⟨g, n * 2, none⟩ = some (.int .i64 (A n)) ∧ w.cell? ⟨g, n * 2 + 1, none⟩ = some (.int .i64 (F n)) ∧
    w.frozen? ⟨g, n * 2 + 1, none⟩ = false ∧ ∀ x : Int, OwnPr base (w.setCell ⟨g, n * 2 + 1, none⟩ (.int .i64 x)) v (n + 1) A (fun i => if i = n then x else F i) := by
  obtain ⟨ao, g, cap, rfl, h1, h2, h3, h4, h5⟩ := h
  obtain ⟨rfl, hg⟩ := h3 (by omega)
  have hl := h5 n (by omega)
  refine ⟨g, cap, rfl, hg, h1, World.block_lt_of_cell? _ _ hl.1, hl.1, hl.2, (h4 _ (by omega)).2, fun x => ⟨_, g, cap, rfl, h1, h2, h3, fun i hi => ⟨?_, ?_⟩, fun i hi => ⟨?_, ?_⟩⟩⟩
  · by_cases e : i = n * 2 + 1
    · subst e
      rw [World.cell?_setCell_same _ _ _ hl.2]; rfl
    · rw [World.cell?_setCell_other _ _ _ _ (fun h => e (Addr.mk.inj h).2.1.symm)]; exact (h4 i hi).1
  · rw [World.frozen?_setCell]; exact (h4 i hi).2
  · rw [World.cell?_setCell_other _ _ _ _ (fun h => by have := (Addr.mk.inj h).2.1; omega)]; exact (h5 i hi).1
  · by_cases e : i = n
    · subst e
      rw [World.cell?_setCell_same _ _ _ hl.2]
      simp
    · rw [World.cell?_setCell_other _ _ _ _ (fun h => by have := (Addr.mk.inj h).2.1; omega)]; simp only [if_neg e]; exact (h5 i hi).2

section
variable {P : Program}

/-- The cells of n pairs, one behind the other. -/
def pairCells (A F : Nat → Int) : Nat → List Value
  | 0 => []
  | n + 1 => pairCells A F n ++ [.int .i64 (A n), .int .i64 (F n)]

theorem pairCells_length (A F : Nat → Int) : ∀ n, (pairCells A F n).length = n * 2
  | 0 => rfl
  | n + 1 => by simp [pairCells, pairCells_length A F n]; omega

theorem pairCells_get (A F : Nat → Int) : ∀ n i, i < n → (pairCells A F n)[i * 2]? = some (.int .i64 (A i)) ∧ (pairCells A F n)[i * 2 + 1]? = some (.int .i64 (F i))
  | 0, i, h => absurd h (Nat.not_lt_zero _)
  | n + 1, i, h => by
    have hl := pairCells_length A F n
    by_cases e : i = n
    · subst e
      simp only [pairCells]
      rw [List.getElem?_append_right (by omega), List.getElem?_append_right (by omega), hl]
      simp
    · simp only [pairCells]
      rw [List.getElem?_append_left (by omega), List.getElem?_append_left (by omega)]
      exact pairCells_get A F n i (by omega)

theorem pairCells_one (A F : Nat → Int) : ∀ n, ∀ u ∈ pairCells A F n, u.oneCell' = true
  | 0, u, h => by cases h
  | n + 1, u, h => by
    simp only [pairCells, List.mem_append, List.mem_cons, List.not_mem_nil, or_false] at h
    rcases h with h | h | h
    · exact pairCells_one A F n u h
    · subst h; rfl
    · subst h; rfl

theorem pairCells_in (w : World) (g : Nat) (A F : Nat → Int) (n : Nat) (h5 : ∀ i, i < n → w.cell? ⟨g, i * 2, none⟩ = some (.int .i64 (A i)) ∧ w.cell? ⟨g, i * 2 + 1, none⟩ = some (.int .i64 (F i))) :
    ∀ j u, (pairCells A F n)[j]? = some u → w.cell? ((⟨g, 0, none⟩ : Addr).add j) = some u := by
  intro j u hu
  have hj : j < n * 2 := by
    have := (List.getElem?_eq_some_iff.1 hu).1
    rw [pairCells_length] at this
    exact this
  have hadd : (⟨g, 0, none⟩ : Addr).add j = ⟨g, j, none⟩ := by unfold Addr.add; split <;> simp_all
  rw [hadd]
  have hi := pairCells_get A F n (j / 2) (by omega)
  have hc := h5 (j / 2) (by omega)
  by_cases e : j % 2 = 0
  · have ej : j / 2 * 2 = j := by omega
    rw [ej] at hi hc
    rw [hi.1] at hu
    rw [hc.1]; exact hu
  · have ej : j / 2 * 2 + 1 = j := by omega
    rw [ej] at hi hc
    rw [hi.2] at hu
    rw [hc.2]; exact hu

theorem run_firstCells_pairs (w : World) (ao : Option Addr) (g n cap : Nat) (A F : Nat → Int) (hn : 0 < n → ao = some ⟨g, 0, none⟩) (h5 : ∀ i, i < n → w.cell? ⟨g, i * 2, none⟩ = some (.int .i64 (A i)) ∧ w.cell? ⟨g, i * 2 + 1, none⟩ = some (.int .i64 (F i))) :
    (Builtin.firstCells 2 n (.slice ao n cap)).run P w = .ok (pairCells A F n).toArray w := by
  rcases Nat.eq_zero_or_pos n with e | e
  · subst e
    cases ao with
    | none => exact run_firstCells_none w 2 0 0 cap
    | some a => exact run_firstCells_some w 2 0 a 0 cap [] rfl (by simp)
  · rw [hn e]
    exact run_firstCells_some w 2 n ⟨g, 0, none⟩ n cap _ (pairCells_length A F n) (pairCells_in w g A F n h5)

/-- ONE PAIR MORE. -/
theorem run_pushPr (base : Nat) (w : World) (t ty e : TypeId) (i : TypeInfo) (ht : P.underlying t = some (.slice e)) (hi : P.info? e = some i) (hz : i.zero = some (.agg #[.int .i64 0, .int .i64 0])) (hsize : i.size = 2) (hby : i.bytes = 16)
    {v : Value} {n : Nat} {A F : Nat → Int} (h : OwnPr base w v n A F) (g0 : Nat) (c : Nat) (x y : Int) (hx : w.cell? ⟨g0, 0, none⟩ = some (.int .i64 x)) (hy : w.cell? ⟨g0, 1, none⟩ = some (.int .i64 y)) (A' F' : Nat → Int) (hA : ∀ j, j < n → A' j = A j) (hF : ∀ j, j < n → F' j = F j) (hAx : A' n = x) (hFy : F' n = y)
    (hn : n ≤ 4294967296) (hbase : base ≤ w.heap.size) :
    ∃ v' w', (Builtin.append_ #[t, t] ty #[v, .slice (some ⟨g0, 0, none⟩) 1 c]).run P w = .ok v' w' ∧ OwnPr base w' v' (n + 1) A' F' ∧ Below base w w' := by
  obtain ⟨ao, g, cap, rfl, h1, h2, h3, h4, h5⟩ := h
  have hsrc : Src P i.size t (.slice (some ⟨g0, 0, none⟩) 1 c) 1 [.int .i64 x, .int .i64 y] w := Src.ofSlice w ht ⟨g0, 0, none⟩ 1 c _ (by rw [hsize]; rfl) (by
    intro j u hu
    match j, hu with
    | 0, hu => simp at hu; subst hu; simpa [Addr.add] using hx
    | 1, hu => simp at hu; subst hu; simpa [Addr.add] using hy) (by intro u hu; simp at hu; rcases hu with rfl | rfl <;> rfl)
  by_cases hroom : n + 1 ≤ cap
  · obtain ⟨rfl, hg⟩ := h3 (by omega)
    have hcs : ∀ j, j < 2 → (w.cell? ⟨g, 0 + n * 2 + j, none⟩).isSome = true ∧ w.frozen? ⟨g, 0 + n * 2 + j, none⟩ = false := fun j hj => h4 _ (by omega)
    have hr := run_append_room_src (P := P) w t t ty e i ht hi g 0 n cap (.slice (some ⟨g0, 0, none⟩) 1 c) 1 [.int .i64 x, .int .i64 y] hsrc hroom
      (fun j hj => by rw [hsize]; exact (hcs j hj).1) (fun j hj => by rw [hsize]; exact (hcs j hj).2)
    rw [hsize] at hr
    have hin := World.cell?_setCells_in g [.int .i64 x, .int .i64 y] (0 + n * 2) w (fun j hj => (hcs j hj).1)
    have hin0 := hin 0 (by simp)
    have hin1 := hin 1 (by simp)
    have hout : ∀ o, (o < n * 2 ∨ n * 2 + 2 ≤ o) → (w.setCells g (0 + n * 2) [.int .i64 x, .int .i64 y]).cell? ⟨g, o, none⟩ = w.cell? ⟨g, o, none⟩ := fun o ho =>
      World.cell?_setCells_out g [.int .i64 x, .int .i64 y] (0 + n * 2) w ⟨g, o, none⟩ (fun _ _ => by simp; omega)
    simp only [Nat.zero_add, Nat.add_zero, List.getElem_cons_zero, List.getElem_cons_succ] at hin0 hin1 hout hr
    refine ⟨_, _, hr, ⟨some ⟨g, 0, none⟩, g, cap, rfl, hroom, h2, fun _ => ⟨rfl, hg⟩, fun j hj => ⟨?_, ?_⟩, fun j hj => ?_⟩, ?_⟩
    · by_cases e0 : j = n * 2
      · subst e0; rw [hin0]; rfl
      · by_cases e1 : j = n * 2 + 1
        · subst e1; rw [hin1]; rfl
        · rw [hout j (by omega)]; exact (h4 j hj).1
    · rw [World.frozen?_setCells]; exact (h4 j hj).2
    · by_cases e0 : j = n
      · subst e0; rw [hin0, hin1, hAx, hFy]; exact ⟨rfl, rfl⟩
      · rw [hout (j * 2) (by omega), hout (j * 2 + 1) (by omega), hA j (by omega), hF j (by omega)]; exact h5 j (by omega)
    · exact ((Below.refl base w).setCell (p := ⟨g, n * 2, none⟩) hg _).setCell (p := ⟨g, n * 2 + 1, none⟩) hg _
  · have hold : (Builtin.firstCells i.size n (.slice ao n cap)).run P w.drew = .ok (pairCells A F n).toArray w.drew := by
      rw [hsize]; exact run_firstCells_pairs (P := P) w.drew ao g n cap A F (fun hp => (h3 (by omega)).1) (fun j hj => by have := h5 j hj; exact this)
    have hr := run_append_grow_src (P := P) w t t ty e i (.agg #[.int .i64 0, .int .i64 0]) ht hi hz ao n cap _ hold (.slice (some ⟨g0, 0, none⟩) 1 c) 1 [.int .i64 x, .int .i64 y] hsrc (by omega) (by omega)
      (growslice_fits (by omega) (by rw [hby]; omega))
    have hge := grownCap_ge w (n + 1) cap e
    refine ⟨_, _, hr, ⟨_, w.heap.size, _, rfl, hge, grownCap_le_maxLen _ _ _ _ (by unfold maxLen; omega), fun _ => ⟨rfl, hbase⟩, fun j hj => ?_, fun j hj => ?_⟩, ?_⟩
    · rw [cell_new_drew, frozen_new_drew]
      refine ⟨?_, rfl⟩
      rw [Array.getElem?_eq_getElem (by
        simp only [Array.size_append, List.size_toArray, List.length_append, pairCells_length, List.length_cons, List.length_nil, size_zeroCells]
        show j < _ + (_ - _) * 2
        omega)]
      rfl
    · have hl := pairCells_length A F n
      have hj2 : j * 2 + 1 < ((pairCells A F n) ++ [Value.int .i64 x, Value.int .i64 y]).length := by simp [hl]; omega
      rw [cell_new_drew, cell_new_drew, Array.getElem?_append_left (by rw [List.size_toArray]; omega), Array.getElem?_append_left (by rw [List.size_toArray]; omega), List.getElem?_toArray, List.getElem?_toArray]
      by_cases e0 : j = n
      · subst e0
        rw [List.getElem?_append_right (by omega), List.getElem?_append_right (by omega), hl, hAx, hFy]
        simp
      · rw [List.getElem?_append_left (by omega), List.getElem?_append_left (by omega), hA j (by omega), hF j (by omega)]
        exact pairCells_get A F n j (by omega)
    · exact (Below.refl _ _).drew.alloc hbase _

/-- 'path = append(path, step{x, y})' in a walk, the pair just laid in a block of its own. -/
theorem wpList_pushPr {ops : Array Oper} {rest : List Oper} {o : Oper} {a : Act} {Q : Exit → Act → World → Prop} (base : Nat) (w : World) (hgd : o.guard = none) (s x : Operand) (t : TypeId)
    (ho : o.op = .call { callee := .builtin .append, args := #[s, x], argTypes := #[t, t] })
    (e : TypeId) (i : TypeInfo) (ht : P.underlying t = some (.slice e)) (hi : P.info? e = some i) (hz : i.zero = some (.agg #[.int .i64 0, .int .i64 0])) (hsize : i.size = 2) (hby : i.bytes = 16)
    {v : Value} {n : Nat} {A F : Nat → Int} (h : OwnPr base w v n A F) (hs : a.eval s = v) (x0 y0 : Int) {sz : Nat} (hx : a.eval x = .slice (some ⟨sz, 0, none⟩) 1 1) (hsz : sz = w.heap.size)
    (A' F' : Nat → Int) (hA : ∀ j, j < n → A' j = A j) (hF : ∀ j, j < n → F' j = F j) (hAx : A' n = x0) (hFy : F' n = y0) (hn : n ≤ 4294967296) (hbase : base ≤ w.heap.size)
    (hk : ∀ v' w', OwnPr base w' v' (n + 1) A' F' → Below base w w' → wpList P ops Q rest (a.put o.dst v') w') : wpList P ops Q (o :: rest) a (w.alloc (.cells #[.int .i64 x0, .int .i64 y0] e)) := by
  refine wpList_plain hgd fun K hK => ?_
  obtain ⟨v', w', hr, h2, h3⟩ := run_pushPr (P := P) base (w.alloc (.cells #[.int .i64 x0, .int .i64 y0] e)) t o.type e i ht hi hz hsize hby (h.alloc _) sz 1 x0 y0 (by simp [hsz]) (by simp [hsz]) A' F' hA hF hAx hFy hn (by simp; omega)
  unfold Oper.wp execOp
  simp only [ho, resolve, invoke, builtin, Sem.run_bind, Sem.run_pure, Result.andThen_ok, List.map_toArray, List.map_cons, List.map_nil, hs, hx, hr]
  exact hK _ _ (hk v' w' h2 (((Below.refl base w).alloc hbase _).trans h3))

end
end Go.Proofs.Qxb6600485a
