/-
  Seat b6600485a: a slice of integers that the call itself has made, at whatever offset of its block ('q = q[1:]'), grown one element at a time by append. Told by its cells.
-/
import Derived.Test.Qxb6600485aBase
import Derived.Deep.AppendSrc
namespace Go.Proofs.Qxb6600485a
open Go.RowKit

/-- v is a slice of n integers, f; all its cells up to its capacity are there, are not frozen and lie in blocks from 'base' on. -/
def OwnSl (base : Nat) (w : World) (v : Value) (n : Nat) (f : Nat → Int) : Prop :=
  ∃ ao g off cap, v = .slice ao n cap ∧ n ≤ cap ∧ cap ≤ maxLen ∧ (0 < cap → ao = some ⟨g, off, none⟩ ∧ base ≤ g) ∧
    (∀ i, i < cap → (w.cell? ⟨g, off + i, none⟩).isSome = true ∧ w.frozen? ⟨g, off + i, none⟩ = false) ∧ ∀ i, i < n → w.cell? ⟨g, off + i, none⟩ = some (.int .i64 (f i))

theorem OwnSl.nil (base : Nat) (w : World) (f : Nat → Int) : OwnSl base w (.slice none 0 0) 0 f :=
  ⟨none, 0, 0, 0, rfl, Nat.le_refl _, Nat.zero_le _, fun h => absurd h (Nat.not_lt_zero _), fun _ h => absurd h (Nat.not_lt_zero _), fun _ h => absurd h (Nat.not_lt_zero _)⟩

theorem lt_of_isSome {w : World} {g o : Nat} (h : (w.cell? ⟨g, o, none⟩).isSome = true) : g < w.heap.size := by
  obtain ⟨x, hx⟩ := Option.isSome_iff_exists.1 h
  exact World.block_lt_of_cell? _ _ hx

/-- It looks at blocks from base on alone: what leaves those that are there as they are leaves it. -/
theorem OwnSl.carry {base : Nat} {w w' : World} {v : Value} {n : Nat} {f : Nat → Int} (h : OwnSl base w v n f) (hb : ∀ g, base ≤ g → g < w.heap.size → w'.heap[g]? = w.heap[g]?) : OwnSl base w' v n f := by
  obtain ⟨ao, g, off, cap, rfl, h1, h2, h3, h4, h5⟩ := h
  have key : ∀ i, i < cap → w'.heap[g]? = w.heap[g]? := fun i hi => hb g (h3 (by omega)).2 (lt_of_isSome (h4 i hi).1)
  refine ⟨ao, g, off, cap, rfl, h1, h2, h3, fun i hi => ?_, fun i hi => ?_⟩
  · rw [World.cell?_of_block (w := w) (a := ⟨g, off + i, none⟩) (key i hi), World.frozen?_of_block (w := w) (a := ⟨g, off + i, none⟩) (key i hi)]
    exact h4 i hi
  · rw [World.cell?_of_block (w := w) (a := ⟨g, off + i, none⟩) (key i (by omega))]
    exact h5 i hi

theorem OwnSl.alloc {base : Nat} {w : World} {v : Value} {n : Nat} {f : Nat → Int} (h : OwnSl base w v n f) (o : Obj) : OwnSl base (w.alloc o) v n f :=
  h.carry (fun g _ hg => Below.heap_alloc w o g hg)

theorem OwnSl.drew {base : Nat} {w : World} {v : Value} {n : Nat} {f : Nat → Int} (h : OwnSl base w v n f) : OwnSl base w.drew v n f := h.carry (fun _ _ _ => rfl)

theorem OwnSl.setBelow {base : Nat} {w : World} {v : Value} {n : Nat} {f : Nat → Int} (h : OwnSl base w v n f) {p : Addr} (hp : p.block < base) (u : Value) : OwnSl base (w.setCell p u) v n f :=
  h.carry (fun g hg _ => Below.heap_setCell w p u g (by omega))

theorem OwnSl.below {base : Nat} {w w' : World} {v : Value} {n : Nat} {f : Nat → Int} (h : OwnSl base w v n f) (hb : Below w.heap.size w w') : OwnSl base w' v n f :=
  h.carry (fun g _ hg => hb.block g hg)

theorem OwnSl.congr {base : Nat} {w : World} {v : Value} {n : Nat} {f f' : Nat → Int} (h : OwnSl base w v n f) (e : ∀ i, i < n → f i = f' i) : OwnSl base w v n f' := by
  obtain ⟨ao, g, off, cap, rfl, h1, h2, h3, h4, h5⟩ := h
  exact ⟨ao, g, off, cap, rfl, h1, h2, h3, h4, fun i hi => by rw [h5 i hi, e i hi]⟩

/-- A new block of one cell: '[]int{x}'. -/
theorem OwnSl.one (base : Nat) (w : World) (x : Int) (f : Nat → Int) (hb : base ≤ w.heap.size) (hx : f 0 = x) : OwnSl base (w.alloc (.cells #[.int .i64 x] 3)) (.slice (some ⟨w.heap.size, 0, none⟩) 1 1) 1 f := by
  refine ⟨_, w.heap.size, 0, 1, rfl, Nat.le_refl _, by decide, fun _ => ⟨rfl, hb⟩, fun i hi => ?_, fun i hi => ?_⟩
  · obtain rfl : i = 0 := by omega
    simp
  · obtain rfl : i = 0 := by omega
    simp [hx]

/-- 'make([]int, 0, n)', or any new row of ints of which nothing is in use. -/
theorem OwnSl.made (base : Nat) (w : World) (n : Nat) (f : Nat → Int) (hb : base ≤ w.heap.size) (hm : n ≤ maxLen) : OwnSl base (w.alloc (.cells (madeCells #[.int .i64 0] n) 3)) (.slice (some ⟨w.heap.size, 0, none⟩) 0 n) 0 f := by
  have hr := World.rowIs_made w (.int .i64 0) n 3
  refine ⟨_, w.heap.size, 0, n, rfl, Nat.zero_le _, hm, fun _ => ⟨rfl, hb⟩, fun i hi => ?_, fun _ hi => absurd hi (Nat.not_lt_zero _)⟩
  rw [Nat.zero_add, hr.cell hi, hr.frozen i]
  exact ⟨rfl, rfl⟩

/-- Read as a slice. -/
theorem OwnSl.at {base : Nat} {w : World} {v : Value} {n : Nat} {f : Nat → Int} (h : OwnSl base w v n f) : ∃ ao cap, v = .slice ao n cap ∧ IntsFrom base w ao n f := by
  obtain ⟨ao, g, off, cap, rfl, h1, h2, h3, h4, h5⟩ := h
  exact ⟨ao, cap, rfl, fun j hj => ⟨g, off, (h3 (by omega)).1, (h3 (by omega)).2, h5 j hj⟩⟩

section
variable {P : Program}

theorem run_firstCells_ints (w : World) (size : Nat) (hs : size = 1) (ao : Option Addr) (g off n cap : Nat) (f : Nat → Int) (hn : 0 < n → ao = some ⟨g, off, none⟩) (hc : ∀ i, i < n → w.cell? ⟨g, off + i, none⟩ = some (.int .i64 (f i))) :
    (Builtin.firstCells size n (.slice ao n cap)).run P w = .ok ((List.range n).map fun i => Value.int .i64 (f i)).toArray w := by
  subst hs
  rcases Nat.eq_zero_or_pos n with e | e
  · subst e
    cases ao with
    | none => exact run_firstCells_none w 1 0 0 cap
    | some A => exact run_firstCells_some w 1 0 A 0 cap [] rfl (by simp)
  · rw [hn e]
    refine run_firstCells_some w 1 n ⟨g, off, none⟩ n cap _ (by simp) ?_
    intro j u hu
    have hj : j < n := by
      have := (List.getElem?_eq_some_iff.1 hu).1
      simpa using this
    have hadd : (⟨g, off, none⟩ : Addr).add j = ⟨g, off + j, none⟩ := by simp [Addr.add]
    rw [hadd, hc j hj]
    simp [hj] at hu
    rw [hu]

theorem cell_new_drew (w : World) (arr : Array Value) (e : TypeId) (j : Nat) : (w.drew.alloc (.cells arr e)).cell? ⟨w.heap.size, j, none⟩ = arr[j]? := by
  have hh : (w.drew.alloc (.cells arr e)).heap[w.heap.size]? = some (.cells arr e (0, 0)) := heap_alloc_new w.drew _
  simp only [World.cell?, hh]
  simp

theorem frozen_new_drew (w : World) (arr : Array Value) (e : TypeId) (j : Nat) : (w.drew.alloc (.cells arr e)).frozen? ⟨w.heap.size, j, none⟩ = false := by
  have hh : (w.drew.alloc (.cells arr e)).heap[w.heap.size]? = some (.cells arr e (0, 0)) := heap_alloc_new w.drew _
  simp only [World.frozen?, hh]
  simp

/-- ONE ELEMENT MORE. -/
theorem run_push (base : Nat) (w : World) (t ty e : TypeId) (i : TypeInfo) (ht : P.underlying t = some (.slice e)) (hi : P.info? e = some i) (hz : i.zero = some (.int .i64 0)) (hsize : i.size = 1) (hby : i.bytes = 8)
    {v : Value} {n : Nat} {f : Nat → Int} (h : OwnSl base w v n f) (ad : Addr) (c : Nat) (x : Int) (hx : w.cell? ad = some (.int .i64 x)) (f' : Nat → Int) (hf : ∀ j, j < n → f' j = f j) (hfx : f' n = x)
    (hn : n ≤ 4294967296) (hbase : base ≤ w.heap.size) :
    ∃ v' w', (Builtin.append_ #[t, t] ty #[v, .slice (some ad) 1 c]).run P w = .ok v' w' ∧ OwnSl base w' v' (n + 1) f' ∧ Below base w w' := by
  obtain ⟨ao, g, off, cap, rfl, h1, h2, h3, h4, h5⟩ := h
  have hsrc : Src P i.size t (.slice (some ad) 1 c) 1 [.int .i64 x] w := Src.ofSlice w ht ad 1 c _ (by rw [hsize]; rfl) (by
    intro j u hu
    match j, hu with
    | 0, hu => simp at hu; subst hu; have : ad.add 0 = ad := by simp [Addr.add]
               rw [this]; exact hx) (by intro u hu; simp at hu; subst hu; rfl)
  by_cases hroom : n + 1 ≤ cap
  · obtain ⟨rfl, hg⟩ := h3 (by omega)
    have hr := run_append_room_src (P := P) w t t ty e i ht hi g off n cap (.slice (some ad) 1 c) 1 [.int .i64 x] hsrc hroom
      (fun j hj => by rw [hsize, Nat.mul_one]; simp at hj; subst hj; exact (h4 n (by omega)).1) (fun j hj => by rw [hsize, Nat.mul_one]; simp at hj; subst hj; exact (h4 n (by omega)).2)
    rw [hsize, Nat.mul_one] at hr
    have hsome := (h4 n (by omega)).1
    have hin : (w.setCells g (off + n) [.int .i64 x]).cell? ⟨g, off + n, none⟩ = some (.int .i64 x) := by
      have := World.cell?_setCells_in g [.int .i64 x] (off + n) w (fun j hj => by simp at hj; subst hj; exact hsome) 0 (by simp)
      simpa using this
    have hout : ∀ j, j ≠ n → (w.setCells g (off + n) [.int .i64 x]).cell? ⟨g, off + j, none⟩ = w.cell? ⟨g, off + j, none⟩ := fun j hj =>
      World.cell?_setCells_out g [.int .i64 x] (off + n) w ⟨g, off + j, none⟩ (fun _ _ => by simp; omega)
    refine ⟨_, _, hr, ⟨some ⟨g, off, none⟩, g, off, cap, rfl, hroom, h2, fun _ => ⟨rfl, hg⟩, fun j hj => ⟨?_, ?_⟩, fun j hj => ?_⟩, ?_⟩
    · by_cases e : j = n
      · subst e; rw [hin]; rfl
      · rw [hout j e]; exact (h4 j hj).1
    · rw [World.frozen?_setCells]; exact (h4 j hj).2
    · by_cases e : j = n
      · subst e; rw [hin, hfx]
      · rw [hout j e, h5 j (by omega), hf j (by omega)]
    · exact (Below.refl _ _).setCell (B := base) (p := ⟨g, off + n, none⟩) hg _
  · have hold := run_firstCells_ints (P := P) w.drew i.size hsize ao g off n cap f (fun hp => (h3 (by omega)).1) (fun j hj => by rw [← h5 j hj]; rfl)
    have hr := run_append_grow_src (P := P) w t t ty e i (.int .i64 0) ht hi hz ao n cap _ hold (.slice (some ad) 1 c) 1 [.int .i64 x] hsrc (by omega) (by omega)
      (growslice_fits (by omega) (by rw [hby]; omega))
    refine ⟨_, _, hr, ⟨_, w.heap.size, 0, _, rfl, grownCap_ge _ _ _ _, grownCap_le_maxLen _ _ _ _ (by unfold maxLen; omega), fun _ => ⟨rfl, hbase⟩, fun j hj => ?_, fun j hj => ?_⟩, ?_⟩
    · rw [Nat.zero_add, cell_new_drew, frozen_new_drew]
      refine ⟨?_, rfl⟩
      rw [Array.getElem?_eq_getElem (by
        simp only [Array.size_append, List.size_toArray, List.length_append, List.length_map, List.length_range, List.length_cons, List.length_nil, size_zeroCells]
        show j < _ + (_ - _) * 1
        omega)]
      rfl
    · rw [Nat.zero_add, cell_new_drew, Array.getElem?_append_left (by simp; omega), List.getElem?_toArray]
      by_cases e : j = n
      · subst e
        rw [List.getElem?_append_right (by simp)]
        simp [hfx]
      · rw [List.getElem?_append_left (by simp; omega), hf j (by omega), List.getElem?_map, List.getElem?_range (by omega)]
        rfl
    · exact (Below.refl _ _).drew.alloc hbase _

theorem wp_push {o : Oper} {a : Act} {K : Act → World → Prop} {Q : Exit → Act → World → Prop} (base : Nat) (w : World) (s x : Operand) (t : TypeId)
    (ho : o.op = .call { callee := .builtin .append, args := #[s, x], argTypes := #[t, t] })
    (e : TypeId) (i : TypeInfo) (ht : P.underlying t = some (.slice e)) (hi : P.info? e = some i) (hz : i.zero = some (.int .i64 0)) (hsize : i.size = 1) (hby : i.bytes = 8)
    {v : Value} {n : Nat} {f : Nat → Int} (hs : a.eval s = v) (h : OwnSl base w v n f) (ad : Addr) (c : Nat) (x0 : Int) (hx : a.eval x = .slice (some ad) 1 c) (hxc : w.cell? ad = some (.int .i64 x0))
    (f' : Nat → Int) (hf : ∀ j, j < n → f' j = f j) (hfx : f' n = x0) (hn : n ≤ 4294967296) (hbase : base ≤ w.heap.size)
    (hk : ∀ v' w', OwnSl base w' v' (n + 1) f' → Below base w w' → K (a.put o.dst v') w') : o.wp P a w K Q := by
  obtain ⟨v', w', hr, h2, h3⟩ := run_push (P := P) base w t o.type e i ht hi hz hsize hby h ad c x0 hxc f' hf hfx hn hbase
  unfold Oper.wp execOp
  simp only [ho, resolve, invoke, builtin, Sem.run_bind, Sem.run_pure, Result.andThen_ok, List.map_toArray, List.map_cons, List.map_nil, hs, hx, hr]
  exact hk v' w' h2 h3

/-- 'q = append(q, x)' in a walk: 'go_wp2_with (at_builtin; refine wpList_push ..)'. -/
theorem wpList_push {ops : Array Oper} {rest : List Oper} {o : Oper} {a : Act} {Q : Exit → Act → World → Prop} (base : Nat) (w : World) (hgd : o.guard = none) (s x : Operand) (t : TypeId)
    (ho : o.op = .call { callee := .builtin .append, args := #[s, x], argTypes := #[t, t] })
    (e : TypeId) (i : TypeInfo) (ht : P.underlying t = some (.slice e)) (hi : P.info? e = some i) (hz : i.zero = some (.int .i64 0)) (hsize : i.size = 1) (hby : i.bytes = 8)
    {v : Value} {n : Nat} {f : Nat → Int} (hs : a.eval s = v) (h : OwnSl base w v n f) (ad : Addr) (c : Nat) (x0 : Int) (hx : a.eval x = .slice (some ad) 1 c) (hxc : w.cell? ad = some (.int .i64 x0))
    (f' : Nat → Int) (hf : ∀ j, j < n → f' j = f j) (hfx : f' n = x0) (hn : n ≤ 4294967296) (hbase : base ≤ w.heap.size)
    (hk : ∀ v' w', OwnSl base w' v' (n + 1) f' → Below base w w' → wpList P ops Q rest (a.put o.dst v') w') : wpList P ops Q (o :: rest) a w :=
  wpList_plain hgd fun _ hK => wp_push base w s x t ho e i ht hi hz hsize hby hs h ad c x0 hx hxc f' hf hfx hn hbase fun v' w' h2 h3 => hK _ _ (hk v' w' h2 h3)

/-- The same, the element just laid by '[]int{x}' in a block of its own: all is told of the world ahead of that block. -/
theorem wpList_push1 {ops : Array Oper} {rest : List Oper} {o : Oper} {a : Act} {Q : Exit → Act → World → Prop} (base : Nat) (w : World) (hgd : o.guard = none) (s x : Operand) (t : TypeId)
    (ho : o.op = .call { callee := .builtin .append, args := #[s, x], argTypes := #[t, t] })
    (i : TypeInfo) (ht : P.underlying t = some (.slice 3)) (hi : P.info? 3 = some i) (hz : i.zero = some (.int .i64 0)) (hsize : i.size = 1) (hby : i.bytes = 8)
    {v : Value} {n : Nat} {f : Nat → Int} (h : OwnSl base w v n f) (hs : a.eval s = v) (x0 : Int) {sz : Nat} (hx : a.eval x = .slice (some ⟨sz, 0, none⟩) 1 1) (hsz : sz = w.heap.size)
    (f' : Nat → Int) (hf : ∀ j, j < n → f' j = f j) (hfx : f' n = x0) (hn : n ≤ 4294967296) (hbase : base ≤ w.heap.size)
    (hk : ∀ v' w', OwnSl base w' v' (n + 1) f' → Below base w w' → wpList P ops Q rest (a.put o.dst v') w') : wpList P ops Q (o :: rest) a (w.alloc (.cells #[.int .i64 x0] 3)) :=
  wpList_push base _ hgd s x t ho 3 i ht hi hz hsize hby hs (h.alloc _) ⟨sz, 0, none⟩ 1 x0 hx (by simp [hsz]) f' hf hfx hn (by simp; omega)
    (fun v' w' h1 h2 => hk v' w' h1 (((Below.refl base w).alloc hbase _).trans h2))

end
end Go.Proofs.Qxb6600485a
