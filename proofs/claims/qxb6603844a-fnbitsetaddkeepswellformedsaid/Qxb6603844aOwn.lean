/-
  Seat b6603844a: a slice of words that the call itself has made, told by its cells and its block ('g': none where it has no capacity), grown one word at a time.
-/
import Derived.Test.Qxb6603844aBase
namespace Go.Proofs.Qxb6603844a
open Go.RowKit

/-- v is a slice of n words, f, in block g; all its cells up to its capacity are there and are not frozen. -/
def OwnW (g : Option Nat) (w : World) (v : Value) (n : Nat) (f : Nat → Nat) : Prop :=
  ∃ ao cap, v = .slice ao n cap ∧ n ≤ cap ∧ cap ≤ maxLen ∧
    ((cap = 0 ∧ g = none) ∨ ∃ b off, 0 < cap ∧ g = some b ∧ ao = some ⟨b, off, none⟩ ∧ (∀ i, i < cap → (w.cell? ⟨b, off + i, none⟩).isSome = true ∧ w.frozen? ⟨b, off + i, none⟩ = false) ∧
      ∀ i, i < n → w.cell? ⟨b, off + i, none⟩ = some (.int .u64 (f i : Int)))

theorem lt_of_isSome {w : World} {g o : Nat} (h : (w.cell? ⟨g, o, none⟩).isSome = true) : g < w.heap.size := by
  obtain ⟨x, hx⟩ := Option.isSome_iff_exists.1 h
  exact World.block_lt_of_cell? _ _ hx

theorem OwnW.lt {g : Option Nat} {w : World} {v : Value} {n : Nat} {f : Nat → Nat} (h : OwnW g w v n f) : ∀ b, g = some b → b < w.heap.size := by
  obtain ⟨ao, cap, rfl, h1, h2, h3⟩ := h
  intro b hb
  rcases h3 with ⟨_, e⟩ | ⟨b', off, h0, e, ea, h4, h5⟩
  · rw [e] at hb; cases hb
  · rw [e] at hb; cases hb
    exact lt_of_isSome (h4 0 h0).1

/-- It looks at its own block alone. -/
theorem OwnW.carry {g : Option Nat} {w w' : World} {v : Value} {n : Nat} {f : Nat → Nat} (h : OwnW g w v n f) (hb : ∀ b, g = some b → w'.heap[b]? = w.heap[b]?) : OwnW g w' v n f := by
  obtain ⟨ao, cap, rfl, h1, h2, h3⟩ := h
  refine ⟨ao, cap, rfl, h1, h2, ?_⟩
  rcases h3 with h3 | ⟨b, off, h0, e, ea, h4, h5⟩
  · exact .inl h3
  · refine .inr ⟨b, off, h0, e, ea, fun i hi => ?_, fun i hi => ?_⟩
    · rw [World.cell?_of_block (w := w) (a := ⟨b, off + i, none⟩) (hb b e), World.frozen?_of_block (w := w) (a := ⟨b, off + i, none⟩) (hb b e)]
      exact h4 i hi
    · rw [World.cell?_of_block (w := w) (a := ⟨b, off + i, none⟩) (hb b e)]
      exact h5 i hi

theorem OwnW.alloc {g : Option Nat} {w : World} {v : Value} {n : Nat} {f : Nat → Nat} (h : OwnW g w v n f) (o : Obj) : OwnW g (w.alloc o) v n f :=
  h.carry (fun b hb => Below.heap_alloc w o b (h.lt b hb))

theorem OwnW.setOther {g : Option Nat} {w : World} {v : Value} {n : Nat} {f : Nat → Nat} (h : OwnW g w v n f) {p : Addr} (hp : g ≠ some p.block) (u : Value) : OwnW g (w.setCell p u) v n f :=
  h.carry (fun b hb => Below.heap_setCell w p u b (fun e => hp (by rw [hb, e])))

theorem OwnW.below {g : Option Nat} {w w' : World} {v : Value} {n : Nat} {f : Nat → Nat} (h : OwnW g w v n f) (hb : Below w.heap.size w w') : OwnW g w' v n f :=
  h.carry (fun b e => hb.block b (h.lt b e))

theorem OwnW.congr {g : Option Nat} {w : World} {v : Value} {n : Nat} {f f' : Nat → Nat} (h : OwnW g w v n f) (e : ∀ i, i < n → f i = f' i) : OwnW g w v n f' := by
  obtain ⟨ao, cap, rfl, h1, h2, h3⟩ := h
  refine ⟨ao, cap, rfl, h1, h2, ?_⟩
  rcases h3 with h3 | ⟨b, off, h0, eg, ea, h4, h5⟩
  · exact .inl h3
  · exact .inr ⟨b, off, h0, eg, ea, h4, fun i hi => by rw [h5 i hi, e i hi]⟩

theorem OwnW.at {g : Option Nat} {w : World} {v : Value} {n : Nat} {f : Nat → Nat} (h : OwnW g w v n f) : ∃ ao cap, v = .slice ao n cap ∧ WordsAt w ao n f := by
  obtain ⟨ao, cap, rfl, h1, h2, h3⟩ := h
  refine ⟨ao, cap, rfl, fun j hj => ?_⟩
  rcases h3 with ⟨e, _⟩ | ⟨b, off, h0, eg, ea, h4, h5⟩
  · omega
  · exact ⟨b, off, ea, h5 j hj⟩

/-- Element k: where it lies, and a store into it. -/
theorem OwnW.elem {g : Option Nat} {w : World} {v : Value} {n : Nat} {f : Nat → Nat} (h : OwnW g w v n f) {k : Nat} (hk : k < n) : ∃ b off cap, g = some b ∧ v = .slice (some ⟨b, off, none⟩) n cap ∧ w.cell? ⟨b, off + k, none⟩ = some (.int .u64 (f k : Int)) ∧ w.frozen? ⟨b, off + k, none⟩ = false ∧
    ∀ x : Nat, OwnW g (w.setCell ⟨b, off + k, none⟩ (.int .u64 (x : Int))) v n (fun i => if i = k then x else f i) := by
  obtain ⟨ao, cap, rfl, h1, h2, h3⟩ := h
  rcases h3 with ⟨e, _⟩ | ⟨b, off, h0, eg, ea, h4, h5⟩
  · omega
  · subst ea
    refine ⟨b, off, cap, eg, rfl, h5 k hk, (h4 k (by omega)).2, fun x => ⟨_, cap, rfl, h1, h2, .inr ⟨b, off, h0, eg, rfl, fun i hi => ⟨?_, ?_⟩, fun i hi => ?_⟩⟩⟩
    · by_cases e : i = k
      · subst e; rw [World.cell?_setCell_same _ _ _ (h5 i hk)]; rfl
      · rw [World.cell?_setCell_other _ _ _ _ (fun h => by have := (Addr.mk.inj h).2.1; omega)]; exact (h4 i hi).1
    · rw [World.frozen?_setCell]; exact (h4 i hi).2
    · by_cases e : i = k
      · subst e; rw [World.cell?_setCell_same _ _ _ (h5 i hk)]; simp
      · rw [World.cell?_setCell_other _ _ _ _ (fun h => by have := (Addr.mk.inj h).2.1; omega)]; simp only [if_neg e]; exact h5 i hi

section
variable {P : Program}

theorem cell_new_drew (w : World) (arr : Array Value) (e : TypeId) (j : Nat) : (w.drew.alloc (.cells arr e)).cell? ⟨w.heap.size, j, none⟩ = arr[j]? := by
  have hh : (w.drew.alloc (.cells arr e)).heap[w.heap.size]? = some (.cells arr e (0, 0)) := heap_alloc_new w.drew _
  simp only [World.cell?, hh]
  simp

theorem frozen_new_drew (w : World) (arr : Array Value) (e : TypeId) (j : Nat) : (w.drew.alloc (.cells arr e)).frozen? ⟨w.heap.size, j, none⟩ = false := by
  have hh : (w.drew.alloc (.cells arr e)).heap[w.heap.size]? = some (.cells arr e (0, 0)) := heap_alloc_new w.drew _
  simp only [World.frozen?, hh]
  simp

/-- ONE WORD MORE. -/
theorem run_pushW (w : World) (t ty e : TypeId) (i : TypeInfo) (ht : P.underlying t = some (.slice e)) (hi : P.info? e = some i) (hz : i.zero = some (.int .u64 0)) (hsize : i.size = 1) (hby : i.bytes = 8)
    {g : Option Nat} {v : Value} {n : Nat} {f : Nat → Nat} (h : OwnW g w v n f) (ad : Addr) (c : Nat) (x : Nat) (hx : w.cell? ad = some (.int .u64 (x : Int))) (f' : Nat → Nat) (hf : ∀ j, j < n → f' j = f j) (hfx : f' n = x)
    (hn : n ≤ 4294967296) :
    ∃ v' w' g', (Builtin.append_ #[t, t] ty #[v, .slice (some ad) 1 c]).run P w = .ok v' w' ∧ OwnW g' w' v' (n + 1) f' ∧ w.grownBy w' g ∧ (g' = g ∨ g' = some w.heap.size) := by
  obtain ⟨ao, cap, rfl, h1, h2, h3⟩ := h
  have hsrc : Src P i.size t (.slice (some ad) 1 c) 1 [.int .u64 (x : Int)] w := Src.ofSlice w ht ad 1 c _ (by rw [hsize]; rfl) (by
    intro j u hu
    match j, hu with
    | 0, hu => simp at hu; subst hu; have : ad.add 0 = ad := by simp [Addr.add]
               rw [this]; exact hx) (by intro u hu; simp at hu; subst hu; rfl)
  -- the end of either way that lays a new row
  have grow : cap < n + 1 →
      (Builtin.firstCells i.size n (.slice ao n cap)).run P w.drew = .ok ((List.range n).map fun i => Value.int .u64 (f i : Int)).toArray w.drew →
      ∃ v' w' g', (Builtin.append_ #[t, t] ty #[.slice ao n cap, .slice (some ad) 1 c]).run P w = .ok v' w' ∧ OwnW g' w' v' (n + 1) f' ∧ w.grownBy w' g ∧ (g' = g ∨ g' = some w.heap.size) := by
    intro hcap hold
    have hr := run_append_grow_src (P := P) w t t ty e i (.int .u64 0) ht hi hz ao n cap _ hold (.slice (some ad) 1 c) 1 [.int .u64 (x : Int)] hsrc (by omega) (by omega)
      (growslice_fits (by omega) (by rw [hby]; omega))
    have hge := grownCap_ge w (n + 1) cap e
    refine ⟨_, _, some w.heap.size, hr, ⟨_, _, rfl, hge, grownCap_le_maxLen _ _ _ _ (by unfold maxLen; omega), .inr ⟨w.heap.size, 0, by omega, rfl, rfl, fun j hj => ?_, fun j hj => ?_⟩⟩, ⟨rfl, rfl, rfl, by simp, fun k hk _ => Below.heap_alloc w.drew _ k hk⟩, .inr rfl⟩
    · rw [Nat.zero_add, cell_new_drew, frozen_new_drew]
      refine ⟨?_, rfl⟩
      rw [Array.getElem?_eq_getElem (by
        simp only [Array.size_append, List.size_toArray, List.length_append, List.length_map, List.length_range, List.length_cons, List.length_nil, size_zeroCells]
        show j < _ + (_ - _) * 1
        omega)]
      rfl
    · rw [Nat.zero_add, cell_new_drew, Array.getElem?_append_left (by simp; omega), List.getElem?_toArray]
      by_cases ej : j = n
      · subst ej
        rw [List.getElem?_append_right (by simp)]
        simp [hfx]
      · rw [List.getElem?_append_left (by simp; omega), hf j (by omega), List.getElem?_map, List.getElem?_range (by omega)]
        rfl
  rcases h3 with ⟨hc0, hg⟩ | ⟨b, off, h0, hg, rfl, h4, h5⟩
  · obtain rfl : n = 0 := by omega
    refine grow (by omega) ?_
    subst hc0
    rw [hsize]
    cases ao with
    | none => exact run_firstCells_none w.drew 1 0 0 0
    | some A => exact run_firstCells_some w.drew 1 0 A 0 0 [] rfl (by simp)
  · by_cases hroom : n + 1 ≤ cap
    · have hr := run_append_room_src (P := P) w t t ty e i ht hi b off n cap (.slice (some ad) 1 c) 1 [.int .u64 (x : Int)] hsrc hroom
        (fun j hj => by rw [hsize, Nat.mul_one]; simp at hj; subst hj; exact (h4 n (by omega)).1) (fun j hj => by rw [hsize, Nat.mul_one]; simp at hj; subst hj; exact (h4 n (by omega)).2)
      rw [hsize, Nat.mul_one] at hr
      have hsome := (h4 n (by omega)).1
      have hin : (w.setCells b (off + n) [.int .u64 (x : Int)]).cell? ⟨b, off + n, none⟩ = some (.int .u64 (x : Int)) := by
        have := World.cell?_setCells_in b [.int .u64 (x : Int)] (off + n) w (fun j hj => by simp at hj; subst hj; exact hsome) 0 (by simp)
        simpa using this
      have hout : ∀ j, j ≠ n → (w.setCells b (off + n) [.int .u64 (x : Int)]).cell? ⟨b, off + j, none⟩ = w.cell? ⟨b, off + j, none⟩ := fun j hj =>
        World.cell?_setCells_out b [.int .u64 (x : Int)] (off + n) w ⟨b, off + j, none⟩ (fun _ _ => by simp; omega)
      refine ⟨_, _, g, hr, ⟨_, cap, rfl, hroom, h2, .inr ⟨b, off, h0, hg, rfl, fun j hj => ⟨?_, ?_⟩, fun j hj => ?_⟩⟩, ⟨rfl, rfl, rfl, by simp [World.setCells], fun k hk hne => ?_⟩, .inl rfl⟩
      · by_cases ej : j = n
        · subst ej; rw [hin]; rfl
        · rw [hout j ej]; exact (h4 j hj).1
      · rw [World.frozen?_setCells]; exact (h4 j hj).2
      · by_cases ej : j = n
        · subst ej; rw [hin, hfx]
        · rw [hout j ej, h5 j (by omega), hf j (by omega)]
      · exact Below.heap_setCell w ⟨b, off + n, none⟩ _ k (fun ek => hne (by rw [hg, ek]))
    · refine grow (by omega) ?_
      rw [hsize]
      refine run_firstCells_some w.drew 1 n ⟨b, off, none⟩ n cap _ (by simp) ?_
      intro j u hu
      have hj : j < n := by
        have := (List.getElem?_eq_some_iff.1 hu).1
        simpa using this
      have hadd : (⟨b, off, none⟩ : Addr).add j = ⟨b, off + j, none⟩ := by simp [Addr.add]
      rw [hadd]
      have hc : w.drew.cell? ⟨b, off + j, none⟩ = some (.int .u64 (f j : Int)) := h5 j hj
      rw [hc]
      simp [hj] at hu
      rw [hu]

/-- 'ws = append(ws, 0)' in a walk, the word just laid in a block of its own. -/
theorem wpList_pushW {ops : Array Oper} {rest : List Oper} {o : Oper} {a : Act} {Q : Exit → Act → World → Prop} (w : World) (hgd : o.guard = none) (s x : Operand) (t : TypeId)
    (ho : o.op = .call { callee := .builtin .append, args := #[s, x], argTypes := #[t, t] })
    (e : TypeId) (i : TypeInfo) (ht : P.underlying t = some (.slice e)) (hi : P.info? e = some i) (hz : i.zero = some (.int .u64 0)) (hsize : i.size = 1) (hby : i.bytes = 8)
    {g : Option Nat} {v : Value} {n : Nat} {f : Nat → Nat} (h : OwnW g w v n f) (hs : a.eval s = v) (x0 : Nat) {sz : Nat} (hx : a.eval x = .slice (some ⟨sz, 0, none⟩) 1 1) (hsz : sz = w.heap.size) {ov : Value} (hov : ov = .int .u64 (x0 : Int))
    (f' : Nat → Nat) (hf : ∀ j, j < n → f' j = f j) (hfx : f' n = x0) (hn : n ≤ 4294967296)
    (hk : ∀ v' w' g', OwnW g' w' v' (n + 1) f' → w.grownBy w' g → (g' = g ∨ ∃ b, g' = some b ∧ w.heap.size ≤ b) → wpList P ops Q rest (a.put o.dst v') w') : wpList P ops Q (o :: rest) a (w.alloc (.cells #[ov] e)) := by
  subst hov
  refine wpList_plain hgd fun K hK => ?_
  obtain ⟨v', w', g', hr, h2, h3, h4⟩ := run_pushW (P := P) (w.alloc (.cells #[.int .u64 (x0 : Int)] e)) t o.type e i ht hi hz hsize hby (h.alloc _) ⟨sz, 0, none⟩ 1 x0 (by simp [hsz]) f' hf hfx hn
  unfold Oper.wp execOp
  simp only [ho, resolve, invoke, builtin, Sem.run_bind, Sem.run_pure, Result.andThen_ok, List.map_toArray, List.map_cons, List.map_nil, hs, hx, hr]
  refine hK _ _ (hk v' w' g' h2 ⟨h3.os, h3.tape, h3.output, Nat.le_trans (by simp) h3.size, fun k hk hne => (h3.block k (by simp; omega) hne).trans (Below.heap_alloc w _ k hk)⟩ ?_)
  rcases h4 with e | e
  · exact .inl e
  · exact .inr ⟨_, e, by simp⟩

end
end Go.Proofs.Qxb6603844a
