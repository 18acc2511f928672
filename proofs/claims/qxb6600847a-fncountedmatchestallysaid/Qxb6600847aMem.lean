/-
  The call's own memory in FnCountedMatchesTally: a map and three slices that grow side by side, and what each step of the round does to them.
-/
import Derived.Test.Qxb6600847aSmall
import Derived.OwnWalk
import Derived.Deep.Draws
import Derived.Maps.AppendAt
namespace Go.Proofs.Qxb6600847a
open Go.RowKit Go.Deep Go.Maps Go.WideMaps Plain

def strs (N : Nat) (nm : Nat → ByteArray) : List Value := (List.range N).map fun i => .string (nm i)
def ints (N : Nat) (nt : Nat → Int) : List Value := (List.range N).map fun i => .int .i64 (nt i)
def bools (N : Nat) (lm : Nat → Bool) : List Value := (List.range N).map fun i => .bool (lm i)

theorem range_upd {α β : Type} (f : Nat → α) (F : α → β) (N : Nat) (v : α) : (List.range (N + 1)).map (fun i => F (upd f N v i)) = (List.range N).map (fun i => F (f i)) ++ [F v] := by
  rw [List.range_succ, List.map_append, List.map_cons, List.map_nil, upd_same]
  congr 1
  exact List.map_congr_left (fun i hi => by rw [upd_other _ _ (by have := List.mem_range.1 hi; omega)])

theorem range_set {α β : Type} (f : Nat → α) (F : α → β) (N j : Nat) (v : α) : ((List.range N).map (fun i => F (f i))).set j (F v) = (List.range N).map (fun i => F (upd f j v i)) := by
  apply List.ext_getElem?
  intro i
  rw [List.getElem?_set]
  by_cases e : j = i
  · subst e
    by_cases hj : j < N
    · simp [hj, upd_same]
    · simp [hj]
  · rw [if_neg e]
    by_cases hi : i < N
    · simp [hi, upd_other _ _ (fun h => e h.symm)]
    · simp [hi]

theorem owns_some {w : World} {base : Nat} {e : TypeId} {size : Nat} {v : Value} {n : Nat} {xs : List Value} (h : w.ownsRow base e size v n xs) (hn : 0 < n) : ∃ g c, v = .slice (some ⟨g, 0, none⟩) n c ∧ base ≤ g ∧ n ≤ c ∧ c ≤ maxLen := by
  rcases h.2 with ⟨_, rfl⟩ | ⟨g, cap, cur, rfl, hb, hh, h1, h2, _⟩
  · omega
  · exact ⟨g, cap, rfl, hb, h1, h2⟩

theorem rows_apart {w : World} {base : Nat} {e1 e2 : TypeId} {s1 s2 : Nat} {v1 v2 : Value} {n1 n2 : Nat} {x1 x2 : List Value} (h1 : w.ownsRow base e1 s1 v1 n1 x1) (h2 : w.ownsRow base e2 s2 v2 n2 x2) (hne : e1 ≠ e2) : v1.ownBlock = none ∨ v1.ownBlock ≠ v2.ownBlock := by
  rcases h1.2 with ⟨rfl, _⟩ | ⟨g, cap, cur, rfl, _, hg, _⟩
  · exact .inl rfl
  · refine .inr fun h => ?_
    rcases h2.2 with ⟨rfl, _⟩ | ⟨g', cap', cur', rfl, _, hg', _⟩
    · simp [Value.ownBlock] at h
    · simp only [Value.ownBlock, Option.some.injEq] at h
      rw [h, hg'] at hg
      simp only [Option.some.injEq, Obj.cells.injEq] at hg
      exact hne hg.2.1.symm

theorem map_apart {w : World} {bm n : Nat} {D : DataW Unit} (hm : Owned w bm n D) {base : Nat} {e : TypeId} {s : Nat} {v : Value} {m : Nat} {x : List Value} (h : w.ownsRow base e s v m x) : some bm ≠ v.ownBlock := by
  intro he
  rcases h.2 with ⟨rfl, _⟩ | ⟨g, cap, cur, rfl, _, hg, _⟩
  · simp [Value.ownBlock] at he
  · simp only [Value.ownBlock, Option.some.injEq] at he
    exact neq_of_map hm _ _ _ _ hg he.symm

theorem row_off_map {w : World} {bm : Nat} (hne : ∀ (g : Nat) cs t fr, w.heap[g]? = some (.cells cs t fr) → g ≠ bm) {base : Nat} {e : TypeId} {s : Nat} {v : Value} {m : Nat} {x : List Value} (h : w.ownsRow base e s v m x) : v.ownBlock = none ∨ v.ownBlock ≠ some bm := by
  rcases h.2 with ⟨rfl, _⟩ | ⟨g, cap, cur, rfl, _, hg, _⟩
  · exact .inl rfl
  · exact .inr (fun he => by
      simp only [Value.ownBlock, Option.some.injEq] at he
      exact hne _ _ _ _ hg he)

/-- WHAT HOLDS OF THE CALL's OWN MEMORY: the map v5 (at most k entries, the datum D), the names v6, the net counts v7, the last calls v8. -/
structure Mem (wc wr : World) (v5 v6 v7 v8 : Value) (k : Nat) (D : DataW Unit) (N6 : Nat) (nm : Nat → ByteArray) (N7 : Nat) (nt : Nat → Int) (N8 : Nat) (lm : Nat → Bool) : Prop where
  below : Below wc.heap.size wc wr
  map : MapAt wr wc.heap.size v5 k D
  r6 : wr.ownsRow wc.heap.size 9 1 v6 N6 (strs N6 nm)
  r7 : wr.ownsRow wc.heap.size 3 1 v7 N7 (ints N7 nt)
  r8 : wr.ownsRow wc.heap.size 4 1 v8 N8 (bools N8 lm)

section
variable {wc wr w1 : World} {v5 v6 v7 v8 v' : Value} {k : Nat} {D : DataW Unit} {N6 : Nat} {nm : Nat → ByteArray} {N7 : Nat} {nt : Nat → Int} {N8 : Nat} {lm : Nat → Bool}

theorem Mem.start (wc : World) (nm : Nat → ByteArray) (nt : Nat → Int) (lm : Nat → Bool) : Mem wc wc (.map none) (.slice none 0 0) (.slice none 0 0) (.slice none 0 0) 0 (.map []) 0 nm 0 nt 0 lm :=
  ⟨Below.refl _ _, .inl ⟨rfl, rfl⟩, World.ownsRow_nil _ _ _ _, World.ownsRow_nil _ _ _ _, World.ownsRow_nil _ _ _ _⟩

theorem Mem.drewN (h : Mem wc wr v5 v6 v7 v8 k D N6 nm N7 nt N8 lm) (q : Nat) : Mem wc (wr.drewN q) v5 v6 v7 v8 k D N6 nm N7 nt N8 lm :=
  ⟨h.below.trans ⟨rfl, rfl, rfl, Nat.le_refl _, fun _ _ => rfl⟩, h.map, h.r6, h.r7, h.r8⟩

theorem Mem.drew (h : Mem wc wr v5 v6 v7 v8 k D N6 nm N7 nt N8 lm) : Mem wc wr.drew v5 v6 v7 v8 k D N6 nm N7 nt N8 lm :=
  ⟨h.below.drew, h.map, h.r6, h.r7, h.r8⟩

theorem MapAt.kept {w w' : World} {base : Nat} {mv : Value} {n : Nat} {D : DataW Unit} {row : Option Nat} (h : MapAt w base mv n D) (hg : w.grownBy w' row) (hne : ∀ bm, Owned w bm n D → some bm ≠ row) : MapAt w' base mv n D := by
  rcases h with h | ⟨bm, e, hb, ho⟩
  · exact .inl h
  · exact .inr ⟨bm, e, hb, ho.kept hg (hne bm ho)⟩

/-- Behind 'counted'. -/
theorem Mem.counted (h : Mem wc wr v5 v6 v7 v8 k D N6 nm N7 nt N8 lm) {bm k' : Nat} {D' : DataW Unit} (ho : Owned w1 bm k' D') (hg : wr.grownBy w1 (some bm)) (hb : wc.heap.size ≤ bm) (hne : ∀ (g : Nat) cs t fr, wr.heap[g]? = some (.cells cs t fr) → g ≠ bm) :
    Mem wc w1 (.map (some bm)) v6 v7 v8 k' D' N6 nm N7 nt N8 lm :=
  ⟨h.below.grown hg h.below.size (fun j hj => by cases hj; exact hb), .inr ⟨bm, rfl, hb, ho⟩, h.r6.kept hg (row_off_map hne h.r6), h.r7.kept hg (row_off_map hne h.r7), h.r8.kept hg (row_off_map hne h.r8)⟩

theorem Mem.alloc (h : Mem wc wr v5 v6 v7 v8 k D N6 nm N7 nt N8 lm) (o : Obj) : Mem wc (wr.alloc o) v5 v6 v7 v8 k D N6 nm N7 nt N8 lm :=
  ⟨h.below.alloc h.below.size o, h.map.kept (World.grownBy_alloc _ _ none) (fun _ _ => by simp), h.r6.alloc o, h.r7.alloc o, h.r8.alloc o⟩

/-- Behind 'names = append(names, s)'. -/
theorem Mem.app6 (h : Mem wc wr v5 v6 v7 v8 k D N6 nm N7 nt N8 lm) {s : ByteArray} (ho : w1.ownsRow wc.heap.size 9 1 v' (N6 + 1) (strs N6 nm ++ [.string s])) (hg : wr.grownBy w1 v6.ownBlock) :
    Mem wc w1 v5 v' v7 v8 k D (N6 + 1) (upd nm N6 s) N7 nt N8 lm :=
  ⟨h.below.grown hg h.below.size (fun j hj => (h.r6.lt j hj).1), h.map.kept hg (fun _ hm => map_apart hm h.r6), by rw [strs, range_upd nm Value.string]; exact ho,
    h.r7.kept hg (rows_apart h.r7 h.r6 (by decide)), h.r8.kept hg (rows_apart h.r8 h.r6 (by decide))⟩

theorem Mem.app7 (h : Mem wc wr v5 v6 v7 v8 k D N6 nm N7 nt N8 lm) {z : Int} (ho : w1.ownsRow wc.heap.size 3 1 v' (N7 + 1) (ints N7 nt ++ [.int .i64 z])) (hg : wr.grownBy w1 v7.ownBlock) :
    Mem wc w1 v5 v6 v' v8 k D N6 nm (N7 + 1) (upd nt N7 z) N8 lm :=
  ⟨h.below.grown hg h.below.size (fun j hj => (h.r7.lt j hj).1), h.map.kept hg (fun _ hm => map_apart hm h.r7), h.r6.kept hg (rows_apart h.r6 h.r7 (by decide)), by rw [ints, range_upd nt (Value.int .i64)]; exact ho,
    h.r8.kept hg (rows_apart h.r8 h.r7 (by decide))⟩

theorem Mem.app8 (h : Mem wc wr v5 v6 v7 v8 k D N6 nm N7 nt N8 lm) {z : Bool} (ho : w1.ownsRow wc.heap.size 4 1 v' (N8 + 1) (bools N8 lm ++ [.bool z])) (hg : wr.grownBy w1 v8.ownBlock) :
    Mem wc w1 v5 v6 v7 v' k D N6 nm N7 nt (N8 + 1) (upd lm N8 z) :=
  ⟨h.below.grown hg h.below.size (fun j hj => (h.r8.lt j hj).1), h.map.kept hg (fun _ hm => map_apart hm h.r8), h.r6.kept hg (rows_apart h.r6 h.r8 (by decide)), h.r7.kept hg (rows_apart h.r7 h.r8 (by decide)),
    by rw [bools, range_upd lm Value.bool]; exact ho⟩

/-- Behind 'nets[j] = z'. -/
theorem Mem.set7 {g c : Nat} (h : Mem wc wr v5 v6 (.slice (some ⟨g, 0, none⟩) N7 c) v8 k D N6 nm N7 nt N8 lm) (j : Nat) (z : Int) :
    Mem wc (wr.setCell ⟨g, j, none⟩ (.int .i64 z)) v5 v6 (.slice (some ⟨g, 0, none⟩) N7 c) v8 k D N6 nm N7 (upd nt j z) N8 lm := by
  obtain ⟨ho, hg⟩ := h.r7.stored j (.int .i64 z)
  exact ⟨h.below.grown hg h.below.size (fun i hi => (h.r7.lt i hi).1), h.map.kept hg (fun _ hm => map_apart hm h.r7), h.r6.kept hg (rows_apart h.r6 h.r7 (by decide)),
    by rw [ints, ← range_set nt (Value.int .i64)]; exact ho, h.r8.kept hg (rows_apart h.r8 h.r7 (by decide))⟩

theorem Mem.set8 {g c : Nat} (h : Mem wc wr v5 v6 v7 (.slice (some ⟨g, 0, none⟩) N8 c) k D N6 nm N7 nt N8 lm) (j : Nat) (z : Bool) :
    Mem wc (wr.setCell ⟨g, j, none⟩ (.bool z)) v5 v6 v7 (.slice (some ⟨g, 0, none⟩) N8 c) k D N6 nm N7 nt N8 (upd lm j z) := by
  obtain ⟨ho, hg⟩ := h.r8.stored j (.bool z)
  exact ⟨h.below.grown hg h.below.size (fun i hi => (h.r8.lt i hi).1), h.map.kept hg (fun _ hm => map_apart hm h.r8), h.r6.kept hg (rows_apart h.r6 h.r8 (by decide)),
    h.r7.kept hg (rows_apart h.r7 h.r8 (by decide)), by rw [bools, ← range_set lm Value.bool]; exact ho⟩

theorem Mem.cell6 {g c : Nat} (h : Mem wc wr v5 (.slice (some ⟨g, 0, none⟩) N6 c) v7 v8 k D N6 nm N7 nt N8 lm) {j : Nat} (hj : j < N6) : wr.cell? ⟨g, j, none⟩ = some (.string (nm j)) := by
  rw [h.r6.cellAt j (by omega)]; simp [strs, hj]
theorem Mem.cell7 {g c : Nat} (h : Mem wc wr v5 v6 (.slice (some ⟨g, 0, none⟩) N7 c) v8 k D N6 nm N7 nt N8 lm) {j : Nat} (hj : j < N7) : wr.cell? ⟨g, j, none⟩ = some (.int .i64 (nt j)) := by
  rw [h.r7.cellAt j (by omega)]; simp [ints, hj]
theorem Mem.cell8 {g c : Nat} (h : Mem wc wr v5 v6 v7 (.slice (some ⟨g, 0, none⟩) N8 c) k D N6 nm N7 nt N8 lm) {j : Nat} (hj : j < N8) : wr.cell? ⟨g, j, none⟩ = some (.bool (lm j)) := by
  rw [h.r8.cellAt j (by omega)]; simp [bools, hj]
theorem Mem.free7 {g c : Nat} (h : Mem wc wr v5 v6 (.slice (some ⟨g, 0, none⟩) N7 c) v8 k D N6 nm N7 nt N8 lm) (j : Nat) : wr.frozen? ⟨g, j, none⟩ = false := h.r7.frozenAt j
theorem Mem.free8 {g c : Nat} (h : Mem wc wr v5 v6 v7 (.slice (some ⟨g, 0, none⟩) N8 c) k D N6 nm N7 nt N8 lm) (j : Nat) : wr.frozen? ⟨g, j, none⟩ = false := h.r8.frozenAt j

theorem row_none {w : World} {base : Nat} {e : TypeId} {a : Option Addr} {n c : Nat} {xs : List Value} (h : w.ownsRow base e 1 (.slice a n c) n xs) (hp : 0 < n) : ∃ g, a = some ⟨g, 0, none⟩ := by
  obtain ⟨g, c', hv, _⟩ := owns_some h hp
  simp only [Value.slice.injEq] at hv
  exact ⟨g, hv.1⟩

theorem Mem.strs {a : Option Addr} {c : Nat} (h : Mem wc wr v5 (.slice a N6 c) v7 v8 k D N6 nm N7 nt N8 lm) : Strs wr a N6 nm := fun hp => by
  obtain ⟨g, rfl⟩ := row_none h.r6 hp
  exact ⟨g, 0, rfl, fun i hi => by rw [Nat.zero_add]; exact h.cell6 hi⟩
end

/-- A cell that the copied script lies in. -/
theorem Mem.op {wc wr : World} {v5 v6 v7 v8 : Value} {k : Nat} {D : DataW Unit} {N6 : Nat} {nm : Nat → ByteArray} {N7 : Nat} {nt : Nat → Int} {N8 : Nat} {lm : Nat → Bool}
    (h : Mem wc wr v5 v6 v7 v8 k D N6 nm N7 nt N8 lm) {b o : Nat} {v : Value} (hc : wc.cell? ⟨b, o, none⟩ = some v) : wr.cell? ⟨b, o, none⟩ = some v := by
  rw [h.below.cell (p := ⟨b, o, none⟩) (World.block_lt_of_cell? _ _ hc)]; exact hc

end Go.Proofs.Qxb6600847a
