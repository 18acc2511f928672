/-
  The three boxed arguments between the calls of FnHyphenMembership; the two tests, in one form each.
-/
import Derived.Test.Qxb6602610aTop
import Derived.Deep.CutRange
namespace Go.Proofs.Qxb6602610a
open Go.RowKit Go.Deep Plain

/-- The three boxed arguments, from block B on. -/
def Bx (w : World) (B : Nat) (fM fm fp : Int) (fa : Option Addr) (fN fc : Nat) (fb : ByteArray) (fn : Int) (fw : Bool) (tM tm tp : Int) (ta : Option Addr) (tN tc : Nat) (tb : ByteArray) (tn : Int) (tw : Bool) (xM xm xp : Int) (xa : Option Addr) (xN xc : Nat) (xb : ByteArray) : Prop :=
  w.heap[B]? = some (partO fM fm fp fa fN fc fb fn fw) ∧ w.heap[B + 1]? = some (partO tM tm tp ta tN tc tb tn tw) ∧ w.heap[B + 1 + 1]? = some (verO xM xm xp xa xN xc xb)

section
variable {w : World} {B : Nat} {fM fm fp : Int} {fa : Option Addr} {fN fc : Nat} {fb : ByteArray} {fn : Int} {fw : Bool} {tM tm tp : Int} {ta : Option Addr} {tN tc : Nat} {tb : ByteArray} {tn : Int} {tw : Bool} {xM xm xp : Int} {xa : Option Addr} {xN xc : Nat} {xb : ByteArray}

theorem heap_lt {w : World} {g : Nat} {o : Obj} (h : w.heap[g]? = some o) : g < w.heap.size := (Array.getElem?_eq_some_iff.1 h).1

theorem Bx.later {w' : World} (h : Bx w B fM fm fp fa fN fc fb fn fw tM tm tp ta tN tc tb tn tw xM xm xp xa xN xc xb) (hb : Below w.heap.size w w') : Bx w' B fM fm fp fa fN fc fb fn fw tM tm tp ta tN tc tb tn tw xM xm xp xa xN xc xb :=
  ⟨(hb.block _ (heap_lt h.1)).trans h.1, (hb.block _ (heap_lt h.2.1)).trans h.2.1, (hb.block _ (heap_lt h.2.2)).trans h.2.2⟩

theorem Bx.start (w : World) : Bx (((w.alloc (partO fM fm fp fa fN fc fb fn fw)).alloc (partO tM tm tp ta tN tc tb tn tw)).alloc (verO xM xm xp xa xN xc xb)) w.heap.size fM fm fp fa fN fc fb fn fw tM tm tp ta tN tc tb tn tw xM xm xp xa xN xc xb := by
  refine ⟨?_, ?_, ?_⟩
  · rw [Below.heap_alloc _ _ _ (by simp; omega), Below.heap_alloc _ _ _ (by simp), blk_alloc_new]
  · rw [Below.heap_alloc _ _ _ (by simp)]
    have := blk_alloc_new (w.alloc (partO fM fm fp fa fN fc fb fn fw)) (partO tM tm tp ta tN tc tb tn tw)
    simpa using this
  · have := blk_alloc_new ((w.alloc (partO fM fm fp fa fN fc fb fn fw)).alloc (partO tM tm tp ta tN tc tb tn tw)) (verO xM xm xp xa xN xc xb)
    simpa using this

theorem Bx.setF (h : Bx w B fM fm fp fa fN fc fb fn fw tM tm tp ta tN tc tb tn tw xM xm xp xa xN xc xb) (a' : Option Addr) (c' : Nat) :
    Bx (w.setCell ⟨B, 3, none⟩ (.slice a' fN c')) B fM fm fp a' fN c' fb fn fw tM tm tp ta tN tc tb tn tw xM xm xp xa xN xc xb :=
  ⟨heap_setCell_same w B 3 _ 25 _ h.1, (heap_setCell_other w _ _ _ (by simp)).trans h.2.1, (heap_setCell_other w _ _ _ (by simp <;> omega)).trans h.2.2⟩
theorem Bx.setT (h : Bx w B fM fm fp fa fN fc fb fn fw tM tm tp ta tN tc tb tn tw xM xm xp xa xN xc xb) (a' : Option Addr) (c' : Nat) :
    Bx (w.setCell ⟨B + 1, 3, none⟩ (.slice a' tN c')) B fM fm fp fa fN fc fb fn fw tM tm tp a' tN c' tb tn tw xM xm xp xa xN xc xb :=
  ⟨(heap_setCell_other w _ _ _ (by simp)).trans h.1, heap_setCell_same w (B + 1) 3 _ 25 _ h.2.1, (heap_setCell_other w _ _ _ (by simp)).trans h.2.2⟩
theorem Bx.setX (h : Bx w B fM fm fp fa fN fc fb fn fw tM tm tp ta tN tc tb tn tw xM xm xp xa xN xc xb) (a' : Option Addr) (c' : Nat) :
    Bx (w.setCell ⟨B + 1 + 1, 3, none⟩ (.slice a' xN c')) B fM fm fp fa fN fc fb fn fw tM tm tp ta tN tc tb tn tw xM xm xp a' xN c' xb :=
  ⟨(heap_setCell_other w _ _ _ (by simp <;> omega)).trans h.1, (heap_setCell_other w _ _ _ (by simp)).trans h.2.1, heap_setCell_same w (B + 1 + 1) 3 _ 27 _ h.2.2⟩

theorem part_cells {g : Nat} (h : w.heap[g]? = some (partO fM fm fp fa fN fc fb fn fw)) :
    w.cell? ⟨g, 0, none⟩ = some (.int .u64 fM) ∧ w.cell? ⟨g, 1, none⟩ = some (.int .u64 fm) ∧ w.cell? ⟨g, 2, none⟩ = some (.int .u64 fp) ∧ w.cell? ⟨g, 3, none⟩ = some (.slice fa fN fc) ∧ w.cell? ⟨g, 4, none⟩ = some (.string fb) ∧ w.cell? ⟨g, 5, none⟩ = some (.int .i64 fn) ∧ w.cell? ⟨g, 6, none⟩ = some (.bool fw) ∧ w.frozen? ⟨g, 3, none⟩ = false := by
  have hc := fun j => cell_of_row w g j _ 25 _ h
  exact ⟨hc 0, hc 1, hc 2, hc 3, hc 4, hc 5, hc 6, frozen_of_row w g 3 _ 25 h⟩
theorem ver_cells {g : Nat} (h : w.heap[g]? = some (verO xM xm xp xa xN xc xb)) :
    w.cell? ⟨g, 0, none⟩ = some (.int .u64 xM) ∧ w.cell? ⟨g, 1, none⟩ = some (.int .u64 xm) ∧ w.cell? ⟨g, 2, none⟩ = some (.int .u64 xp) ∧ w.cell? ⟨g, 3, none⟩ = some (.slice xa xN xc) ∧ w.cell? ⟨g, 4, none⟩ = some (.string xb) ∧ w.frozen? ⟨g, 3, none⟩ = false := by
  have hc := fun j => cell_of_row w g j _ 27 _ h
  exact ⟨hc 0, hc 1, hc 2, hc 3, hc 4, frozen_of_row w g 3 _ 27 h⟩
end

/-- A list lies in none of the three boxes. -/
def Apart (B : Nat) (a : Option Addr) (N : Nat) : Prop := ∀ b off, 0 < N → a = some ⟨b, off, none⟩ → b < B ∨ B + 1 + 1 < b

/-- WHAT HOLDS BETWEEN TWO CALLS: the boxes lie as they are told; the three lists of strings too; nothing that was there has turned. -/
structure St (w0 w : World) (fM fm fp : Int) (fa : Option Addr) (fN fc : Nat) (fb : ByteArray) (fn : Int) (fw : Bool) (tM tm tp : Int) (ta : Option Addr) (tN tc : Nat) (tb : ByteArray) (tn : Int) (tw : Bool) (xM xm xp : Int) (xa : Option Addr) (xN xc : Nat) (xb : ByteArray) (F T X : Nat → ByteArray) : Prop where
  bx : Bx w w0.heap.size fM fm fp fa fN fc fb fn fw tM tm tp ta tN tc tb tn tw xM xm xp xa xN xc xb
  sF : Strs w fa fN F
  sT : Strs w ta tN T
  sX : Strs w xa xN X
  below : Below w0.heap.size w0 w
  apF : Apart w0.heap.size fa fN
  apT : Apart w0.heap.size ta tN
  apX : Apart w0.heap.size xa xN

section
variable {w0 w w' : World} {fM fm fp : Int} {fa : Option Addr} {fN fc : Nat} {fb : ByteArray} {fn : Int} {fw : Bool} {tM tm tp : Int} {ta : Option Addr} {tN tc : Nat} {tb : ByteArray} {tn : Int} {tw : Bool} {xM xm xp : Int} {xa : Option Addr} {xN xc : Nat} {xb : ByteArray} {F T X : Nat → ByteArray}
theorem St.later (h : St w0 w fM fm fp fa fN fc fb fn fw tM tm tp ta tN tc tb tn tw xM xm xp xa xN xc xb F T X) (hb : Below w.heap.size w w') : St w0 w' fM fm fp fa fN fc fb fn fw tM tm tp ta tN tc tb tn tw xM xm xp xa xN xc xb F T X :=
  ⟨h.bx.later hb, h.sF.later hb, h.sT.later hb, h.sX.later hb, h.below.trans (hb.mono h.below.size), h.apF, h.apT, h.apX⟩
theorem St.drew (h : St w0 w fM fm fp fa fN fc fb fn fw tM tm tp ta tN tc tb tn tw xM xm xp xa xN xc xb F T X) : St w0 w.drew fM fm fp fa fN fc fb fn fw tM tm tp ta tN tc tb tn tw xM xm xp xa xN xc xb F T X := ⟨h.bx, h.sF, h.sT, h.sX, h.below.drew, h.apF, h.apT, h.apX⟩
theorem St.drewN (h : St w0 w fM fm fp fa fN fc fb fn fw tM tm tp ta tN tc tb tn tw xM xm xp xa xN xc xb F T X) (q : Nat) : St w0 (w.drewN q) fM fm fp fa fN fc fb fn fw tM tm tp ta tN tc tb tn tw xM xm xp xa xN xc xb F T X := ⟨h.bx, h.sF, h.sT, h.sX, h.below.trans (below_drewN _ _ _), h.apF, h.apT, h.apX⟩

theorem Strs.set {a : Option Addr} {N : Nat} {f : Nat → ByteArray} (h : Strs w a N f) {g j : Nat} {v : Value} (hne : ∀ b off, 0 < N → a = some ⟨b, off, none⟩ → b ≠ g) : Strs (w.setCell ⟨g, j, none⟩ v) a N f := fun hp => by
  obtain ⟨b, off, e, hc⟩ := h hp
  refine ⟨b, off, e, fun i hi => ⟨?_, (hc i hi).2⟩⟩
  rw [World.cell?_setCell_other _ _ _ _ (fun e' => hne b off hp e (by have := congrArg Addr.block e'; simpa using this.symm))]
  exact (hc i hi).1

theorem Apart.set {B : Nat} {a : Option Addr} {N : Nat} {f : Nat → ByteArray} (h : Strs w a N f) (ha : Apart B a N) {g : Nat} {v : Value} (hg : B ≤ g ∧ g ≤ B + 1 + 1) : Strs (w.setCell ⟨g, 3, none⟩ v) a N f :=
  Strs.set h fun b off hp e => by have := ha b off hp e; omega

theorem Apart.of {a : Option Addr} {N : Nat} {f : Nat → ByteArray} (h : Strs w a N f) : Apart w.heap.size a N := fun b off hp e => by
  obtain ⟨b', off', e', hc⟩ := h hp
  rw [e'] at e; cases e
  exact .inl (World.block_lt_of_cell? _ _ (hc 0 hp).1)

/-- A copy lies above all that was there. -/
def Fresh (w : World) (a : Option Addr) : Prop := ∀ b off, a = some ⟨b, off, none⟩ → w.heap.size ≤ b

theorem Fresh.apart {B : Nat} {a : Option Addr} (h : Fresh w a) (N : Nat) (hB : B + 1 + 1 < w.heap.size) : Apart B a N := fun b off _ e => .inr (by have := h b off e; omega)

theorem St.size (h : St w0 w fM fm fp fa fN fc fb fn fw tM tm tp ta tN tc tb tn tw xM xm xp xa xN xc xb F T X) : w0.heap.size + 1 + 1 < w.heap.size := heap_lt h.bx.2.2

theorem St.setF (h : St w0 w fM fm fp fa fN fc fb fn fw tM tm tp ta tN tc tb tn tw xM xm xp xa xN xc xb F T X) (hb : Below w.heap.size w w') {a' : Option Addr} {c' : Nat} (hS : Strs w' a' fN F) (hf : Fresh w a') :
    St w0 (w'.setCell ⟨w0.heap.size, 3, none⟩ (.slice a' fN c')) fM fm fp a' fN c' fb fn fw tM tm tp ta tN tc tb tn tw xM xm xp xa xN xc xb F T X :=
  have h' := h.later hb
  have ha := hf.apart fN h.size
  ⟨h'.bx.setF a' c', ha.set hS (by omega), h.apT.set h'.sT (by omega), h.apX.set h'.sX (by omega), h'.below.setCell (Nat.le_refl _) _, ha, h.apT, h.apX⟩
theorem St.setT (h : St w0 w fM fm fp fa fN fc fb fn fw tM tm tp ta tN tc tb tn tw xM xm xp xa xN xc xb F T X) (hb : Below w.heap.size w w') {a' : Option Addr} {c' : Nat} (hS : Strs w' a' tN T) (hf : Fresh w a') :
    St w0 (w'.setCell ⟨w0.heap.size + 1, 3, none⟩ (.slice a' tN c')) fM fm fp fa fN fc fb fn fw tM tm tp a' tN c' tb tn tw xM xm xp xa xN xc xb F T X :=
  have h' := h.later hb
  have ha := hf.apart tN h.size
  ⟨h'.bx.setT a' c', h.apF.set h'.sF (by omega), ha.set hS (by omega), h.apX.set h'.sX (by omega), h'.below.setCell (by simp) _, h.apF, ha, h.apX⟩
theorem St.setX (h : St w0 w fM fm fp fa fN fc fb fn fw tM tm tp ta tN tc tb tn tw xM xm xp xa xN xc xb F T X) (hb : Below w.heap.size w w') {a' : Option Addr} {c' : Nat} (hS : Strs w' a' xN X) (hf : Fresh w a') :
    St w0 (w'.setCell ⟨w0.heap.size + 1 + 1, 3, none⟩ (.slice a' xN c')) fM fm fp fa fN fc fb fn fw tM tm tp ta tN tc tb tn tw xM xm xp a' xN c' xb F T X :=
  have h' := h.later hb
  have ha := hf.apart xN h.size
  ⟨h'.bx.setX a' c', h.apF.set h'.sF (by omega), h.apT.set h'.sT (by omega), ha.set hS (by omega), h'.below.setCell (by simp <;> omega) _, h.apF, h.apT, ha⟩
end

/-- THE COPY, with where it lies. -/
theorem clone_new (a : Option Addr) (len cap : Nat) (Z : Nat → ByteArray) (w : World) (hl : len ≤ 65536) (hnil : a = none → len = 0 ∧ cap = 0) (hZ : Strs w a len Z) :
    Calls Try.prog 7 #[.slice a len cap] w fun e w' => ∃ a' cap', e = .returned (.slice a' len cap') ∧ Strs w' a' len Z ∧ Below w.heap.size w w' ∧ Fresh w a' := by
  cases a with
  | none =>
    obtain ⟨rfl, rfl⟩ := hnil rfl
    exact (clone_nil w).mono fun e w' ⟨he, hw⟩ => ⟨none, 0, he, fun h => absurd h (Nat.lt_irrefl _), by rw [hw]; exact Below.refl _ _, fun _ _ h => (by cases h)⟩
  | some x =>
    exact (clone_some x len cap Z w hl hZ).mono fun e w' ⟨he, hC⟩ => ⟨_, len, he, fun hp => ⟨_, 0, rfl, fun i hi => ⟨by rw [Nat.zero_add, hC.row.cell hi, if_pos hi], by
      obtain ⟨_, _, _, hc⟩ := hZ hp
      exact (hc i hi).2⟩⟩, hC.below, fun b off h => by cases h; exact Nat.le_refl _⟩

/-- THE UPPER BOUND'S TEST. -/
def upper (tn xM xm xp : Int) (xN : Nat) (X : Nat → ByteArray) (tM tm tp : Int) (tN : Nat) (T : Nat → ByteArray) : Bool :=
  if tn ≤ 0 then true else if tn = 3 then decide (cmpM xM xm xp xN X tM tm tp tN T ≤ 0) else decide (cmpM xM xm xp xN X (bumpM tn tM) (bumpm tn tm) (bumpp tn tp) 0 (fun _ => .empty) < 0)

theorem top_any (tM tm tp : Int) (ta : Option Addr) (tN tc : Nat) (tb : ByteArray) (tn : Int) (tw : Bool) (xM xm xp : Int) (xa : Option Addr) (xN xc : Nat) (xb : ByteArray) (X T : Nat → ByteArray) (w : World) (hX : Strs w xa xN X) (hT : Strs w ta tN T) (hxN : xN ≤ 65536) (htN : tN ≤ 65536)
    (k1 : 0 ≤ tM) (k2 : 0 ≤ tm) (k3 : 0 ≤ tp) (k4 : 0 ≤ xM) (k5 : 0 ≤ xm) (k6 : 0 ≤ xp) (hf : Fine tn tM tm tp) :
    Calls Try.prog 11 #[part tM tm tp ta tN tc tb tn tw, ver xM xm xp xa xN xc xb] w (Tell w (upper tn xM xm xp xN X tM tm tp tN T)) := by
  obtain ⟨f1, f2, f3⟩ := hf
  unfold upper
  by_cases h0 : tn ≤ 0
  · rw [if_pos h0]; exact top_none tM tm tp ta tN tc tb tn tw xM xm xp xa xN xc xb w h0
  · rw [if_neg h0]
    by_cases h3 : tn = 3
    · subst h3
      rw [if_pos rfl]; exact top_three tM tm tp ta tN tc tb tw xM xm xp xa xN xc xb X T w hX hT hxN htN
    · rw [if_neg h3]
      by_cases h1 : tn = 1
      · subst h1
        exact top_one tM tm tp ta tN tc tb tw xM xm xp xa xN xc xb X _ w k4 k5 k6 k1 (f1 rfl) hxN
      · by_cases h2 : tn = 2
        · subst h2
          exact top_two tM tm tp ta tN tc tb tw xM xm xp xa xN xc xb X _ w k4 k5 k6 k2 (f2 rfl) hxN
        · rw [show bumpM tn tM = tM from by unfold bumpM; rw [if_neg h1], show bumpm tn tm = tm from by unfold bumpm; rw [if_neg h1, if_neg h2], show bumpp tn tp = tp + 1 from by unfold bumpp; rw [if_neg h1, if_neg h2]]
          exact top_more tM tm tp ta tN tc tb tn tw xM xm xp xa xN xc xb X _ w k4 k5 k6 k3 (f3 (by omega)) (by omega) hxN

theorem between_true (c d : Int) : between c d true = (decide (c ≤ 0) && decide (d ≤ 0)) := by
  unfold between
  congr 1
  by_cases h : d < 0
  · rw [decide_eq_true h, decide_eq_true (by omega)]; rfl
  · by_cases h2 : d = 0
    · subst h2; rfl
    · rw [decide_eq_false h, decide_eq_false (by omega), beq_eq_false_iff_ne.2 h2]; rfl
theorem between_false (c d : Int) : between c d false = (decide (c ≤ 0) && decide (d < 0)) := by
  unfold between
  rw [Bool.and_false, Bool.or_false]

theorem in_any {w0 : World} {tM tm tp : Int} {ta : Option Addr} {tN tc : Nat} {tb : ByteArray} {tn : Int} {lo hi : Option Addr} {hinc : Bool} (fM fm fp : Int) (fa : Option Addr) (fN fc : Nat) (fb : ByteArray) (xM xm xp : Int) (xa : Option Addr) (xN xc : Nat) (xb : ByteArray) (F T X : Nat → ByteArray) (w : World)
    (hy : Hy w0 w fM fm fp fa fN fc fb tM tm tp ta tN tc tb tn lo hi hinc) (hF : Strs w fa fN F) (hT : Strs w ta tN T) (hX : Strs w xa xN X) (hfN : fN ≤ 65536) (htN : tN ≤ 65536) (hxN : xN ≤ 65536) :
    Calls Try.prog 9 #[.pointer lo, .pointer hi, .bool true, .bool hinc, .bool false, ver xM xm xp xa xN xc xb] w (Tell w (decide (cmpM fM fm fp fN F xM xm xp xN X ≤ 0) && upper tn xM xm xp xN X tM tm tp tN T)) := by
  obtain ⟨_, ⟨gl, rfl, hl⟩, hc⟩ := hy
  unfold upper
  rcases hc with ⟨h0, rfl, rfl⟩ | ⟨h3, rfl, gh, rfl, hh⟩ | ⟨h1, h3, rfl, gh, rfl, hh⟩
  · rw [if_pos h0, Bool.and_true]
    exact in_none gl fM fm fp fa fN fc fb xM xm xp xa xN xc xb F X w hl hF hX hfN hxN
  · rw [if_neg (by omega), if_pos h3, ← between_true]
    exact in_some gl gh fM fm fp fa fN fc fb tM tm tp ta tN tc tb true xM xm xp xa xN xc xb F T X w hl hh hF hT hX hfN htN hxN
  · rw [if_neg (by omega), if_neg h3, ← between_false]
    exact in_some gl gh fM fm fp fa fN fc fb _ _ _ none 0 0 _ false xM xm xp xa xN xc xb F (fun _ => .empty) X w hl hh hF (fun h => absurd h (Nat.lt_irrefl _)) hX hfN (by omega) hxN

/-- What the sum of the three lengths tells. -/
theorem sum_fine {rF rT rX : Int} {fN tN xN : Nat} (f1 : 0 ≤ rF) (f2 : rF ≤ 4194304) (f3 : rF ≤ 1048576 → fN ≤ 65536) (t1 : 0 ≤ rT) (t2 : rT ≤ 4194304) (t3 : rT ≤ 1048576 → tN ≤ 65536) (x1 : 0 ≤ rX) (x2 : rX ≤ 4194304) (x3 : rX ≤ 1048576 → xN ≤ 65536)
    (h : decide (1048576 < IntKind.i64.wrap (IntKind.i64.wrap (rF + rT) + rX)) = false) : fN ≤ 65536 ∧ tN ≤ 65536 ∧ xN ≤ 65536 := by
  have h' := of_decide_eq_false h
  rw [wrap_sum f1 f2 t1 t2] at h'
  rw [show IntKind.i64.wrap (rF + rT + rX) = rF + rT + rX from by rw [IntKind.wrap_i64]; omega] at h'
  exact ⟨f3 (by omega), t3 (by omega), x3 (by omega)⟩

end Go.Proofs.Qxb6602610a
