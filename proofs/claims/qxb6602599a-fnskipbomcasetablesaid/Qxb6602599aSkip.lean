/-
  (*Stream).keep and (*Stream).skipBOM, on a stream that has not begun.
-/
import Derived.Test.Qxb6602599aSmall
import Derived.OwnWalk
import Derived.Laws.IdiomStrings
import Derived.Maps.AppendAt
namespace Go.Proofs.Qxb6602599a
open Go.RowKit Go.Deep

abbrev nil8 : Value := .slice none 0 0

section
variable {w : World} {g : Nat} {at_ : Int} {pend : Bool} {bom : Int} {begun : Bool} {line : Value} {size : Int}
theorem Stream.setAt (h : Stream w g at_ pend bom begun line size) (x : Int) : Stream (w.setCell ⟨g, 0, none⟩ (.int .u8 x)) g x pend bom begun line size := heap_setCell_same w g 0 _ 35 _ h
theorem Stream.setPend (h : Stream w g at_ pend bom begun line size) (x : Bool) : Stream (w.setCell ⟨g, 1, none⟩ (.bool x)) g at_ x bom begun line size := heap_setCell_same w g 1 _ 35 _ h
theorem Stream.setBom (h : Stream w g at_ pend bom begun line size) (x : Int) : Stream (w.setCell ⟨g, 2, none⟩ (.int .i64 x)) g at_ pend x begun line size := heap_setCell_same w g 2 _ 35 _ h
theorem Stream.setBegun (h : Stream w g at_ pend bom begun line size) (x : Bool) : Stream (w.setCell ⟨g, 3, none⟩ (.bool x)) g at_ pend bom x line size := heap_setCell_same w g 3 _ 35 _ h
theorem Stream.setLine (h : Stream w g at_ pend bom begun line size) (x : Value) : Stream (w.setCell ⟨g, 8, none⟩ x) g at_ pend bom begun x size := heap_setCell_same w g 8 _ 35 _ h
theorem Stream.setSize (h : Stream w g at_ pend bom begun line size) (x : Int) : Stream (w.setCell ⟨g, 12, none⟩ (.int .i64 x)) g at_ pend bom begun line x := heap_setCell_same w g 12 _ 35 _ h
theorem Stream.drewN (h : Stream w g at_ pend bom begun line size) (q : Nat) : Stream (w.drewN q) g at_ pend bom begun line size := h
theorem Stream.free (h : Stream w g at_ pend bom begun line size) (j : Nat) : w.frozen? ⟨g, j, none⟩ = false := frozen_of_row w g j _ 35 h
theorem Stream.lt (h : Stream w g at_ pend bom begun line size) : g < w.heap.size := (Array.getElem?_eq_some_iff.1 h).1
theorem Stream.alloc (h : Stream w g at_ pend bom begun line size) (o : Obj) : Stream (w.alloc o) g at_ pend bom begun line size := (Below.heap_alloc w o g h.lt).trans h
theorem Stream.grown {w' : World} (h : Stream w g at_ pend bom begun line size) (hg : w.grownBy w' none) : Stream w' g at_ pend bom begun line size := (hg.block g h.lt (by simp)).trans h
end

theorem owns_some {w : World} {base : Nat} {e : TypeId} {size : Nat} {v : Value} {n : Nat} {xs : List Value} (h : w.ownsRow base e size v n xs) (hn : 0 < n) : ∃ g c, v = .slice (some ⟨g, 0, none⟩) n c ∧ base ≤ g ∧ n ≤ c ∧ c ≤ maxLen := by
  rcases h.2 with ⟨_, rfl⟩ | ⟨g, cap, cur, rfl, hb, hh, h1, h2, _⟩
  · omega
  · exact ⟨g, cap, rfl, hb, h1, h2⟩

theorem row_one (m : Nat) (Z : Nat → Int) : ∀ u ∈ ((List.range m).map fun i => Value.int .u8 (Z i)), u.oneCell' = true := by
  intro u hu
  obtain ⟨_, _, rfl⟩ := List.mem_map.1 hu
  rfl

/-- What keep leaves: the bytes in a slice of the call's own, their number in size. -/
def KeepPost (w : World) (g B m : Nat) (bom : Int) (begun : Bool) (Z : Nat → Int) : Ending → World → Prop := fun e w' =>
  e = .returned (.tuple #[]) ∧ ∃ g' c, Stream w' g 3 true bom begun (.slice (some ⟨g', 0, none⟩) m c) m ∧ (∀ i, i < m → w'.cell? ⟨g', i, none⟩ = some (.int .u8 (Z i))) ∧ g' ≠ g ∧ Below B w w'

set_option maxHeartbeats 800000 in
theorem keep_any (w : World) (g B gb m c : Nat) (bom : Int) (begun : Bool) (Z : Nat → Int) (hm : 0 < m) (hm3 : m ≤ 3) (hB : B ≤ g) (h : Stream w g 3 true bom begun nil8 0) (hc : ∀ i, i < m → w.cell? ⟨gb, i, none⟩ = some (.int .u8 (Z i))) (hne : gb ≠ g) :
    Calls Try.prog 12 #[.pointer (some ⟨g, 0, none⟩), .slice (some ⟨gb, 0, none⟩) m c] w (KeepPost w g B m bom begun Z) := by
  obtain ⟨i0, hi, hz0, hz1, hz2⟩ := info_parts Try.info5
  obtain ⟨c0, c1, c2, c3, c4, c5, c6, c7, c8, c9, c10, c11, c12⟩ := stream_cells h
  have f12 := h.free 12
  have HS := hide (h.setSize (m : Int))
  have d8 := (stream_cells HS.out).2.2.2.2.2.2.2.2.1
  have hlt := h.lt
  have hnews : ∀ (j : Nat) (u : Value), ((List.range m).map fun i => Value.int .u8 (Z i))[j]? = some u → (w.setCell ⟨g, 12, none⟩ (.int .i64 (m : Int))).cell? ((⟨gb, 0, none⟩ : Addr).add j) = some u := fun j u hu => by
    have hj : j < m := by simpa using (List.getElem?_eq_some_iff.1 hu).1
    rw [Addr.add_lit, Nat.zero_add, World.cell?_setCell_other _ _ _ _ (fun e => hne (by have := congrArg Addr.block e; simpa using this.symm)), hc j hj]
    simpa [hj] using hu
  have HN := hide hnews
  clear h hnews hc
  go_enter Try.func12, Try.ntmps12
  go_wp2_with (first
    | (go_at_call 13; go_in)
    | (at_builtin; refine wpList_append_own _ rfl (.tmp 44) (.tmp 45) 22 rfl w.heap.size 5 i0 (.int .u8 0) 1 1 Try.underlying22 hi hz0 hz1 hz2 rfl (by decide) _ 0 [] rfl (World.ownsRow_nil _ _ _ _) ⟨gb, 0, none⟩ m c ((List.range m).map fun i => Value.int .u8 (Z i)) rfl (by simp) HN.out (row_one m Z) (by unfold maxLen; omega) (by omega) (by simp) ?_; intro v' w1 hown' hgrow hnil; rw [Nat.zero_add, List.nil_append] at hown'; obtain ⟨g', c', hv, hg', _⟩ := owns_some hown' hm; subst hv; have hg0 : (w.setCell ⟨g, 12, none⟩ (.int .i64 (m : Int))).grownBy w1 none := hgrow; have HS1 := hide (HS.out.grown hg0); have HL := hide (HS1.out.setLine (.slice (some ⟨g', 0, none⟩) m c')); have e8 := (stream_cells HS1.out).2.2.2.2.2.2.2.2.1; have f8 := HS1.out.free 8; have HC := hide (fun (i : Nat) (hi : i < m) => hown'.cellAt i (by omega)); have HB : Hid (Below B w w1) := ((Below.refl B w).setCell hB _).grown hg0 (by simp; omega) (fun _ h => by cases h); clear hown' hgrow hnil hg0))
  go_end0
  refine ⟨rfl, g', c', HL.out, fun i hi => ?_, by omega, HB.out.setCell hB _⟩
  rw [World.cell?_setCell_other _ _ _ _ (fun e => by have := congrArg Addr.block e; simp at this; omega), HC.out i hi]
  simp [hi]
/-- k is how many bytes of p continue the mark, b0 of which have come. -/
def Most (b0 len : Nat) (Z : Nat → Int) (k : Nat) : Prop := k ≤ len ∧ b0 + k ≤ 3 ∧ Cont Z b0 k ∧ (k = len ∨ b0 + k = 3 ∨ Z k ≠ mb (b0 + k))

/-- How the stream lies behind skipBOM. -/
def SkipCase (w : World) (g b0 len k : Nat) : Prop :=
  (b0 + k = 3 ∧ Stream w g 0 false 0 true nil8 0) ∨
  (b0 + k < 3 ∧ k = len ∧ Stream w g 0 false ((b0 + k : Nat) : Int) false nil8 0) ∨
  (b0 + k = 0 ∧ k < len ∧ Stream w g 0 false 0 true nil8 0) ∨
  (0 < b0 + k ∧ b0 + k < 3 ∧ k < len ∧ ∃ g' c, Stream w g 3 true 0 true (.slice (some ⟨g', 0, none⟩) (b0 + k) c) ((b0 + k : Nat) : Int) ∧ ∀ i, i < b0 + k → w.cell? ⟨g', i, none⟩ = some (.int .u8 (mb i)))

def SkipPost (w : World) (g b0 len : Nat) (Z : Nat → Int) : Ending → World → Prop := fun e w' =>
  ∃ k : Nat, e = .returned (.int .i64 (k : Int)) ∧ Most b0 len Z k ∧ SkipCase w' g b0 len k ∧ Below g w w'

theorem cont_step {Z : Nat → Int} {b0 k j : Nat} (h : Cont Z b0 k) (hj : b0 + k = j) (hz : Z k = mb j) : Cont Z b0 (k + 1) := fun i hi => by
  by_cases e : i = k
  · subst e; rw [hz, hj]
  · exact h i (by omega)

theorem stream_step {w : World} {g b0 k j : Nat} (h : Stream w g 0 false (j : Int) false nil8 0) (hj : b0 + k = j) (q : Nat) : Stream ((w.drewN q).setCell ⟨g, 2, none⟩ (.int .i64 ((j + 1 : Nat) : Int))) g 0 false ((b0 + (k + 1) : Nat) : Int) false nil8 0 := by
  rw [show b0 + (k + 1) = j + 1 from by omega]
  exact (h.drewN q).setBom _

theorem below_drewN (g q : Nat) (w : World) : Below g w (w.drewN q) := ⟨rfl, rfl, rfl, Nat.le_refl _, fun _ _ => rfl⟩
theorem below_bom (g q : Nat) (w : World) (v : Value) : Below g w ((w.drewN q).setCell ⟨g, 2, none⟩ v) := (below_drewN g q w).setCell (p := ⟨g, 2, none⟩) (Nat.le_refl _) v

theorem below_kept {w wr w3 : World} {g : Nat} (h : Below g w wr) (hg : g ≤ wr.heap.size) (q : Nat) {v3 v0 v1 : Value} {o : Obj} {v2 : Value}
    (h3 : Below g (((((wr.drewN q).setCell ⟨g, 3, none⟩ v3).setCell ⟨g, 0, none⟩ v0).setCell ⟨g, 1, none⟩ v1).alloc o).drew w3) : Below g w (w3.setCell ⟨g, 2, none⟩ v2) := by
  have h1 := (((h.trans (below_drewN g q wr)).setCell (p := ⟨g, 3, none⟩) (Nat.le_refl _) v3).setCell (p := ⟨g, 0, none⟩) (Nat.le_refl _) v0).setCell (p := ⟨g, 1, none⟩) (Nat.le_refl _) v1
  exact (((h1.alloc (by simpa using hg) o).drew).trans h3).setCell (p := ⟨g, 2, none⟩) (Nat.le_refl _) v2

theorem mark_cell1 (W : World) (cap : Nat) (fr : Nat × Nat) {i n : Nat} (hn : n = W.heap.size) (hi : i < 1) : (W.alloc (.cells (bytesRow (ByteArray.extract ⟨#[239, 187, 191]⟩ 0 1) cap) 5 fr)).drew.cell? ⟨n, i, none⟩ = some (.int .u8 (mb i)) := by
  subst hn
  show (W.alloc _).cell? _ = _
  rw [cell_of_row _ W.heap.size i _ 5 fr (blk_alloc_new _ _)]
  match i, hi with
  | 0, _ => exact bytesRow_at _ cap 0 (by decide)

theorem mark_cell2 (W : World) (cap : Nat) (fr : Nat × Nat) {i n : Nat} (hn : n = W.heap.size) (hi : i < 2) : (W.alloc (.cells (bytesRow (ByteArray.extract ⟨#[239, 187, 191]⟩ 0 2) cap) 5 fr)).drew.cell? ⟨n, i, none⟩ = some (.int .u8 (mb i)) := by
  subst hn
  show (W.alloc _).cell? _ = _
  rw [cell_of_row _ W.heap.size i _ 5 fr (blk_alloc_new _ _)]
  match i, hi with
  | 0, _ => exact bytesRow_at _ cap 0 (by decide)
  | 1, _ => exact bytesRow_at _ cap 1 (by decide)

set_option maxHeartbeats 4000000 in
theorem skip_any (w : World) (g b0 len cap : Nat) (a : Option Addr) (Z : Nat → Int) (hb0 : b0 ≤ 2) (hl : len ≤ 1048576) (h : Stream w g 0 false (b0 : Int) false nil8 0)
    (hZ : 0 < len → ∃ b off, a = some ⟨b, off, none⟩ ∧ b < g ∧ ∀ i, i < len → w.cell? ⟨b, off + i, none⟩ = some (.int .u8 (Z i))) :
    Calls Try.prog 10 #[.pointer (some ⟨g, 0, none⟩), .slice a len cap] w (SkipPost w g b0 len Z) := by
  have H := hide h
  clear h
  go_enter Try.func10, Try.ntmps10
  go_wp2
  go_loopw [5] (fun n wr => ∃ k : Nat, k ≤ len ∧ b0 + k ≤ 3 ∧ n = .int .i64 k ∧ Hid (Cont Z b0 k) ∧ Hid (Stream wr g 0 false ((b0 + k : Nat) : Int) false nil8 0) ∧ Hid (Below g w wr)) (fun n _ => len - (intOf n).toNat)
  case atStart => exact ⟨0, Nat.zero_le _, by omega, rfl, (fun i hi => absurd hi (Nat.not_lt_zero _)), H, Below.refl _ _⟩
  case round =>
    obtain ⟨k, hk, hk3, rfl, HC, HS, HB⟩ := hrel
    obtain ⟨j, hj⟩ : ∃ j, b0 + k = j := ⟨_, rfl⟩
    rw [hj] at HS hk3
    have HJ := hide hj
    clear hj
    have cb := (stream_cells HS.out).2.2.1
    by_cases hlt : k < len
    · obtain ⟨b, off, e, hbg, hc⟩ := hZ (by omega)
      subst e
      have hck : wr.cell? ⟨b, off + k, none⟩ = some (.int .u8 (Z k)) := by rw [HB.out.cell (p := ⟨b, off + k, none⟩) hbg]; exact hc k hlt
      have hkz : (k : Int) < (len : Int) := by omega
      clear hc hZ
      obtain ⟨z, hz⟩ : ∃ z, Z k = z := ⟨_, rfl⟩
      rw [hz] at hck
      have HZ := hide hz
      clear hz
      match j, hk3 with
      | 0, _ =>
        by_cases hz : z = 239
        · subst hz
          have f2 := HS.out.free 2
          go_wp2_with fail
          go_quiet (fail)
          go_wp2
          go_roundw
          case rel => exact ⟨k + 1, by omega, by have := HJ.out; omega, by go_num, cont_step HC.out HJ.out HZ.out, stream_step HS.out HJ.out nq, HB.out.trans (below_bom g nq _ _)⟩
          case measure => simp [intOf]; omega
        · have f3 := HS.out.free 3
          have c3 := (stream_cells HS.out).2.2.2.1
          have hzb : (z == (((⟨#[239, 187, 191]⟩ : ByteArray)[0]'(by decide)).toNat : Int)) = false := beq_eq_false_iff_ne.2 hz
          have HNE : Hid (z ≠ mb 0) := hz
          clear hz
          go_wp2_with fail
          go_quiet (fail)
          go_wp2
          go_ret
          exact ⟨k, rfl, ⟨hk, by have := HJ.out; omega, HC.out, .inr (.inr (by rw [HZ.out, HJ.out]; exact HNE.out))⟩, .inr (.inr (.inl ⟨HJ.out, hlt, (HS.out.drewN nq).setBegun true⟩)), (HB.out.trans (below_drewN g nq _)).setCell (p := ⟨g, 3, none⟩) (Nat.le_refl _) _⟩
      | 1, _ =>
        by_cases hz : z = 187
        · subst hz
          have f2 := HS.out.free 2
          go_wp2_with fail
          go_quiet (fail)
          go_wp2
          go_roundw
          case rel => exact ⟨k + 1, by omega, by have := HJ.out; omega, by go_num, cont_step HC.out HJ.out HZ.out, stream_step HS.out HJ.out nq, HB.out.trans (below_bom g nq _ _)⟩
          case measure => simp [intOf]; omega
        · have f3 := HS.out.free 3
          have f0 := HS.out.free 0
          have f1 := HS.out.free 1
          obtain ⟨c0, c1, _, c3, _⟩ := stream_cells HS.out
          have hzb : (z == (((⟨#[239, 187, 191]⟩ : ByteArray)[1]'(by decide)).toNat : Int)) = false := beq_eq_false_iff_ne.2 hz
          have HNE : Hid (z ≠ mb 1) := hz
          clear hz
          have hcv := fun (w : World) => run_bytes_of_string (P := Try.prog) w 9 22 5 (ByteArray.extract ⟨#[239, 187, 191]⟩ 0 1) Try.underlying9 Try.underlying22 Try.underlying5
          have hlg := HS.out.lt
          go_wp2_with fail
          go_quiet (fail)
          go_wp2_with fail
          refine (keep_any _ g g wr.heap.size 1 _ 1 true mb (by omega) (by omega) (Nat.le_refl _) ?_ ?_ (by omega)).mono ?_
          · exact (((((HS.out.drewN nq).setBegun true).setAt 3).setPend true).alloc _)
          · intro i hi
            exact mark_cell1 _ _ _ (by simp) hi
          · rintro e w3 ⟨rfl, g', c', hS3, hc3, hgg, hb3⟩
            have HS3 := hide hS3
            have HC3 := hide hc3
            have HB3 := hide hb3
            have e2 := (stream_cells hS3).2.2.1
            have h2 := hS3.free 2
            clear hS3 hc3 hb3 hcv
            go_wp2
            go_ret
            refine ⟨k, rfl, ⟨hk, by have := HJ.out; omega, HC.out, .inr (.inr (by rw [HZ.out, HJ.out]; exact HNE.out))⟩, .inr (.inr (.inr ?_)), ?_⟩
            · rw [HJ.out]
              refine ⟨by omega, by omega, hlt, g', c', HS3.out.setBom 0, fun i hi => ?_⟩
              rw [World.cell?_setCell_other _ _ _ _ (fun e => hgg (by have := congrArg Addr.block e; simpa using this.symm))]
              exact HC3.out i hi
            · exact below_kept HB.out (Nat.le_of_lt hlg) nq HB3.out
      | 2, _ =>
        by_cases hz : z = 191
        · subst hz
          have f2 := HS.out.free 2
          go_wp2_with fail
          go_quiet (fail)
          go_wp2
          go_roundw
          case rel => exact ⟨k + 1, by omega, by have := HJ.out; omega, by go_num, cont_step HC.out HJ.out HZ.out, stream_step HS.out HJ.out nq, HB.out.trans (below_bom g nq _ _)⟩
          case measure => simp [intOf]; omega
        · have f3 := HS.out.free 3
          have f0 := HS.out.free 0
          have f1 := HS.out.free 1
          obtain ⟨c0, c1, _, c3, _⟩ := stream_cells HS.out
          have hzb : (z == (((⟨#[239, 187, 191]⟩ : ByteArray)[2]'(by decide)).toNat : Int)) = false := beq_eq_false_iff_ne.2 hz
          have HNE : Hid (z ≠ mb 2) := hz
          clear hz
          have hcv := fun (w : World) => run_bytes_of_string (P := Try.prog) w 9 22 5 (ByteArray.extract ⟨#[239, 187, 191]⟩ 0 2) Try.underlying9 Try.underlying22 Try.underlying5
          have hlg := HS.out.lt
          go_wp2_with fail
          go_quiet (fail)
          go_wp2_with fail
          refine (keep_any _ g g wr.heap.size 2 _ 2 true mb (by omega) (by omega) (Nat.le_refl _) ?_ ?_ (by omega)).mono ?_
          · exact (((((HS.out.drewN nq).setBegun true).setAt 3).setPend true).alloc _)
          · intro i hi
            exact mark_cell2 _ _ _ (by simp) hi
          · rintro e w3 ⟨rfl, g', c', hS3, hc3, hgg, hb3⟩
            have HS3 := hide hS3
            have HC3 := hide hc3
            have HB3 := hide hb3
            have e2 := (stream_cells hS3).2.2.1
            have h2 := hS3.free 2
            clear hS3 hc3 hb3 hcv
            go_wp2
            go_ret
            refine ⟨k, rfl, ⟨hk, by have := HJ.out; omega, HC.out, .inr (.inr (by rw [HZ.out, HJ.out]; exact HNE.out))⟩, .inr (.inr (.inr ?_)), ?_⟩
            · rw [HJ.out]
              refine ⟨by omega, by omega, hlt, g', c', HS3.out.setBom 0, fun i hi => ?_⟩
              rw [World.cell?_setCell_other _ _ _ _ (fun e => hgg (by have := congrArg Addr.block e; simpa using this.symm))]
              exact HC3.out i hi
            · exact below_kept HB.out (Nat.le_of_lt hlg) nq HB3.out
      | 3, _ =>
        have f3 := HS.out.free 3
        have f2 := HS.out.free 2
        have c3 := (stream_cells HS.out).2.2.2.1
        go_wp2_with fail
        go_quiet (fail)
        go_wp2
        go_ret
        exact ⟨k, rfl, ⟨hk, by have := HJ.out; omega, HC.out, .inr (.inl HJ.out)⟩, .inl ⟨HJ.out, ((HS.out.drewN nq).setBegun true).setBom 0⟩, ((HB.out.trans (below_drewN g nq _)).setCell (p := ⟨g, 3, none⟩) (Nat.le_refl _) _).setCell (p := ⟨g, 2, none⟩) (Nat.le_refl _) _⟩
    · have hkn : decide (k < len) = false := decide_eq_false (by omega)
      have hkl : k = len := by omega
      by_cases h3 : j = 3
      · subst h3
        have f3 := HS.out.free 3
        have f2 := HS.out.free 2
        have c3 := (stream_cells HS.out).2.2.2.1
        have HK := hide hkl
        clear hkl hlt
        go_wp2_with fail
        go_quiet (fail)
        go_wp2
        go_ret
        exact ⟨k, rfl, ⟨hk, by have := HJ.out; omega, HC.out, .inl HK.out⟩, .inl ⟨HJ.out, ((HS.out.drewN nq).setBegun true).setBom 0⟩, ((HB.out.trans (below_drewN g nq _)).setCell (p := ⟨g, 3, none⟩) (Nat.le_refl _) _).setCell (p := ⟨g, 2, none⟩) (Nat.le_refl _) _⟩
      · have hj3 : ((j : Int) == 3) = false := beq_eq_false_iff_ne.2 (by omega)
        have HK := hide hkl
        clear hkl hlt
        go_wp2_with fail
        go_quiet (fail)
        go_wp2
        go_ret
        exact ⟨k, rfl, ⟨hk, by have := HJ.out; omega, HC.out, .inl HK.out⟩, .inr (.inl ⟨by have := HJ.out; omega, HK.out, by rw [HJ.out]; exact HS.out.drewN nq⟩), HB.out.trans (below_drewN g nq _)⟩

end Go.Proofs.Qxb6602599a
