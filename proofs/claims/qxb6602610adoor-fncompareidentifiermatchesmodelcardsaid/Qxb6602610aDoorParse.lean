/-
  strconv.ParseUint(s, 10, 64) at this dump (the shelf's contracts, laid); strings.Compare; compareIdentifier: the model's own answer.
-/
import Derived.Test.Qxb6602610aDoorPre
import Derived.Test.Qxb6602610aDoorVal
import Derived.Shelf.Pu.ParseUintPublic10
import Derived.Shelf.Lay
import Derived.Ground.MpProg
import Derived.Lib.AtoiErrMem
import Derived.Laws.Externs
namespace Go.Proofs.Qxb6602610aDoor
open Go.Shelf Go.RowKit Plain

shelf_lay LaysPu.n14 Mp 14 at Tryd as Tryd.laysPu14

/-- strconv.ErrSyntax and strconv.ErrRange hold interface values. -/
def Errs (w : World) : Prop := (∃ tp p, w.cell? ⟨1, 0, none⟩ = some (.iface tp p)) ∧ (∃ tp p, w.cell? ⟨2, 0, none⟩ = some (.iface tp p))

theorem Errs.later {w w' : World} (h : Errs w) (hb : Below w.heap.size w w') : Errs w' := by
  obtain ⟨⟨t0, p0, h0⟩, t1, p1, h1⟩ := h
  exact ⟨⟨t0, p0, (hb.cell (p := ⟨1, 0, none⟩) (World.block_lt_of_cell? _ _ h0)).trans h0⟩, t1, p1, (hb.cell (p := ⟨2, 0, none⟩) (World.block_lt_of_cell? _ _ h1)).trans h1⟩

def Parsed (w : World) (x : Int) : Ending → World → Prop := fun e w' => e = .returned (.tuple #[.int .u64 x, .nilIface]) ∧ Below w.heap.size w w'
def Refused (w : World) : Ending → World → Prop := fun e w' => Below w.heap.size w w' ∧ ∃ (x : Int) (N : Nat), e = .returned (.tuple #[.int .u64 x, .iface 54 (.pointer (some ⟨N, 0, none⟩))])

theorem parse_num (s : ByteArray) (w : World) (hs : s.size ≤ 1048576) (h : isNum s = true) : Calls Tryd.prog 28 #[.string s, .int .i64 10, .int .i64 64] w (Parsed w (val (bs s) : Int)) := by
  rcases hp : Lib.parseUintB 64 s.data.toList with u | _ | _
  · obtain ⟨_, e, _⟩ := num_ok hp
    refine Calls.mono (Any.strconv_ParseUint_10_at64_ok Tryd.laysPu14 s (by omega) u hp w) ?_
    rintro e' w' ⟨rfl, hw⟩
    refine ⟨by rw [e], ?_⟩
    rcases hw with rfl | rfl
    · exact Below.refl _ _
    · exact Lib.bytesWorld_below _ _ _
  · rw [num_no (fun u => by rw [hp]; exact fun h => by cases h)] at h; cases h
  · rw [num_no (fun u => by rw [hp]; exact fun h => by cases h)] at h; cases h

theorem parse_not (s : ByteArray) (w : World) (hs : s.size ≤ 1048576) (h : isNum s = false) (hE : Errs w) : Calls Tryd.prog 28 #[.string s, .int .i64 10, .int .i64 64] w (Refused w) := by
  obtain ⟨⟨t0, p0, h0⟩, t1, p1, h1⟩ := hE
  rcases hp : Lib.parseUintB 64 s.data.toList with u | _ | _
  · obtain ⟨e, _, _⟩ := num_ok hp
    rw [e] at h; cases h
  · refine Calls.mono (Any.strconv_ParseUint_10_at64_syntax Tryd.laysPu14 s (by omega) hp _ w h0 (.inr ⟨t0, p0, rfl⟩)) ?_
    rintro e' w' ⟨N, rfl, _, _, hb⟩
    exact ⟨hb, _, N, rfl⟩
  · refine Calls.mono (Any.strconv_ParseUint_10_at64_range Tryd.laysPu14 s (by omega) hp _ w h1 (.inr ⟨t1, p1, rfl⟩)) ?_
    rintro e' w' ⟨N, rfl, _, _, hb⟩
    exact ⟨hb, _, N, rfl⟩

/-! ### strings.Compare -/
theorem cmpString_any (a b : ByteArray) (w : World) : Calls Tryd.prog 35 #[.string a, .string b] w fun e w' => e = .returned (.int .i64 (cmpB a b)) ∧ w' = w := by
  go_enter Tryd.func35, Tryd.ntmps35
  go_wp2
  rw [run_callFunc_extern Tryd.func42 (by kernel_rfl) (by kernel_rfl) (by kernel_rfl) (e := Extern.BytealgCompare.compare) (by kernel_rfl), Lib.run_compareString]
  simp only [Result.andThen]
  rw [Oper.upon_value]
  go_wp2
  go_ret
  exact ⟨rfl, rfl⟩

theorem compare_any (a b : ByteArray) (w : World) : Calls Tryd.prog 29 #[.string a, .string b] w fun e w' => e = .returned (.int .i64 (cmpB a b)) ∧ w' = w := by
  go_enter Tryd.func29, Tryd.ntmps29
  go_wp2_with (go_at_call 35; refine (cmpString_any _ _ _).mono ?_; rintro e w' ⟨rfl, rfl⟩)
  go_ret
  exact ⟨rfl, rfl⟩

/-! ### compareIdentifier -/
/-- A number is told; nothing that was there has turned. -/
def Tells (w : World) (r : Int) : Ending → World → Prop := fun e w' => e = .returned (.int .i64 r) ∧ Below w.heap.size w w'

theorem ident_num {a b : ByteArray} (ha : isNum a = true) (hb : isNum b = true) : ident a b = sgn (val (bs a) : Int) (val (bs b) : Int) := by
  unfold ident
  rw [if_pos ha, if_pos hb]
  exact numCmp_val ((isNum_iff a).1 ha).2.1 ((isNum_iff b).1 hb).2.1

set_option maxHeartbeats 2000000 in
set_option maxRecDepth 100000 in
theorem compareIdentifier_any (a b : ByteArray) (w : World) (sa : a.size ≤ 1048576) (sb : b.size ≤ 1048576) (hE : Errs w) : Calls Tryd.prog 21 #[.string a, .string b] w (Tells w (ident a b)) := by
  have HE := hide hE
  clear hE
  cases ha : isNum a
  · have PA := hide (fun w h => parse_not a w sa ha h)
    cases hb : isNum b
    · have PB := hide (fun w h => parse_not b w sb hb h)
      have HR : Hid (cmpB a b = ident a b) := by show _ = _; unfold ident; rw [ha, hb]; rfl
      clear ha hb
      go_enter Tryd.func21, Tryd.ntmps21
      go_wp2_with (first
        | (go_at_call_of 28 (Value.string a); refine (PA.out _ (by exact HE.out)).mono ?_; rintro e w1 ⟨hb1, x1, N1, rfl⟩; have HB1 := hide hb1; clear hb1)
        | (go_at_call_of 28 (Value.string b); refine (PB.out _ (by exact HE.out.later HB1.out)).mono ?_; rintro e w2 ⟨hb2, x2, N2, rfl⟩; have HB2 := hide (HB1.out.trans (hb2.mono HB1.out.size)); clear hb2)
        | (go_at_call 29; refine (compare_any _ _ _).mono ?_; rintro e w' ⟨rfl, rfl⟩))
      go_ret
      exact ⟨ret_int HR.out, HB2.out⟩
    · obtain ⟨y, hy⟩ : ∃ y : Int, y = (val (bs b) : Int) := ⟨_, rfl⟩
      have pb := fun w => parse_num b w sb hb
      rw [← hy] at pb
      have PB := hide pb
      have HR : Hid (1 = ident a b) := by show _ = _; unfold ident; rw [ha, hb]; rfl
      clear ha hb hy pb
      go_enter Tryd.func21, Tryd.ntmps21
      go_wp2_with (first
        | (go_at_call_of 28 (Value.string a); refine (PA.out _ (by exact HE.out)).mono ?_; rintro e w1 ⟨hb1, x1, N1, rfl⟩; have HB1 := hide hb1; clear hb1)
        | (go_at_call_of 28 (Value.string b); refine (PB.out _).mono ?_; rintro e w2 ⟨rfl, hb2⟩; have HB2 := hide (HB1.out.trans (hb2.mono HB1.out.size)); clear hb2))
      go_ret
      exact ⟨ret_int HR.out, HB2.out⟩
  · obtain ⟨x, hx⟩ : ∃ x : Int, x = (val (bs a) : Int) := ⟨_, rfl⟩
    have pa := fun w => parse_num a w sa ha
    rw [← hx] at pa
    have PA := hide pa
    clear pa
    cases hb : isNum b
    · have PB := hide (fun w h => parse_not b w sb hb h)
      have HR : Hid (-1 = ident a b) := by show _ = _; unfold ident; rw [ha, hb]; rfl
      clear ha hb hx
      go_enter Tryd.func21, Tryd.ntmps21
      go_wp2_with (first
        | (go_at_call_of 28 (Value.string a); refine (PA.out _).mono ?_; rintro e w1 ⟨rfl, hb1⟩; have HB1 := hide hb1; clear hb1)
        | (go_at_call_of 28 (Value.string b); refine (PB.out _ (by exact HE.out.later HB1.out)).mono ?_; rintro e w2 ⟨hb2, x2, N2, rfl⟩; have HB2 := hide (HB1.out.trans (hb2.mono HB1.out.size)); clear hb2))
      go_ret
      exact ⟨ret_int HR.out, HB2.out⟩
    · obtain ⟨y, hy⟩ : ∃ y : Int, y = (val (bs b) : Int) := ⟨_, rfl⟩
      have pb := fun w => parse_num b w sb hb
      rw [← hy] at pb
      have PB := hide pb
      have hi := ident_num ha hb
      rw [← hx, ← hy] at hi
      clear ha hb hx hy pb
      rcases sgn_cases x y with ⟨h1, h2⟩ | ⟨h1, h2⟩ | ⟨h1, h2⟩
      · have HR : Hid (-1 = ident a b) := by show _ = _; rw [hi, h2]
        have d1 : (x == y) = false := beq_eq_false_iff_ne.2 (by omega)
        clear hi h2
        go_enter Tryd.func21, Tryd.ntmps21
        go_wp2_with (first
          | (go_at_call_of 28 (Value.string a); refine (PA.out _).mono ?_; rintro e w1 ⟨rfl, hb1⟩; have HB1 := hide hb1; clear hb1)
          | (go_at_call_of 28 (Value.string b); refine (PB.out _).mono ?_; rintro e w2 ⟨rfl, hb2⟩; have HB2 := hide (HB1.out.trans (hb2.mono HB1.out.size)); clear hb2))
        go_ret
        exact ⟨ret_int HR.out, HB2.out⟩
      · have HR : Hid (0 = ident a b) := by show _ = _; rw [hi, h2]
        have d1 : (x == y) = true := beq_iff_eq.2 h1
        clear hi h2 h1
        go_enter Tryd.func21, Tryd.ntmps21
        go_wp2_with (first
          | (go_at_call_of 28 (Value.string a); refine (PA.out _).mono ?_; rintro e w1 ⟨rfl, hb1⟩; have HB1 := hide hb1; clear hb1)
          | (go_at_call_of 28 (Value.string b); refine (PB.out _).mono ?_; rintro e w2 ⟨rfl, hb2⟩; have HB2 := hide (HB1.out.trans (hb2.mono HB1.out.size)); clear hb2))
        go_ret
        exact ⟨ret_int HR.out, HB2.out⟩
      · have HR : Hid (1 = ident a b) := by show _ = _; rw [hi, h2]
        have d1 : (x == y) = false := beq_eq_false_iff_ne.2 (by omega)
        have d2 : ¬ x < y := by omega
        clear hi h2 h1
        go_enter Tryd.func21, Tryd.ntmps21
        go_wp2_with (first
          | (go_at_call_of 28 (Value.string a); refine (PA.out _).mono ?_; rintro e w1 ⟨rfl, hb1⟩; have HB1 := hide hb1; clear hb1)
          | (go_at_call_of 28 (Value.string b); refine (PB.out _).mono ?_; rintro e w2 ⟨rfl, hb2⟩; have HB2 := hide (HB1.out.trans (hb2.mono HB1.out.size)); clear hb2))
        go_ret
        exact ⟨ret_int HR.out, HB2.out⟩

end Go.Proofs.Qxb6602610aDoor
