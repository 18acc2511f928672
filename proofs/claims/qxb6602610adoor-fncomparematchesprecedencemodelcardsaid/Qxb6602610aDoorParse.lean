/-
  strconv.ParseUint(s, 10, 64) at this dump (the shelf's contracts, laid); strings.Compare; compareIdentifier: the model's own answer.
-/
import Derived.Test.Qxb6602610aDoorPre
import Derived.Test.Qxb6602610aDoorVal
import Derived.Shelf.Pu.ParseUintPublic10
import Derived.Shelf.Pu.ErrVarParseUint
import Derived.Lib.AtoiErrMem
import Derived.Laws.Externs
namespace Go.Proofs.Qxb6602610aDoor
open Go.Shelf Go.RowKit Plain

/-! The laying, in plain words (what the shelf's one command writes for this dump). -/
def Tryd.laysPu14_ren : Go.Shelf.Ren := ⟨fun | 14 => 28 | 16 => 33 | 17 => 34 | 19 => 36 | 20 => 37 | 21 => 38 | 22 => 39 | 23 => 40 | 24 => 41 | 25 => 43 | 27 => 45 | 26 => 44 | 28 => 46 | 29 => 47 | 30 => 48 | 31 => 49 | 32 => 50 | 33 => 51 | 35 => 53 | 34 => 52 | 36 => 54 | 37 => 55 | 38 => 56 | 39 => 57 | 40 => 58 | n => n, fun | 9 => 9 | 3 => 3 | 22 => 22 | 24 => 43 | 25 => 44 | 4 => 4 | 34 => 50 | 5 => 5 | 36 => 52 | 37 => 53 | 0 => 0 | 39 => 54 | 21 => 21 | 44 => 58 | 47 => 61 | 50 => 64 | 48 => 62 | 2 => 2 | 52 => 66 | 55 => 69 | 59 => 73 | 60 => 74 | 20 => 20 | 61 => 75 | 65 => 79 | 66 => 80 | 67 => 83 | n => n, fun | 0 => 1 | 1 => 2 | 2 => 3 | 3 => 4 | 4 => 5 | n => n⟩
theorem Tryd.laysPu14 : Go.Proofs.LaysPu.n14 Tryd.prog Tryd.laysPu14_ren := {
  mixed := by kernel_rfl
  f14 := Tryd.func28.trans (congrArg some (by kernel_rfl))
  f16 := Tryd.func33.trans (congrArg some (by kernel_rfl))
  f17 := Tryd.func34.trans (congrArg some (by kernel_rfl))
  f19 := Tryd.func36.trans (congrArg some (by kernel_rfl))
  f20 := Tryd.func37.trans (congrArg some (by kernel_rfl))
  f21 := Tryd.func38.trans (congrArg some (by kernel_rfl))
  f22 := Tryd.func39.trans (congrArg some (by kernel_rfl))
  f23 := Tryd.func40.trans (congrArg some (by kernel_rfl))
  f24 := Tryd.func41.trans (congrArg some (by kernel_rfl))
  f25 := Tryd.func43.trans (congrArg some (by kernel_rfl))
  f26 := Tryd.func44.trans (congrArg some (by kernel_rfl))
  f27 := Tryd.func45.trans (congrArg some (by kernel_rfl))
  f28 := Tryd.func46.trans (congrArg some (by kernel_rfl))
  f29 := Tryd.func47.trans (congrArg some (by kernel_rfl))
  f30 := Tryd.func48.trans (congrArg some (by kernel_rfl))
  f31 := Tryd.func49.trans (congrArg some (by kernel_rfl))
  f32 := Tryd.func50.trans (congrArg some (by kernel_rfl))
  f33 := Tryd.func51.trans (congrArg some (by kernel_rfl))
  f34 := Tryd.func52.trans (congrArg some (by kernel_rfl))
  f35 := Tryd.func53.trans (congrArg some (by kernel_rfl))
  f36 := Tryd.func54.trans (congrArg some (by kernel_rfl))
  f37 := Tryd.func55.trans (congrArg some (by kernel_rfl))
  f38 := Tryd.func56.trans (congrArg some (by kernel_rfl))
  f39 := Tryd.func57.trans (congrArg some (by kernel_rfl))
  f40 := Tryd.func58.trans (congrArg some (by kernel_rfl))
  t0 := Tryd.underlying0
  a0 := Tryd.isAgg0
  z0 := Tryd.sizeOf0
  v0 := Tryd.zeroValue0
  i0 := by kernel_rfl
  t2 := Tryd.underlying2
  a2 := Tryd.isAgg2
  z2 := Tryd.sizeOf2
  v2 := Tryd.zeroValue2
  i2 := by kernel_rfl
  t3 := Tryd.underlying3
  a3 := Tryd.isAgg3
  z3 := Tryd.sizeOf3
  v3 := Tryd.zeroValue3
  i3 := by kernel_rfl
  t4 := Tryd.underlying4
  a4 := Tryd.isAgg4
  z4 := Tryd.sizeOf4
  v4 := Tryd.zeroValue4
  i4 := by kernel_rfl
  t5 := Tryd.underlying5
  a5 := Tryd.isAgg5
  z5 := Tryd.sizeOf5
  v5 := Tryd.zeroValue5
  i5 := by kernel_rfl
  t9 := Tryd.underlying9
  a9 := Tryd.isAgg9
  z9 := Tryd.sizeOf9
  v9 := Tryd.zeroValue9
  i9 := by kernel_rfl
  t20 := Tryd.underlying20
  a20 := Tryd.isAgg20
  z20 := Tryd.sizeOf20
  v20 := Tryd.zeroValue20
  i20 := by kernel_rfl
  t21 := Tryd.underlying21
  a21 := Tryd.isAgg21
  z21 := Tryd.sizeOf21
  v21 := Tryd.zeroValue21
  i21 := by kernel_rfl
  t22 := Tryd.underlying22
  a22 := Tryd.isAgg22
  z22 := Tryd.sizeOf22
  v22 := Tryd.zeroValue22
  i22 := by kernel_rfl
  t24 := Tryd.underlying43
  a24 := Tryd.isAgg43
  z24 := Tryd.sizeOf43
  v24 := Tryd.zeroValue43
  i24 := by kernel_rfl
  t25 := Tryd.underlying44
  a25 := Tryd.isAgg44
  z25 := Tryd.sizeOf44
  v25 := Tryd.zeroValue44
  i25 := by kernel_rfl
  t34 := Tryd.underlying50
  a34 := Tryd.isAgg50
  z34 := Tryd.sizeOf50
  v34 := Tryd.zeroValue50
  i34 := by kernel_rfl
  c34 := by kernel_rfl
  t36 := Tryd.underlying52
  a36 := Tryd.isAgg52
  z36 := Tryd.sizeOf52
  v36 := Tryd.zeroValue52
  i36 := by kernel_rfl
  t37 := Tryd.underlying53
  a37 := Tryd.isAgg53
  z37 := Tryd.sizeOf53
  v37 := Tryd.zeroValue53
  i37 := by kernel_rfl
  t39 := Tryd.underlying54
  a39 := Tryd.isAgg54
  z39 := Tryd.sizeOf54
  v39 := Tryd.zeroValue54
  i39 := by kernel_rfl
  t44 := Tryd.underlying58
  a44 := Tryd.isAgg58
  z44 := Tryd.sizeOf58
  v44 := Tryd.zeroValue58
  i44 := by kernel_rfl
  t47 := Tryd.underlying61
  a47 := Tryd.isAgg61
  z47 := Tryd.sizeOf61
  v47 := Tryd.zeroValue61
  i47 := by kernel_rfl
  t48 := Tryd.underlying62
  a48 := Tryd.isAgg62
  z48 := Tryd.sizeOf62
  v48 := Tryd.zeroValue62
  i48 := by kernel_rfl
  t50 := Tryd.underlying64
  a50 := Tryd.isAgg64
  z50 := Tryd.sizeOf64
  v50 := Tryd.zeroValue64
  i50 := by kernel_rfl
  t52 := Tryd.underlying66
  a52 := Tryd.isAgg66
  z52 := Tryd.sizeOf66
  v52 := Tryd.zeroValue66
  i52 := by kernel_rfl
  t55 := Tryd.underlying69
  a55 := Tryd.isAgg69
  z55 := Tryd.sizeOf69
  v55 := Tryd.zeroValue69
  i55 := by kernel_rfl
  t59 := Tryd.underlying73
  a59 := Tryd.isAgg73
  z59 := Tryd.sizeOf73
  v59 := Tryd.zeroValue73
  i59 := by kernel_rfl
  t60 := Tryd.underlying74
  a60 := Tryd.isAgg74
  z60 := Tryd.sizeOf74
  v60 := Tryd.zeroValue74
  i60 := by kernel_rfl
  t61 := Tryd.underlying75
  a61 := Tryd.isAgg75
  z61 := Tryd.sizeOf75
  t65 := Tryd.underlying79
  a65 := Tryd.isAgg79
  z65 := Tryd.sizeOf79
  v65 := Tryd.zeroValue79
  i65 := by kernel_rfl
  t66 := Tryd.underlying80
  a66 := Tryd.isAgg80
  z66 := Tryd.sizeOf80
  v66 := Tryd.zeroValue80
  i66 := by kernel_rfl
  t67 := Tryd.underlying83
  a67 := Tryd.isAgg83
  z67 := Tryd.sizeOf83
  v67 := Tryd.zeroValue83
  i67 := by kernel_rfl
  g0 := by kernel_rfl
  m0 := by kernel_rfl
  g1 := by kernel_rfl
  m1 := by kernel_rfl
  g2 := by kernel_rfl
  m2 := by kernel_rfl
  g3 := by kernel_rfl
  m3 := by kernel_rfl
  g4 := by kernel_rfl
  m4 := by kernel_rfl }

theorem var_later {P : Program} {w w' : World} {n : String} {cs : Array Value} (h : w.var? P n = some cs) (hb : Below w.heap.size w w') : w'.var? P n = some cs := by
  unfold World.var? at h ⊢
  cases hg : P.globalNamed n with
  | none => rw [hg] at h; cases h
  | some g =>
    rw [hg] at h
    simp only [Option.bind_some] at h ⊢
    cases ho : w.heap[g]? with
    | none => rw [ho] at h; cases h
    | some o =>
      rw [hb.block g (Array.getElem?_eq_some_iff.1 ho).1]
      exact h

/-- strconv.ErrSyntax and strconv.ErrRange hold interface values. -/
def Errs (w : World) : Prop := (∃ tp p, w.var? Tryd.prog "strconv.ErrSyntax" = some #[.iface tp p]) ∧ (∃ tp p, w.var? Tryd.prog "strconv.ErrRange" = some #[.iface tp p])

theorem Errs.later {w w' : World} (h : Errs w) (hb : Below w.heap.size w w') : Errs w' := by
  obtain ⟨⟨t0, p0, h0⟩, t1, p1, h1⟩ := h
  exact ⟨⟨t0, p0, var_later h0 hb⟩, t1, p1, var_later h1 hb⟩

def Parsed (w : World) (x : Int) : Ending → World → Prop := fun e w' => e = .returned (.tuple #[.int .u64 x, .nilIface]) ∧ Below w.heap.size w w'
def Refused (w : World) : Ending → World → Prop := fun e w' => Below w.heap.size w w' ∧ ∃ (x : Int) (N : Nat), e = .returned (.tuple #[.int .u64 x, .iface 54 (.pointer (some ⟨N, 0, none⟩))])

theorem parse_num (s : ByteArray) (w : World) (hs : s.size ≤ 1048576) (h : isNum s = true) : Calls Tryd.prog 28 #[.string s, .int .i64 10, .int .i64 64] w (Parsed w (val (bs s) : Int)) := by
  rcases hp : Lib.parseUintB 64 s.data.toList with u | _ | _
  · obtain ⟨_, e, _⟩ := num_ok hp
    refine Calls.mono (Any.strconv_ParseUint_10_at64_ok Tryd.laysPu14 s (by omega) u hp w) ?_
    rintro e' w' ⟨rfl, hw⟩
    refine ⟨by rw [e], ?_⟩
    rcases hw with rfl | rfl
    · exact Below.refl _ _
    · exact Lib.bytesWorld_below _ _ _
  · rw [num_no (fun u => by rw [hp]; exact fun h => by cases h)] at h; cases h
  · rw [num_no (fun u => by rw [hp]; exact fun h => by cases h)] at h; cases h

theorem parse_not (s : ByteArray) (w : World) (hs : s.size ≤ 1048576) (h : isNum s = false) (hE : Errs w) : Calls Tryd.prog 28 #[.string s, .int .i64 10, .int .i64 64] w (Refused w) := by
  obtain ⟨⟨t0, p0, h0⟩, t1, p1, h1⟩ := hE
  rcases hp : Lib.parseUintB 64 s.data.toList with u | _ | _
  · obtain ⟨e, _, _⟩ := num_ok hp
    rw [e] at h; cases h
  · refine Calls.mono (Any.strconv_ParseUint_10_at64_syntax_var Tryd.laysPu14 s (by omega) hp t0 p0 w h0) ?_
    rintro e' w' ⟨N, rfl, _, _, hb⟩
    exact ⟨hb, _, N, rfl⟩
  · refine Calls.mono (Any.strconv_ParseUint_10_at64_range_var Tryd.laysPu14 s (by omega) hp t1 p1 w h1) ?_
    rintro e' w' ⟨N, rfl, _, _, hb⟩
    exact ⟨hb, _, N, rfl⟩

/-! ### strings.Compare -/
theorem cmpString_any (a b : ByteArray) (w : World) : Calls Tryd.prog 35 #[.string a, .string b] w fun e w' => e = .returned (.int .i64 (cmpB a b)) ∧ w' = w := by
  go_enter Tryd.func35, Tryd.ntmps35
  go_wp2
  rw [run_callFunc_extern Tryd.func42 (by kernel_rfl) (by kernel_rfl) (by kernel_rfl) (e := Extern.BytealgCompare.compare) (by kernel_rfl), Lib.run_compareString]
  simp only [Result.andThen]
  rw [Oper.upon_value]
  go_wp2
  go_ret
  exact ⟨rfl, rfl⟩

theorem compare_any (a b : ByteArray) (w : World) : Calls Tryd.prog 29 #[.string a, .string b] w fun e w' => e = .returned (.int .i64 (cmpB a b)) ∧ w' = w := by
  go_enter Tryd.func29, Tryd.ntmps29
  go_wp2_with (go_at_call 35; refine (cmpString_any _ _ _).mono ?_; rintro e w' ⟨rfl, rfl⟩)
  go_ret
  exact ⟨rfl, rfl⟩

/-! ### compareIdentifier -/
/-- A number is told; nothing that was there has turned. -/
def Tells (w : World) (r : Int) : Ending → World → Prop := fun e w' => e = .returned (.int .i64 r) ∧ Below w.heap.size w w'

theorem ident_num {a b : ByteArray} (ha : isNum a = true) (hb : isNum b = true) : ident a b = sgn (val (bs a) : Int) (val (bs b) : Int) := by
  unfold ident
  rw [if_pos ha, if_pos hb]
  exact numCmp_val ((isNum_iff a).1 ha).2.1 ((isNum_iff b).1 hb).2.1

set_option maxHeartbeats 2000000 in
set_option maxRecDepth 100000 in
theorem compareIdentifier_any (a b : ByteArray) (w : World) (sa : a.size ≤ 1048576) (sb : b.size ≤ 1048576) (hE : Errs w) : Calls Tryd.prog 21 #[.string a, .string b] w (Tells w (ident a b)) := by
  have HE := hide hE
  clear hE
  cases ha : isNum a
  · have PA := hide (fun w h => parse_not a w sa ha h)
    cases hb : isNum b
    · have PB := hide (fun w h => parse_not b w sb hb h)
      have HR : Hid (cmpB a b = ident a b) := by show _ = _; unfold ident; rw [ha, hb]; rfl
      clear ha hb
      go_enter Tryd.func21, Tryd.ntmps21
      go_wp2_with (first
        | (go_at_call_of 28 (Value.string a); refine (PA.out _ (by exact HE.out)).mono ?_; rintro e w1 ⟨hb1, x1, N1, rfl⟩; have HB1 := hide hb1; clear hb1)
        | (go_at_call_of 28 (Value.string b); refine (PB.out _ (by exact HE.out.later HB1.out)).mono ?_; rintro e w2 ⟨hb2, x2, N2, rfl⟩; have HB2 := hide (HB1.out.trans (hb2.mono HB1.out.size)); clear hb2)
        | (go_at_call 29; refine (compare_any _ _ _).mono ?_; rintro e w' ⟨rfl, rfl⟩))
      go_ret
      exact ⟨ret_int HR.out, HB2.out⟩
    · obtain ⟨y, hy⟩ : ∃ y : Int, y = (val (bs b) : Int) := ⟨_, rfl⟩
      have pb := fun w => parse_num b w sb hb
      rw [← hy] at pb
      have PB := hide pb
      have HR : Hid (1 = ident a b) := by show _ = _; unfold ident; rw [ha, hb]; rfl
      clear ha hb hy pb
      go_enter Tryd.func21, Tryd.ntmps21
      go_wp2_with (first
        | (go_at_call_of 28 (Value.string a); refine (PA.out _ (by exact HE.out)).mono ?_; rintro e w1 ⟨hb1, x1, N1, rfl⟩; have HB1 := hide hb1; clear hb1)
        | (go_at_call_of 28 (Value.string b); refine (PB.out _).mono ?_; rintro e w2 ⟨rfl, hb2⟩; have HB2 := hide (HB1.out.trans (hb2.mono HB1.out.size)); clear hb2))
      go_ret
      exact ⟨ret_int HR.out, HB2.out⟩
  · obtain ⟨x, hx⟩ : ∃ x : Int, x = (val (bs a) : Int) := ⟨_, rfl⟩
    have pa := fun w => parse_num a w sa ha
    rw [← hx] at pa
    have PA := hide pa
    clear pa
    cases hb : isNum b
    · have PB := hide (fun w h => parse_not b w sb hb h)
      have HR : Hid (-1 = ident a b) := by show _ = _; unfold ident; rw [ha, hb]; rfl
      clear ha hb hx
      go_enter Tryd.func21, Tryd.ntmps21
      go_wp2_with (first
        | (go_at_call_of 28 (Value.string a); refine (PA.out _).mono ?_; rintro e w1 ⟨rfl, hb1⟩; have HB1 := hide hb1; clear hb1)
        | (go_at_call_of 28 (Value.string b); refine (PB.out _ (by exact HE.out.later HB1.out)).mono ?_; rintro e w2 ⟨hb2, x2, N2, rfl⟩; have HB2 := hide (HB1.out.trans (hb2.mono HB1.out.size)); clear hb2))
      go_ret
      exact ⟨ret_int HR.out, HB2.out⟩
    · obtain ⟨y, hy⟩ : ∃ y : Int, y = (val (bs b) : Int) := ⟨_, rfl⟩
      have pb := fun w => parse_num b w sb hb
      rw [← hy] at pb
      have PB := hide pb
      have hi := ident_num ha hb
      rw [← hx, ← hy] at hi
      clear ha hb hx hy pb
      rcases sgn_cases x y with ⟨h1, h2⟩ | ⟨h1, h2⟩ | ⟨h1, h2⟩
      · have HR : Hid (-1 = ident a b) := by show _ = _; rw [hi, h2]
        have d1 : (x == y) = false := beq_eq_false_iff_ne.2 (by omega)
        clear hi h2
        go_enter Tryd.func21, Tryd.ntmps21
        go_wp2_with (first
          | (go_at_call_of 28 (Value.string a); refine (PA.out _).mono ?_; rintro e w1 ⟨rfl, hb1⟩; have HB1 := hide hb1; clear hb1)
          | (go_at_call_of 28 (Value.string b); refine (PB.out _).mono ?_; rintro e w2 ⟨rfl, hb2⟩; have HB2 := hide (HB1.out.trans (hb2.mono HB1.out.size)); clear hb2))
        go_ret
        exact ⟨ret_int HR.out, HB2.out⟩
      · have HR : Hid (0 = ident a b) := by show _ = _; rw [hi, h2]
        have d1 : (x == y) = true := beq_iff_eq.2 h1
        clear hi h2 h1
        go_enter Tryd.func21, Tryd.ntmps21
        go_wp2_with (first
          | (go_at_call_of 28 (Value.string a); refine (PA.out _).mono ?_; rintro e w1 ⟨rfl, hb1⟩; have HB1 := hide hb1; clear hb1)
          | (go_at_call_of 28 (Value.string b); refine (PB.out _).mono ?_; rintro e w2 ⟨rfl, hb2⟩; have HB2 := hide (HB1.out.trans (hb2.mono HB1.out.size)); clear hb2))
        go_ret
        exact ⟨ret_int HR.out, HB2.out⟩
      · have HR : Hid (1 = ident a b) := by show _ = _; rw [hi, h2]
        have d1 : (x == y) = false := beq_eq_false_iff_ne.2 (by omega)
        have d2 : ¬ x < y := by omega
        clear hi h2 h1
        go_enter Tryd.func21, Tryd.ntmps21
        go_wp2_with (first
          | (go_at_call_of 28 (Value.string a); refine (PA.out _).mono ?_; rintro e w1 ⟨rfl, hb1⟩; have HB1 := hide hb1; clear hb1)
          | (go_at_call_of 28 (Value.string b); refine (PB.out _).mono ?_; rintro e w2 ⟨rfl, hb2⟩; have HB2 := hide (HB1.out.trans (hb2.mono HB1.out.size)); clear hb2))
        go_ret
        exact ⟨ret_int HR.out, HB2.out⟩

end Go.Proofs.Qxb6602610aDoor
