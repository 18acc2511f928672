/-
  THE ROW AND THE TIED CARD OF FnCompareMatchesPrecedenceModel.
-/
import Derived.Test.Qxb6602610aDoorRows
import Derived.Test.Qxb6602610aDoorTie
import Derived.Test.Qxb6602610aDoorCards
import Derived.Test.Qxb6602610aDoorMet
import Derived.Test.Qxb6602610aDoorLaw
import Derived.WalkKit
import Derived.OpenShut
import Derived.ShutString
import Derived.ChangeOld
import Derived.Below
import Derived.Deep.Strs
import Derived.SevenTiedAt
namespace Go.Proofs.Qxb6602610aDoor.fnCompareMatchesPrecedenceModel
open Go.ChangeShapes Go.WideShapes Go.ChangeAt Go.RowKit
set_option linter.unusedVariables false

section
variable {H : Type} {enc : TypeId × Value → H} {W : World} {base : Nat} {spare : Nat → Bool} {held : Bool} {b0 : Nat} {v : Value} {d : DataW H} {ps : List MemPlace}

theorem u64_of (hv : Value.okWide Tryd.prog W .any b0 22 v) (h : DataW.Trod enc Tryd.prog W base spare held 22 v d ps) : ∃ n : Int, v = .int .u64 n := by
  obtain ⟨n, rfl⟩ := okWide_int Tryd.underlying22 hv
  exact ⟨n, rfl⟩

theorem str_of (hv : Value.okWide Tryd.prog W .any b0 9 v) (h : DataW.Trod enc Tryd.prog W base spare held 9 v d ps) : ∃ s : ByteArray, v = .string s ∧ s.size ≤ maxLen := by
  obtain ⟨s, rfl⟩ := okWide_string Tryd.underlying9 hv
  obtain ⟨fuel, hf⟩ := h
  obtain ⟨s', e, _, hs⟩ := DataW.trod_string Tryd.underlying9 hf
  simp [Value.cells] at e
  subst e
  exact ⟨s, rfl, hs⟩

theorem strs_of (hv : Value.okWide Tryd.prog W .any b0 23 v) (h : DataW.Trod enc Tryd.prog W base spare held 23 v d ps) :
    ∃ (a : Option Addr) (N cap : Nat) (F : Nat → ByteArray), v = .slice a N cap ∧ N ≤ 9223372036854775807 ∧ (a = none → N = 0 ∧ cap = 0) ∧ Strs W a N F := by
  obtain ⟨a0, len0, cap0, rfl⟩ := okWide_slice Tryd.underlying23 hv
  obtain ⟨fuel, hf⟩ := h
  rcases Deep.open_strs Tryd.underlying23 Tryd.underlying9 Tryd.cells9 hf with ⟨e, _⟩ | ⟨a, len, cap, m, Sx, e, _, hl, hm, hmm, _, hc⟩
  · simp [Value.cells] at e
    obtain ⟨rfl, rfl, rfl⟩ := e
    exact ⟨none, 0, 0, fun _ => .empty, rfl, by omega, fun _ => ⟨rfl, rfl⟩, fun h => absurd h (Nat.lt_irrefl _)⟩
  · simp [Value.cells] at e
    obtain ⟨rfl, rfl, rfl⟩ := e
    have hlm : len0 ≤ m := by rw [hmm]; split <;> omega
    refine ⟨some a, len0, cap0, Sx, rfl, by unfold maxLen at hm; omega, (fun h => by cases h), fun hp => ?_⟩
    obtain ⟨b, off, spot⟩ := a
    have hspot : spot = none := by
      have h0 := (hc 0 (by omega)).1
      simpa [Addr.add] using World.cell?_spot h0
    subst hspot
    refine ⟨b, off, rfl, fun i hi => ?_⟩
    obtain ⟨q0, q1⟩ := hc i (by omega)
    rw [add_plain] at q0
    exact ⟨q0, q1⟩
end

set_option maxRecDepth 100000 in
theorem lifted (os : Os) (started : os.Started) (H : Type) (enc : TypeId × Value → H) :
    ReturnsInHanded {} Tryd.checked os 3 .any (fun w args => (Rows.fnCompareMatchesPrecedenceModelSpec.pre enc Tryd.prog Tryd.f3 [] false w args ∧ laidMetH Tryd.prog five w) ∧ sizedMet enc Tryd.prog Tryd.f3 (OpenSpec.ofChange Rows.fnCompareMatchesPrecedenceModelSpec) false w args)
      (Rows.fnCompareMatchesPrecedenceModelSpec.post enc Tryd.prog Tryd.f3 false true false false) := by
  refine returnsInHanded_of_change_and (C := Tryd.checked) (X := fun w _ => laidMetH Tryd.prog five w) (fun _ _ _ hh h => h.of_heap hh) own started (by kernel_rfl) Tryd.func3
    (ChangeSpec.witness_shaped (enc := enc) (C := Tryd.checked) (os := os) (X := fun w _ => laidMetH Tryd.prog five w) false (World.doorLaid Tryd.prog 400 os) #[.int .u64 0, .int .u64 0, .int .u64 0, .slice none 0 0, .string .empty, .int .u64 0, .int .u64 0, .int .u64 0, .slice none 0 0, .string .empty] 8 rfl (World.shaped_of_RefB (by kernel_rfl) (by kernel_rfl)) (by kernel_rfl) (by kernel_rfl) (by kernel_rfl) (door_met os _)) ?_
  intro W base args ds gs before hval0 hW _ _ hL _
  have hval : ∀ (j : Nat) t v, Tryd.f3.params[j]? = some t → args[j]? = some v → Value.okWide Tryd.prog W .any base t v := hval0
  have hW' := hW
  obtain ⟨p, q, hA0, hV, rfl, hfz, hnd⟩ := hW
  have hA : DataW.TrodAll enc Tryd.prog W 0 (fun _ => true) true Tryd.f3.params.toList args.toList ds p := hA0
  rw [Tryd.params3] at hA hval
  obtain ⟨v0, vs0, d0, ds0, p0, q0, hargs, rfl, rfl, h0, r0⟩ := trodAll_cons hA
  obtain ⟨v1, vs1, d1, ds1, p1, q1, rfl, rfl, rfl, h1, r1⟩ := trodAll_cons r0
  obtain ⟨v2, vs2, d2, ds2, p2, q2, rfl, rfl, rfl, h2, r2⟩ := trodAll_cons r1
  obtain ⟨v3, vs3, d3, ds3, p3, q3, rfl, rfl, rfl, h3, r3⟩ := trodAll_cons r2
  obtain ⟨v4, vs4, d4, ds4, p4, q4, rfl, rfl, rfl, h4, r4⟩ := trodAll_cons r3
  obtain ⟨v5, vs5, d5, ds5, p5, q5, rfl, rfl, rfl, h5, r5⟩ := trodAll_cons r4
  obtain ⟨v6, vs6, d6, ds6, p6, q6, rfl, rfl, rfl, h6, r6⟩ := trodAll_cons r5
  obtain ⟨v7, vs7, d7, ds7, p7, q7, rfl, rfl, rfl, h7, r7⟩ := trodAll_cons r6
  obtain ⟨v8, vs8, d8, ds8, p8, q8, rfl, rfl, rfl, h8, r8⟩ := trodAll_cons r7
  obtain ⟨v9, vs9, d9, ds9, p9, q9, rfl, rfl, rfl, h9, r9⟩ := trodAll_cons r8
  obtain ⟨rfl, rfl, rfl⟩ := trodAll_nil r9
  obtain rfl : args = #[v0, v1, v2, v3, v4, v5, v6, v7, v8, v9] := by cases args; simp_all
  obtain ⟨rfl, rfl⟩ := trodVars_none hV
  have lt : ∀ {t : TypeId} {v : Value} {d : DataW H} {ps : List MemPlace}, DataW.Trod enc Tryd.prog W 0 (fun _ => true) true t v d ps → ∀ x ∈ ps, x.block < W.heap.size := fun h => by obtain ⟨m, hm⟩ := h; exact DataW.trod_lt m _ _ _ hm
  have k0 := h0
  have k1 := h1
  have k2 := h2
  have k3 := h3
  have k4 := h4
  have k5 := h5
  have k6 := h6
  have k7 := h7
  have k8 := h8
  have k9 := h9
  obtain ⟨x1, rfl⟩ := u64_of (hval 0 22 v0 rfl rfl) h0
  obtain ⟨x2, rfl⟩ := u64_of (hval 1 22 v1 rfl rfl) h1
  obtain ⟨x3, rfl⟩ := u64_of (hval 2 22 v2 rfl rfl) h2
  obtain ⟨va, vN, vc, V, rfl, n1, e1, s1⟩ := strs_of (hval 3 23 v3 rfl rfl) h3
  obtain ⟨vb, rfl, b1⟩ := str_of (hval 4 9 v4 rfl rfl) h4
  obtain ⟨y1, rfl⟩ := u64_of (hval 5 22 v5 rfl rfl) h5
  obtain ⟨y2, rfl⟩ := u64_of (hval 6 22 v6 rfl rfl) h6
  obtain ⟨y3, rfl⟩ := u64_of (hval 7 22 v7 rfl rfl) h7
  obtain ⟨wa, wN, wc, Wf, rfl, n2, e2, s2⟩ := strs_of (hval 8 23 v8 rfl rfl) h8
  obtain ⟨wb, rfl, b2⟩ := str_of (hval 9 9 v9 rfl rfl) h9
  have hE := errs_of_laid hL
  clear hA0 hval0
  refine (prec_law x1 x2 x3 va vN vc vb y1 y2 y3 wa wN wc wb V Wf W n1 n2 e1 e2 s1 s2 b1 b2 hE).mono fun e W' ⟨he, bel⟩ => ?_
  subst he
  exact ⟨_, rfl, _, _, _, [], _, [], hW', trodAll_mk1 (shut_bool Tryd.underlying4 _), (trodAll_cons_mk (Below.trod laidOut (by kernel_rfl) (of_decide_eq_true (by kernel_rfl)) k0 bel (lt k0)) (trodAll_cons_mk (Below.trod laidOut (by kernel_rfl) (of_decide_eq_true (by kernel_rfl)) k1 bel (lt k1)) (trodAll_cons_mk (Below.trod laidOut (by kernel_rfl) (of_decide_eq_true (by kernel_rfl)) k2 bel (lt k2)) (trodAll_cons_mk (Below.trod laidOut (by kernel_rfl) (of_decide_eq_true (by kernel_rfl)) k3 bel (lt k3)) (trodAll_cons_mk (Below.trod laidOut (by kernel_rfl) (of_decide_eq_true (by kernel_rfl)) k4 bel (lt k4)) (trodAll_cons_mk (Below.trod laidOut (by kernel_rfl) (of_decide_eq_true (by kernel_rfl)) k5 bel (lt k5)) (trodAll_cons_mk (Below.trod laidOut (by kernel_rfl) (of_decide_eq_true (by kernel_rfl)) k6 bel (lt k6)) (trodAll_cons_mk (Below.trod laidOut (by kernel_rfl) (of_decide_eq_true (by kernel_rfl)) k7 bel (lt k7)) (trodAll_cons_mk (Below.trod laidOut (by kernel_rfl) (of_decide_eq_true (by kernel_rfl)) k8 bel (lt k8)) (trodAll_cons_mk (Below.trod laidOut (by kernel_rfl) (of_decide_eq_true (by kernel_rfl)) k9 bel (lt k9)) trodAll_mk0)))))))))), rfl, bel.frame _, fun h => by cases h⟩

theorem over : Rows.FnCompareMatchesPrecedenceModelSaid :=
  OpenClaim.holds_of_wide 3 Tryd.f3 rfl rfl rfl rfl rfl rfl rfl ⟨rfl, rfl, rfl, rfl, rfl⟩ rfl rfl rfl rfl rfl (by kernel_rfl) Tryd.func3 (by kernel_rfl)
    (of_decide_eq_true (by kernel_rfl)) (by unfold Func.isWrapper; first | (rw [if_pos (by decide +kernel)]; kernel_rfl) | (rw [if_neg (by decide +kernel)]; exact ⟨rfl, rfl⟩))
    (fun os started H enc _ => lifted os started H enc)

/-- THE STATEMENT: the tied card. -/
theorem proved : Rows.FnCompareMatchesPrecedenceModelCardSaid :=
  Claim7.holds_tied_plain_at .later [] [.data, .data, .data, .sentinel, .sentinel] true (true, "4757b285d4873cd46ed5e79e23da4c2bafcc4010020c2c94801ac5185a802026") true
    over (fun _ h => by cases h) (by kernel_rfl) (fun _ h => by cases h) fnCompareMatchesPrecedenceModel_row_tie rfl ⟨rfl, rfl⟩ (by kernel_rfl) rfl
    (fun f fn hf hfn => by
      obtain rfl : f = 3 := Option.some.inj ((show Tryd.prog.funcNamed Rows.fnCompareMatchesPrecedenceModelRow.func = some 3 by kernel_rfl).symm.trans hf) |>.symm
      obtain rfl : fn = Tryd.f3 := (Option.some.inj (Tryd.func3.symm.trans hfn)).symm
      exact ⟨by kernel_rfl, fun j t ht => by
        rw [Tryd.params3] at ht
        have hm : t ∈ [22, 22, 22, 23, 9, 22, 22, 22, 23, 9] := by simpa using Array.mem_of_getElem? ht
        have hall : ([22, 22, 22, 23, 9, 22, 22, 22, 23, 9].all fun u => !Tryd.prog.wantsStandIn u) = true := by kernel_rfl
        exact (show Tryd.prog.wantsStandIn t = false by simpa using List.all_eq_true.1 hall t hm)⟩)
    (by kernel_rfl)
#print axioms proved
end Go.Proofs.Qxb6602610aDoor.fnCompareMatchesPrecedenceModel
