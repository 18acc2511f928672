/-
  THE PROOF OF 'Rows.FnHyphenMembershipSaid': the frame after the guide's skeleton, typed for three structs by value; the walk out of Qxb6602610aWalk.lean.
-/
import Derived.Test.Qxb6602610aRows
import Derived.Test.Qxb6602610aWalk
import Derived.WalkKit
import Derived.ProofKit
import Derived.OpenShut
import Derived.ShutString
import Derived.ChangeOld
import Derived.Below
import Derived.Deep.Strs
namespace Go.Proofs.Qxb6602610a.fnHyphenMembership
open Go.ChangeShapes Go.WideShapes Go.ChangeAt Go.RowKit
set_option linter.unusedVariables false

theorem own : ownKnob Try.prog.godebug = none := by kernel_rfl
theorem laidOut : laidOutB Try.prog = true := by kernel_rfl

theorem Try.cells25 : Try.prog.cellsOf 25 = 7 := by kernel_rfl
theorem Try.cells22 : Try.prog.cellsOf 22 = 1 := by kernel_rfl
theorem Try.cells23 : Try.prog.cellsOf 23 = 1 := by kernel_rfl
theorem Try.cells9 : Try.prog.cellsOf 9 = 1 := by kernel_rfl
theorem Try.cells3 : Try.prog.cellsOf 3 = 1 := by kernel_rfl
theorem Try.cells4 : Try.prog.cellsOf 4 = 1 := by kernel_rfl
theorem Try.cells27 : Try.prog.cellsOf 27 = 5 := by kernel_rfl

section
variable {H : Type} {enc : TypeId × Value → H} {W : World} {base : Nat} {spare : Nat → Bool} {held : Bool} {fuel : Nat}

theorem u64_of {c : Value} {x : DataW H × List MemPlace} (h : DataW.trod enc Try.prog W base spare held fuel 22 [c] = some x) : ∃ n : Int, c = .int .u64 n ∧ 0 ≤ n ∧ n ≤ 18446744073709551615 := by
  obtain ⟨n, e, _, hw⟩ := DataW.trod_int Try.underlying22 h
  simp only [List.cons.injEq, and_true] at e
  refine ⟨n, e, ?_⟩
  have e1 : IntKind.u64.min = 0 := rfl
  have e2 : IntKind.u64.max = 18446744073709551615 := rfl
  simp [Lit.wf, e1, e2] at hw
  omega

theorem i64_of {c : Value} {x : DataW H × List MemPlace} (h : DataW.trod enc Try.prog W base spare held fuel 3 [c] = some x) : ∃ n : Int, c = .int .i64 n ∧ n ≤ 9223372036854775807 := by
  obtain ⟨n, e, _, hw⟩ := DataW.trod_int Try.underlying3 h
  simp only [List.cons.injEq, and_true] at e
  refine ⟨n, e, ?_⟩
  have e1 : IntKind.i64.min = -9223372036854775808 := rfl
  have e2 : IntKind.i64.max = 9223372036854775807 := rfl
  simp [Lit.wf, e1, e2] at hw
  omega

theorem str_of {c : Value} {x : DataW H × List MemPlace} (h : DataW.trod enc Try.prog W base spare held fuel 9 [c] = some x) : ∃ s : ByteArray, c = .string s ∧ s.size ≤ maxLen := by
  obtain ⟨s, e, _, hs⟩ := DataW.trod_string Try.underlying9 h
  simp only [List.cons.injEq, and_true] at e
  exact ⟨s, e, hs⟩

theorem bool_of {c : Value} {x : DataW H × List MemPlace} (h : DataW.trod enc Try.prog W base spare held fuel 4 [c] = some x) : ∃ b : Bool, c = .bool b := by
  obtain ⟨b, e, _⟩ := DataW.trod_bool Try.underlying4 h
  simp only [List.cons.injEq, and_true] at e
  exact ⟨b, e⟩

theorem strs_of {c : Value} {x : DataW H × List MemPlace} (h : DataW.trod enc Try.prog W base spare held fuel 23 [c] = some x) :
    ∃ (a : Option Addr) (N cap : Nat) (F : Nat → ByteArray), c = .slice a N cap ∧ N ≤ 9223372036854775807 ∧ (a = none → N = 0 ∧ cap = 0) ∧ Strs W a N F := by
  rcases Deep.open_strs Try.underlying23 Try.underlying9 Try.cells9 h with ⟨e, _⟩ | ⟨a, len, cap, m, Sx, e, _, hl, hm, hmm, _, hc⟩
  · simp only [List.cons.injEq, and_true] at e
    exact ⟨none, 0, 0, fun _ => .empty, e, by omega, fun _ => ⟨rfl, rfl⟩, fun h => absurd h (Nat.lt_irrefl _)⟩
  · simp only [List.cons.injEq, and_true] at e
    have hlm : len ≤ m := by rw [hmm]; split <;> omega
    refine ⟨some a, len, cap, Sx, e, by unfold maxLen at hm; omega, (fun h => by cases h), fun hp => ?_⟩
    obtain ⟨b, off, spot⟩ := a
    have hspot : spot = none := by
      have h0 := (hc 0 (by omega)).1
      simpa [Addr.add] using World.cell?_spot h0
    subst hspot
    refine ⟨b, off, rfl, fun i hi => ?_⟩
    obtain ⟨q0, q1⟩ := hc i (by omega)
    rw [add_plain] at q0
    exact ⟨q0, q1⟩

theorem ver_of {v : Value} {d : DataW H} {ps : List MemPlace} (hv : ∃ cs, v = .agg cs ∧ cs.size = Try.prog.cellsOf 27) (h : DataW.Trod enc Try.prog W base spare held 27 v d ps) :
    ∃ (M m p : Int) (a : Option Addr) (N c : Nat) (b : ByteArray) (F : Nat → ByteArray), v = ver M m p a N c b ∧ (0 ≤ M ∧ 0 ≤ m ∧ 0 ≤ p) ∧ N ≤ 9223372036854775807 ∧ (a = none → N = 0 ∧ c = 0) ∧ Strs W a N F ∧ b.size ≤ maxLen := by
  obtain ⟨cs, rfl, hsz⟩ := hv
  rw [Try.cells27] at hsz
  obtain ⟨cl⟩ := cs
  match cl, hsz with
  | [c0, c1, c2, c3, c4], _ =>
    obtain ⟨fuel, hf⟩ := h
    obtain ⟨xs, n, _, _, _, hlen, hf⟩ := DataW.trod_struct Try.underlying27 hf
    match xs, hlen with
    | [y0, y1, y2, y3, y4], _ =>
      have h0 := hf 0 _ rfl
      have h1 := hf 1 _ rfl
      have h2 := hf 2 _ rfl
      have h3 := hf 3 _ rfl
      have h4 := hf 4 _ rfl
      simp [Value.cells, Try.cells22, Try.cells23, Try.cells9] at h0 h1 h2 h3 h4
      obtain ⟨M, rfl, m1, _⟩ := u64_of h0
      obtain ⟨m, rfl, m2, _⟩ := u64_of h1
      obtain ⟨p, rfl, m3, _⟩ := u64_of h2
      obtain ⟨a, N, c, F, rfl, hN, hnil, hS⟩ := strs_of h3
      obtain ⟨b, rfl, hb⟩ := str_of h4
      exact ⟨M, m, p, a, N, c, b, F, rfl, ⟨m1, m2, m3⟩, hN, hnil, hS, hb⟩

theorem part_of {v : Value} {d : DataW H} {ps : List MemPlace} (hv : ∃ cs, v = .agg cs ∧ cs.size = Try.prog.cellsOf 25) (h : DataW.Trod enc Try.prog W base spare held 25 v d ps) :
    ∃ (M m p : Int) (a : Option Addr) (N c : Nat) (b : ByteArray) (n : Int) (wc : Bool) (F : Nat → ByteArray), v = part M m p a N c b n wc ∧ (0 ≤ M ∧ 0 ≤ m ∧ 0 ≤ p) ∧ (M ≤ 18446744073709551615 ∧ m ≤ 18446744073709551615 ∧ p ≤ 18446744073709551615) ∧ N ≤ 9223372036854775807 ∧ (a = none → N = 0 ∧ c = 0) ∧ Strs W a N F ∧ b.size ≤ maxLen ∧ n ≤ 9223372036854775807 := by
  obtain ⟨cs, rfl, hsz⟩ := hv
  rw [Try.cells25] at hsz
  obtain ⟨cl⟩ := cs
  match cl, hsz with
  | [c0, c1, c2, c3, c4, c5, c6], _ =>
    obtain ⟨fuel, hf⟩ := h
    obtain ⟨xs, n, _, _, _, hlen, hf⟩ := DataW.trod_struct Try.underlying25 hf
    match xs, hlen with
    | [y0, y1, y2, y3, y4, y5, y6], _ =>
      have h0 := hf 0 _ rfl
      have h1 := hf 1 _ rfl
      have h2 := hf 2 _ rfl
      have h3 := hf 3 _ rfl
      have h4 := hf 4 _ rfl
      have h5 := hf 5 _ rfl
      have h6 := hf 6 _ rfl
      simp [Value.cells, Try.cells22, Try.cells23, Try.cells9, Try.cells3, Try.cells4] at h0 h1 h2 h3 h4 h5 h6
      obtain ⟨M, rfl, m1, j1⟩ := u64_of h0
      obtain ⟨m, rfl, m2, j2⟩ := u64_of h1
      obtain ⟨p, rfl, m3, j3⟩ := u64_of h2
      obtain ⟨a, N, c, F, rfl, hN, hnil, hS⟩ := strs_of h3
      obtain ⟨b, rfl, hb⟩ := str_of h4
      obtain ⟨nn, rfl, hn⟩ := i64_of h5
      obtain ⟨wc, rfl⟩ := bool_of h6
      exact ⟨M, m, p, a, N, c, b, nn, wc, F, rfl, ⟨m1, m2, m3⟩, ⟨j1, j2, j3⟩, hN, hnil, hS, hb, hn⟩
end

/-! ### THE ROW's STEP -/
set_option maxRecDepth 100000 in
theorem lifted (os : Os) (started : os.Started) (H : Type) (enc : TypeId × Value → H) :
    ReturnsInHanded {} Try.checked os 3 .any (Rows.fnHyphenMembershipSpec.pre6 enc Try.prog Try.f3 Rows.fnHyphenMembershipRow.domain false) (Rows.fnHyphenMembershipSpec.post enc Try.prog Try.f3 false true false false) := by
  refine returnsInHanded_of_change (C := Try.checked) own started (by kernel_rfl) Try.func3
    (ChangeSpec.witness6 (enc := enc) (C := Try.checked) false ⟨#[], #[.agg #[.int .u64 0, .int .u64 0, .int .u64 0, .slice none 0 0, .string .empty, .int .i64 0, .bool false], .agg #[.int .u64 0, .int .u64 0, .int .u64 0, .slice none 0 0, .string .empty, .int .i64 0, .bool false], .agg #[.int .u64 0, .int .u64 0, .int .u64 0, .slice none 0 0, .string .empty]], []⟩ 8 (by kernel_rfl) (by kernel_rfl) (by kernel_rfl) (by kernel_rfl)) ?_
  intro W base args ds gs before hval0 hW hcnd _
  have hval : ∀ (j : Nat) t v, Try.f3.params[j]? = some t → args[j]? = some v → Value.okWide Try.prog W .any base t v := hval0
  have hW' := hW
  obtain ⟨p, q, hA0, hV, rfl, hfz, hnd⟩ := hW
  have hA : DataW.TrodAll enc Try.prog W 0 (fun _ => true) true Try.f3.params.toList args.toList ds p := hA0
  rw [Try.params3] at hA hval
  obtain ⟨v0, vs0, d0, ds0, p0, q0, hargs, rfl, rfl, h0, r0⟩ := trodAll_cons hA
  obtain ⟨v1, vs1, d1, ds1, p1, q1, rfl, rfl, rfl, h1, r1⟩ := trodAll_cons r0
  obtain ⟨v2, vs2, d2, ds2, p2, q2, rfl, rfl, rfl, h2, r2⟩ := trodAll_cons r1
  obtain ⟨rfl, rfl, rfl⟩ := trodAll_nil r2
  obtain rfl : args = #[v0, v1, v2] := by cases args; simp_all
  obtain ⟨rfl, rfl⟩ := trodVars_none hV
  have k0 := h0
  have k1 := h1
  have k2 := h2
  have lt0 : ∀ x ∈ p0, x.block < W.heap.size := by obtain ⟨m, hm⟩ := k0; exact DataW.trod_lt m _ _ _ hm
  have lt1 : ∀ x ∈ p1, x.block < W.heap.size := by obtain ⟨m, hm⟩ := k1; exact DataW.trod_lt m _ _ _ hm
  have lt2 : ∀ x ∈ p2, x.block < W.heap.size := by obtain ⟨m, hm⟩ := k2; exact DataW.trod_lt m _ _ _ hm
  obtain ⟨fM, fm, fp, fa, fN, fc, fb, fn, fw, F, rfl, _, _, n1, e1, s1, b1, _⟩ := part_of (okWide_struct Try.underlying25 (hval 0 25 v0 rfl rfl)) h0
  obtain ⟨tM, tm, tp, ta, tN, tc, tb, tn, tw, T, rfl, ⟨g1, g2, g3⟩, ⟨j1, j2, j3⟩, n2, e2, s2, b2, j4⟩ := part_of (okWide_struct Try.underlying25 (hval 1 25 v1 rfl rfl)) h1
  obtain ⟨xM, xm, xp, xa, xN, xc, xb, X, rfl, ⟨g4, g5, g6⟩, n3, e3, s3, b3⟩ := ver_of (okWide_struct Try.underlying27 (hval 2 27 v2 rfl rfl)) h2
  clear hA0 hval0
  refine (hyph_walk fM fm fp fa fN fc fb fn fw tM tm tp ta tN tc tb tn tw xM xm xp xa xN xc xb F T X W n1 n2 n3 s1 s2 s3 b1 b2 b3 e1 e2 e3 g1 g2 g3 g4 g5 g6 j4 j1 j2 j3).mono fun e W' ⟨he, bel⟩ => ?_
  subst he
  exact ⟨_, rfl, _, _, _, [], _, [], hW', trodAll_mk1 (shut_bool Try.underlying4 _), (trodAll_cons_mk (Below.trod laidOut (by kernel_rfl) (of_decide_eq_true (by kernel_rfl)) k0 bel lt0) (trodAll_cons_mk (Below.trod laidOut (by kernel_rfl) (of_decide_eq_true (by kernel_rfl)) k1 bel lt1) (trodAll_cons_mk (Below.trod laidOut (by kernel_rfl) (of_decide_eq_true (by kernel_rfl)) k2 bel lt2) trodAll_mk0))), rfl, bel.frame _, fun h => by cases h⟩

theorem over : Rows.fnHyphenMembershipRow.holds Try.pinned (OpenSpec.ofChange Rows.fnHyphenMembershipSpec) :=
  OpenClaim.holds_of_wide 3 Try.f3 rfl rfl rfl rfl rfl rfl rfl ⟨rfl, rfl, rfl, rfl, rfl⟩ rfl rfl rfl rfl rfl (by kernel_rfl) Try.func3 (by kernel_rfl)
    (of_decide_eq_true (by kernel_rfl)) (by unfold Func.isWrapper; first | (rw [if_pos (by decide +kernel)]; kernel_rfl) | (rw [if_neg (by decide +kernel)]; exact ⟨rfl, rfl⟩))
    (fun os started H enc _ => lifted os started H enc)

/-- THE STATEMENT -/
theorem proved : Rows.FnHyphenMembershipSaid := over
#print axioms proved
end Go.Proofs.Qxb6602610a.fnHyphenMembership
