/-
  THE PROOF OF 'Rows.FnCountedMatchesTallySaid': the frame after the guide's skeleton (proof-skeleton.mjs), typed for a slice of pairs; the walk out of Qxb6600847aWalk.lean.
-/
import Derived.Test.Qxb6600847aRows
import Derived.Test.Qxb6600847aWalk
import Derived.WalkKit
import Derived.ProofKit
import Derived.OpenShut
import Derived.ShutString
import Derived.ChangeOld
import Derived.Below
import Derived.Deep.SlicePairs
namespace Go.Proofs.Qxb6600847a.fnCountedMatchesTally
open Go.ChangeShapes Go.WideShapes Go.ChangeAt Go.RowKit
set_option linter.unusedVariables false

theorem own : ownKnob Try.prog.godebug = none := by kernel_rfl
theorem laidOut : laidOutB Try.prog = true := by kernel_rfl

/-- The script as it came in: nil, or n pairs. -/
def IsOps (w : World) (a : Option Addr) (n cap : Nat) (K : Nat → ByteArray) (M : Nat → Bool) : Prop :=
  n ≤ 9223372036854775807 ∧ (a = none → n = 0 ∧ cap = 0) ∧ Ops w a n K M

theorem walk (a : Option Addr) (n cap : Nat) (K : Nat → ByteArray) (M : Nat → Bool) (w : World) (w0 : IsOps w a n cap K M) :
    Calls Try.prog 3 #[.slice a n cap] w fun e w' => e = .returned (.bool true) ∧ Below w.heap.size w w' := by
  obtain ⟨hm, hnil, hO⟩ := w0
  by_cases hn : n ≤ 4096
  · exact tally_walk a n cap K M w hn hnil hO
  · have hb : (4096 : Int) < (n : Int) := by omega
    have HO := hide hO
    clear hO hn
    go_enter Try.func3, Try.ntmps3
    go_wp2_with (go_at_call 5; refine (bytes_any _ _ _ K M _ hm HO.out).mono ?_; rintro e w' ⟨rfl, r, rfl⟩; cases r)
    · go_ret
      exact ⟨rfl, Below.refl _ _⟩
    · go_ret
      exact ⟨rfl, Below.refl _ _⟩

def strOf : Value → ByteArray | .string s => s | _ => .empty
def boolOf : Value → Bool | .bool b => b | _ => false

theorem isOps_of {H : Type} {enc : TypeId × Value → H} {W : World} {base : Nat} {spare : Nat → Bool} {held : Bool} {a0 : Option Addr} {len0 cap0 : Nat} {d0 : DataW H} {p0 : List MemPlace}
    (h0 : DataW.Trod enc Try.prog W base spare held 22 (.slice a0 len0 cap0) d0 p0) : ∃ K M, IsOps W a0 len0 cap0 K M := by
  obtain ⟨fuel, hf⟩ := h0
  rcases Deep.open_slice_pairs Try.underlying22 Try.underlying25 (by kernel_rfl) rfl rfl (by kernel_rfl) (by kernel_rfl) hf with ⟨hcs, _⟩ | ⟨x, l, c, m, n, V0, V1, D0, D1, P0, P1, hcs, _, hl, hm, hmm, _, hc⟩
  · simp [Value.cells] at hcs
    obtain ⟨rfl, rfl, rfl⟩ := hcs
    exact ⟨fun _ => .empty, fun _ => false, by omega, fun _ => ⟨rfl, rfl⟩, fun h => absurd h (Nat.lt_irrefl _)⟩
  · simp [Value.cells] at hcs
    obtain ⟨rfl, rfl, rfl⟩ := hcs
    have hlm : len0 ≤ m := by rw [hmm]; split <;> omega
    have hK : ∀ i, i < len0 → ∃ s : ByteArray, V0 i = .string s ∧ s.size ≤ maxLen := fun i hi => by
      obtain ⟨_, _, t0, _⟩ := hc i (by omega)
      obtain ⟨s, e, _, hs⟩ := DataW.trod_string Try.underlying9 t0
      simp only [List.cons.injEq, and_true] at e
      exact ⟨s, e, hs⟩
    have hM : ∀ i, i < len0 → ∃ b : Bool, V1 i = .bool b := fun i hi => by
      obtain ⟨_, _, _, t1⟩ := hc i (by omega)
      obtain ⟨b, e, _⟩ := DataW.trod_bool Try.underlying4 t1
      simp only [List.cons.injEq, and_true] at e
      exact ⟨b, e⟩
    refine ⟨fun i => strOf (V0 i), fun i => boolOf (V1 i), by unfold maxLen at hm; omega, (fun h => by cases h), fun hp => ?_⟩
    obtain ⟨b, off, spot⟩ := x
    have hspot : spot = none := by
      have h0 := (hc 0 (by omega)).1
      simpa [Addr.add] using World.cell?_spot h0
    subst hspot
    refine ⟨b, off, rfl, fun i hi => ?_⟩
    obtain ⟨q0, q1, _, _⟩ := hc i (by omega)
    obtain ⟨s, e0, hs⟩ := hK i hi
    obtain ⟨bb, e1⟩ := hM i hi
    rw [add_plain] at q0 q1
    rw [e0] at q0
    rw [e1] at q1
    have f0 : strOf (V0 i) = s := by rw [e0]; rfl
    have f1 : boolOf (V1 i) = bb := by rw [e1]; rfl
    show W.cell? _ = some (.string (strOf (V0 i))) ∧ W.cell? _ = some (.bool (boolOf (V1 i))) ∧ (strOf (V0 i)).size ≤ maxLen
    rw [f0, f1]
    exact ⟨q0, by rw [Nat.add_assoc]; exact q1, hs⟩

/-! ### THE ROW's STEP -/
set_option maxRecDepth 100000 in
theorem lifted (os : Os) (started : os.Started) (H : Type) (enc : TypeId × Value → H) :
    ReturnsInHanded {} Try.checked os 3 .any (Rows.fnCountedMatchesTallySpec.pre6 enc Try.prog Try.f3 Rows.fnCountedMatchesTallyRow.domain false) (Rows.fnCountedMatchesTallySpec.post enc Try.prog Try.f3 false true false false) := by
  refine returnsInHanded_of_change (C := Try.checked) own started (by kernel_rfl) Try.func3
    (ChangeSpec.witness6 (enc := enc) (C := Try.checked) false ⟨#[], #[.slice none 0 0], []⟩ 8 (by kernel_rfl) (by kernel_rfl) (by kernel_rfl) (by kernel_rfl)) ?_
  intro W base args ds gs before hval0 hW hcnd _
  have hval : ∀ (j : Nat) t v, Try.f3.params[j]? = some t → args[j]? = some v → Value.okWide Try.prog W .any base t v := hval0
  have hW' := hW
  obtain ⟨p, q, hA0, hV, rfl, hfz, hnd⟩ := hW
  have hA : DataW.TrodAll enc Try.prog W 0 (fun _ => true) true Try.f3.params.toList args.toList ds p := hA0
  rw [Try.params3] at hA hval
  obtain ⟨v0, vs0, d0, ds0, p0, q0, hargs, rfl, rfl, h0, r0⟩ := trodAll_cons hA
  obtain ⟨rfl, rfl, rfl⟩ := trodAll_nil r0
  obtain rfl : args = #[v0] := by cases args; simp_all
  obtain ⟨rfl, rfl⟩ := trodVars_none hV
  obtain ⟨a0, len0, cap0, rfl⟩ := okWide_slice Try.underlying22 (hval 0 22 v0 rfl rfl)
  have k0 := h0
  have lt0 : ∀ x ∈ p0, x.block < W.heap.size := by obtain ⟨m, hm⟩ := k0; exact DataW.trod_lt m _ _ _ hm
  obtain ⟨K, M, w0⟩ := isOps_of h0
  clear hA0 hval0
  refine (walk a0 len0 cap0 K M W w0).mono fun e W' ⟨he, bel⟩ => ?_
  subst he
  exact ⟨_, rfl, _, _, _, [], _, [], hW', trodAll_mk1 (shut_bool Try.underlying4 _), (trodAll_cons_mk (Below.trod laidOut (by kernel_rfl) (of_decide_eq_true (by kernel_rfl)) k0 bel lt0) trodAll_mk0), rfl, bel.frame _, fun h => by cases h⟩

theorem over : Rows.fnCountedMatchesTallyRow.holds Try.pinned (OpenSpec.ofChange Rows.fnCountedMatchesTallySpec) :=
  OpenClaim.holds_of_wide 3 Try.f3 rfl rfl rfl rfl rfl rfl rfl ⟨rfl, rfl, rfl, rfl, rfl⟩ rfl rfl rfl rfl rfl (by kernel_rfl) Try.func3 (by kernel_rfl)
    (of_decide_eq_true (by kernel_rfl)) (by unfold Func.isWrapper; first | (rw [if_pos (by decide +kernel)]; kernel_rfl) | (rw [if_neg (by decide +kernel)]; exact ⟨rfl, rfl⟩))
    (fun os started H enc _ => lifted os started H enc)

/-- THE STATEMENT -/
theorem proved : Rows.FnCountedMatchesTallySaid := over
#print axioms proved
end Go.Proofs.Qxb6600847a.fnCountedMatchesTally
