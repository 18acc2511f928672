/-
  The bounds on the arguments' length: zzBytes_FnHyphenMembership, zzPartBytes, zzVerBytes.
-/
import Derived.Test.Qxb6602610aPre
namespace Go.Proofs.Qxb6602610a
open Go.RowKit Go.Deep Plain

/-- A ZPart as a value. -/
abbrev part (M m p : Int) (a : Option Addr) (N c : Nat) (b : ByteArray) (n : Int) (wc : Bool) : Value := .agg #[.int .u64 M, .int .u64 m, .int .u64 p, .slice a N c, .string b, .int .i64 n, .bool wc]
/-- A ZVer as a value. -/
abbrev ver (M m p : Int) (a : Option Addr) (N c : Nat) (b : ByteArray) : Value := .agg #[.int .u64 M, .int .u64 m, .int .u64 p, .slice a N c, .string b]

def SumPost (w : World) (N : Nat) : Ending → World → Prop := fun e w' => Below w.heap.size w w' ∧ ∃ r : Int, e = .returned (.int .i64 r) ∧ 0 ≤ r ∧ r ≤ 4194304 ∧ (r ≤ 1048576 → N ≤ 65536)

theorem SumPost.mk {w w' : World} {N : Nat} {r1 r2 : Int} (hb : Below w.heap.size w w') (h1 : 0 ≤ r1) (h2 : r1 ≤ 2097152) (h3 : r1 ≤ 1048576 → N ≤ 65536) (h4 : 0 ≤ r2) (h5 : r2 ≤ 2097152) {v : Int} (hv : v = r1 + r2) : SumPost w N (.returned (.int .i64 v)) w' := by
  subst hv
  exact ⟨hb, _, rfl, by omega, by omega, fun h => h3 (by omega)⟩

theorem wrap_sum {r1 r2 : Int} (h1 : 0 ≤ r1) (h2 : r1 ≤ 4194304) (h4 : 0 ≤ r2) (h5 : r2 ≤ 4194304) : IntKind.i64.wrap (r1 + r2) = r1 + r2 := by rw [IntKind.wrap_i64]; omega

set_option maxHeartbeats 1000000 in
theorem partBytes_any (M m p : Int) (a : Option Addr) (N c : Nat) (b : ByteArray) (n : Int) (wc : Bool) (f : Nat → ByteArray) (w : World) (hN : N ≤ 9223372036854775807) (hA : Strs w a N f) (hb : b.size ≤ maxLen) :
    Calls Try.prog 5 #[part M m p a N c b n wc] w (SumPost w N) := by
  have hB : Below w.heap.size w (w.alloc (.cells #[.int .u64 M, .int .u64 m, .int .u64 p, .slice a N c, .string b, .int .i64 n, .bool wc] 25)) := (Below.refl _ _).alloc (Nat.le_refl _) _
  have HB := hide hB
  have HP := hide (fun w' (h : Strs w' a N f) => preBytes_any a N c f w' hN h)
  have HS := hide (fun w' => strBytes_any b w' hb)
  have HA := hide (hA.later hB)
  clear hA hB
  go_enter Try.func5, Try.ntmps5
  go_wp2
  go_region_with (first | (go_at_call 12; refine (HP.out _ (by exact HA.out)).mono ?_; rintro e w1 ⟨rfl, r1, rfl, h1, h2, h3⟩) | (go_at_call 13; refine (HS.out _).mono ?_; rintro e w2 ⟨rfl, r2, rfl, h4, h5, _⟩))
  all_goals go_wp2
  all_goals go_ret
  all_goals exact SumPost.mk HB.out.drew h1 h2 h3 h4 h5 (wrap_sum h1 (by omega) h4 (by omega))

set_option maxHeartbeats 1000000 in
theorem verBytes_any (M m p : Int) (a : Option Addr) (N c : Nat) (b : ByteArray) (f : Nat → ByteArray) (w : World) (hN : N ≤ 9223372036854775807) (hA : Strs w a N f) (hb : b.size ≤ maxLen) :
    Calls Try.prog 6 #[ver M m p a N c b] w (SumPost w N) := by
  have hB : Below w.heap.size w (w.alloc (.cells #[.int .u64 M, .int .u64 m, .int .u64 p, .slice a N c, .string b] 27)) := (Below.refl _ _).alloc (Nat.le_refl _) _
  have HB := hide hB
  have HP := hide (fun w' (h : Strs w' a N f) => preBytes_any a N c f w' hN h)
  have HS := hide (fun w' => strBytes_any b w' hb)
  have HA := hide (hA.later hB)
  clear hA hB
  go_enter Try.func6, Try.ntmps6
  go_wp2
  go_region_with (first | (go_at_call 12; refine (HP.out _ (by exact HA.out)).mono ?_; rintro e w1 ⟨rfl, r1, rfl, h1, h2, h3⟩) | (go_at_call 13; refine (HS.out _).mono ?_; rintro e w2 ⟨rfl, r2, rfl, h4, h5, _⟩))
  all_goals go_wp2
  all_goals go_ret
  all_goals exact SumPost.mk HB.out.drew h1 h2 h3 h4 h5 (wrap_sum h1 (by omega) h4 (by omega))

end Go.Proofs.Qxb6602610a
