/-
  zzInside: does x lie between the two bounds?
-/
import Derived.Test.Qxb6602610aHyph
namespace Go.Proofs.Qxb6602610a
open Go.RowKit Go.Deep Plain

/-- A known Bool is told; nothing that was there has turned. -/
def Tell (w : World) (r : Bool) : Ending → World → Prop := fun e w' => e = .returned (.bool r) ∧ Below w.heap.size w w'

theorem below_drewN (B q : Nat) (w : World) : Below B w (w.drewN q) := ⟨rfl, rfl, rfl, Nat.le_refl _, fun _ _ => rfl⟩

set_option maxHeartbeats 4000000 in
set_option maxRecDepth 100000 in
theorem in_none (gl : Nat) (fM fm fp : Int) (fa : Option Addr) (fN fc : Nat) (fb : ByteArray) (xM xm xp : Int) (xa : Option Addr) (xN xc : Nat) (xb : ByteArray) (F X : Nat → ByteArray) (w : World)
    (hv : VerAt w gl fM fm fp fa fN fc fb) (hF : Strs w fa fN F) (hX : Strs w xa xN X) (hfN : fN ≤ 65536) (hxN : xN ≤ 65536) :
    Calls Try.prog 9 #[.pointer (some ⟨gl, 0, none⟩), .pointer none, .bool true, .bool false, .bool false, ver xM xm xp xa xN xc xb] w (Tell w (decide (cmpM fM fm fp fN F xM xm xp xN X ≤ 0))) := by
  have hB : Below w.heap.size w (w.alloc (verO xM xm xp xa xN xc xb)) := (Below.refl _ _).alloc (Nat.le_refl _) _
  have HB := hide hB
  obtain ⟨c0, c1, c2, c3, _⟩ := hv.later hB
  obtain ⟨c, hc⟩ : ∃ c, cmpM fM fm fp fN F xM xm xp xN X = c := ⟨_, rfl⟩
  have hC := fun w' (h1 : Strs w' fa fN F) (h2 : Strs w' xa xN X) => compareModel_any fM fm fp xM xm xp fa xa fN xN fc xc F X w' hfN hxN h1 h2
  rw [hc] at hC ⊢
  have HC := hide hC
  have HF := hide (hF.later hB)
  have HX := hide (hX.later hB)
  clear hC hc hF hX hB hv
  by_cases hn : c < 0
  · have d1 : decide (c < 0) = true := decide_eq_true hn
    have HR : Hid (true = decide (c ≤ 0)) := (decide_eq_true (by omega)).symm
    clear hn
    go_enter Try.func9, Try.ntmps9
    go_wp2
    go_quiet ((go_at_call 10; exact Calls.quiet_of (HC.out _ (by exact HF.out) (by exact HX.out))))
    go_wp2
    go_ret
    exact ⟨ret_bool HR.out, HB.out.trans (below_drewN _ _ _)⟩
  · by_cases hz : c = 0
    · subst hz
      have HR : Hid (true = decide ((0 : Int) ≤ 0)) := rfl
      clear hn
      go_enter Try.func9, Try.ntmps9
      go_wp2
      go_quiet ((go_at_call 10; exact Calls.quiet_of (HC.out _ (by exact HF.out) (by exact HX.out))))
      go_wp2
      go_ret
      exact ⟨ret_bool HR.out, HB.out.trans (below_drewN _ _ _)⟩
    · have d1 : decide (c < 0) = false := decide_eq_false hn
      have d2 : (c == 0) = false := beq_eq_false_iff_ne.2 hz
      have HR : Hid (false = decide (c ≤ 0)) := (decide_eq_false (by omega)).symm
      clear hn hz
      go_enter Try.func9, Try.ntmps9
      go_wp2
      go_quiet ((go_at_call 10; exact Calls.quiet_of (HC.out _ (by exact HF.out) (by exact HX.out))))
      go_wp2
      go_ret
      exact ⟨ret_bool HR.out, HB.out.trans (below_drewN _ _ _)⟩


theorem quiet_from {P : Program} {f : Nat} {args : Array Value} {W : World} {v : Value} {k n : Nat} (h : Calls P f args (W.drewN (k + n)) (Gives v (W.drewN (k + n)))) :
    Calls P f args (W.drewN (k + n)) fun e w'' => e = .returned v ∧ ∃ m, w'' = W.drewN (k + m) :=
  h.mono fun e w'' ⟨he, q, hq⟩ => ⟨he, n + q, by rw [hq, World.drewN_drewN, Nat.add_assoc]⟩

/-- x lies at or above the lower bound, and below the upper one (or at it, where that is let). -/
def between (c d : Int) (hinc : Bool) : Bool := decide (c ≤ 0) && (decide (d < 0) || (d == 0 && hinc))

set_option maxHeartbeats 4000000 in
set_option maxRecDepth 100000 in
theorem in_some (gl gh : Nat) (fM fm fp : Int) (fa : Option Addr) (fN fc : Nat) (fb : ByteArray) (hM hm hp : Int) (ha : Option Addr) (hN hc' : Nat) (hb : ByteArray) (hinc : Bool) (xM xm xp : Int) (xa : Option Addr) (xN xc : Nat) (xb : ByteArray) (F G X : Nat → ByteArray) (w : World)
    (hv : VerAt w gl fM fm fp fa fN fc fb) (hh : VerAt w gh hM hm hp ha hN hc' hb) (hF : Strs w fa fN F) (hG : Strs w ha hN G) (hX : Strs w xa xN X) (hfN : fN ≤ 65536) (hhN : hN ≤ 65536) (hxN : xN ≤ 65536) :
    Calls Try.prog 9 #[.pointer (some ⟨gl, 0, none⟩), .pointer (some ⟨gh, 0, none⟩), .bool true, .bool hinc, .bool false, ver xM xm xp xa xN xc xb] w (Tell w (between (cmpM fM fm fp fN F xM xm xp xN X) (cmpM xM xm xp xN X hM hm hp hN G) hinc)) := by
  have hB : Below w.heap.size w (w.alloc (verO xM xm xp xa xN xc xb)) := (Below.refl _ _).alloc (Nat.le_refl _) _
  have HB := hide hB
  obtain ⟨c0, c1, c2, c3, _⟩ := hv.later hB
  obtain ⟨e0, e1, e2, e3, _⟩ := hh.later hB
  obtain ⟨c, hc⟩ : ∃ c, cmpM fM fm fp fN F xM xm xp xN X = c := ⟨_, rfl⟩
  obtain ⟨d, hd⟩ : ∃ d, cmpM xM xm xp xN X hM hm hp hN G = d := ⟨_, rfl⟩
  have hC := fun w' (h1 : Strs w' fa fN F) (h2 : Strs w' xa xN X) => compareModel_any fM fm fp xM xm xp fa xa fN xN fc xc F X w' hfN hxN h1 h2
  have hD := fun w' (h1 : Strs w' xa xN X) (h2 : Strs w' ha hN G) => compareModel_any xM xm xp hM hm hp xa ha xN hN xc hc' X G w' hxN hhN h1 h2
  rw [hc] at hC ⊢
  rw [hd] at hD ⊢
  have HC := hide hC
  have HD := hide hD
  have HF := hide (hF.later hB)
  have HG := hide (hG.later hB)
  have HX := hide (hX.later hB)
  clear hC hD hc hd hF hG hX hB hv hh
  by_cases hcp : 0 < c
  · have d1 : decide (c < 0) = false := decide_eq_false (by omega)
    have d2 : (c == 0) = false := beq_eq_false_iff_ne.2 (by omega)
    have HR : Hid (false = between c d hinc) := by show _ = _; unfold between; rw [decide_eq_false (by omega)]; rfl
    clear hcp
    go_enter Try.func9, Try.ntmps9
    go_wp2
    go_quiet ((go_at_call 10; exact Calls.quiet_of (HC.out _ (by exact HF.out) (by exact HX.out))))
    go_wp2
    go_ret
    exact ⟨ret_bool HR.out, HB.out.trans (below_drewN _ _ _)⟩
  · have HE : Hid (between c d hinc = (decide (d < 0) || (d == 0 && hinc))) := by show _ = _; unfold between; rw [decide_eq_true (by omega)]; rfl
    have hcz : c < 0 ∨ c = 0 := by omega
    clear hcp
    have hdz : (decide (d < 0) = true ∧ Hid ((decide (d < 0) || (d == 0 && hinc)) = true)) ∨ (decide (d < 0) = false ∧ (d == 0) = true ∧ Hid ((decide (d < 0) || (d == 0 && hinc)) = hinc)) ∨ (decide (d < 0) = false ∧ (d == 0) = false ∧ Hid ((decide (d < 0) || (d == 0 && hinc)) = false)) := by
      by_cases k1 : d < 0
      · exact .inl ⟨decide_eq_true k1, by show _ = _; rw [decide_eq_true k1]; rfl⟩
      · by_cases k2 : d = 0
        · subst k2; exact .inr (.inl ⟨rfl, rfl, by show _ = _; rfl⟩)
        · exact .inr (.inr ⟨decide_eq_false k1, beq_eq_false_iff_ne.2 k2, by show _ = _; rw [decide_eq_false k1, beq_eq_false_iff_ne.2 k2]; rfl⟩)
    rcases hcz with hcn | hcn
    · have d1 : decide (c < 0) = true := decide_eq_true hcn
      clear hcn
      rcases hdz with ⟨k1, HR⟩ | ⟨k1, k2, HR⟩ | ⟨k1, k2, HR⟩
      all_goals
        go_enter Try.func9, Try.ntmps9
        go_wp2
        go_quiet ((go_at_call 10; exact Calls.quiet_of (HC.out _ (by exact HF.out) (by exact HX.out))))
        go_wp2
        go_quiet ((go_at_call 10; exact quiet_from (HD.out _ (by exact HX.out) (by exact HG.out))))
        go_wp2
        go_ret
        exact ⟨ret_bool (by rw [HE.out, HR.out]), HB.out.trans (below_drewN _ _ _)⟩
    · subst hcn
      rcases hdz with ⟨k1, HR⟩ | ⟨k1, k2, HR⟩ | ⟨k1, k2, HR⟩
      all_goals
        go_enter Try.func9, Try.ntmps9
        go_wp2
        go_quiet ((go_at_call 10; exact Calls.quiet_of (HC.out _ (by exact HF.out) (by exact HX.out))))
        go_wp2
        go_quiet ((go_at_call 10; exact quiet_from (HD.out _ (by exact HX.out) (by exact HG.out))))
        go_wp2
        go_ret
        exact ⟨ret_bool (by rw [HE.out, HR.out]), HB.out.trans (below_drewN _ _ _)⟩

end Go.Proofs.Qxb6602610a
