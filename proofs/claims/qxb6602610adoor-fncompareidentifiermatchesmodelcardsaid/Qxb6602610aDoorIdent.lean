/-
  The walk of FnCompareIdentifierMatchesModel.
-/
import Derived.Test.Qxb6602610aDoorParse
namespace Go.Proofs.Qxb6602610aDoor
open Go.RowKit Plain

set_option maxRecDepth 100000 in
theorem zzbytes_ok (a b : ByteArray) (w : World) (h : a.size + b.size ≤ 1048576) : Calls Tryd.prog 17 #[.string a, .string b] w fun e w' => e = .returned (.bool true) ∧ w' = w := by
  have h1 : ¬ (1048576 : Int) < (a.size : Int) := by omega
  have h2 : ¬ (1048576 : Int) < (b.size : Int) := by omega
  have h3 : ¬ (1048576 : Int) < (a.size : Int) + (b.size : Int) := by omega
  go_enter Tryd.func17, Tryd.ntmps17
  go_wp2
  go_ret
  exact ⟨rfl, rfl⟩

set_option maxRecDepth 100000 in
theorem zzbytes_no (a b : ByteArray) (w : World) (ha : a.size ≤ maxLen) (hb : b.size ≤ maxLen) (h : ¬ a.size + b.size ≤ 1048576) : Calls Tryd.prog 17 #[.string a, .string b] w fun e w' => e = .returned (.bool false) ∧ w' = w := by
  unfold maxLen at ha hb
  by_cases k1 : (1048576 : Int) < (a.size : Int)
  · go_enter Tryd.func17, Tryd.ntmps17
    go_wp2
    go_ret
    exact ⟨rfl, rfl⟩
  · by_cases k2 : (1048576 : Int) < (b.size : Int)
    · go_enter Tryd.func17, Tryd.ntmps17
      go_wp2
      go_ret
      exact ⟨rfl, rfl⟩
    · have k3 : (1048576 : Int) < (a.size : Int) + (b.size : Int) := by omega
      go_enter Tryd.func17, Tryd.ntmps17
      go_wp2
      go_ret
      exact ⟨rfl, rfl⟩

theorem zzident_any (a b : ByteArray) (w : World) (sa : a.size ≤ 1048576) (sb : b.size ≤ 1048576) (hE : Errs w) : Calls Tryd.prog 18 #[.string a, .string b] w (Tells w (ident a b)) := by
  have HC := hide (compareIdentifier_any a b w sa sb hE)
  clear hE
  go_enter Tryd.func18, Tryd.ntmps18
  go_wp2_with (go_at_call 21; refine HC.out.mono ?_; rintro e w1 ⟨rfl, hb1⟩; have HB1 := hide hb1; clear hb1)
  go_ret
  exact ⟨rfl, HB1.out⟩

set_option maxHeartbeats 1000000 in
set_option maxRecDepth 100000 in
theorem ident_law (a b : ByteArray) (w : World) (ha : a.size ≤ maxLen) (hb : b.size ≤ maxLen) (hE : Errs w) : Calls Tryd.prog 6 #[.string a, .string b] w fun e w' => e = .returned (.bool true) ∧ Below w.heap.size w w' := by
  by_cases h : a.size + b.size ≤ 1048576
  · have h1 : ¬ (1048576 : Int) < (a.size : Int) := by omega
    have h2 : ¬ (1048576 : Int) < (b.size : Int) := by omega
    have h3 : ¬ (1048576 : Int) < (a.size : Int) + (b.size : Int) := by omega
    have H17 := hide (fun w => zzbytes_ok a b w h)
    obtain ⟨r, hr⟩ : ∃ r, ident a b = r := ⟨_, rfl⟩
    have h18 := zzident_any a b w (by omega) (by omega) hE
    have h19 := fun w => ident_any a b w ha hb
    rw [hr] at h18 h19
    have H18 := hide h18
    have H19 := hide h19
    clear h18 h19 hE hr h
    go_enter Tryd.func6, Tryd.ntmps6
    go_wp2_with (first
      | (go_at_call 17; refine (H17.out _).mono ?_; rintro e w' ⟨rfl, rfl⟩)
      | (go_at_call 18; refine H18.out.mono ?_; rintro e w1 ⟨rfl, hb1⟩; have HB1 := hide hb1; clear hb1)
      | (go_at_call 19; refine (H19.out _).mono ?_; rintro e w2 ⟨rfl, q, rfl⟩))
    go_ret
    exact ⟨ret_bool (by simp), HB1.out.trans ⟨rfl, rfl, rfl, Nat.le_refl _, fun _ _ => rfl⟩⟩
  · have H17 := hide (fun w => zzbytes_no a b w ha hb h)
    clear hE h
    go_enter Tryd.func6, Tryd.ntmps6
    go_wp2_with (go_at_call 17; refine (H17.out _).mono ?_; rintro e w' ⟨rfl, rfl⟩)
    go_ret
    exact ⟨rfl, Below.refl _ _⟩

end Go.Proofs.Qxb6602610aDoor
