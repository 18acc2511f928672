/-
  zzBelowTop: is x at or below the greatest version that 'to' matches? Told in the words of the bumped upper bound.
-/
import Derived.Test.Qxb6602610aIn
namespace Go.Proofs.Qxb6602610a
open Go.RowKit Go.Deep Plain
set_option linter.unusedVariables false

/-- Below a bound that is no pre-release. -/
theorem cmp_none_lt (a1 a2 a3 : Int) (N : Nat) (f : Nat → ByteArray) (b1 b2 b3 : Int) (g : Nat → ByteArray) :
    cmpM a1 a2 a3 N f b1 b2 b3 0 g < 0 ↔ (a1 < b1 ∨ (a1 = b1 ∧ (a2 < b2 ∨ (a2 = b2 ∧ (a3 < b3 ∨ (a3 = b3 ∧ N ≠ 0)))))) := by
  unfold cmpM
  rw [preM_none]
  rcases sgn_cases a1 b1 with ⟨h1, e1⟩ | ⟨h1, e1⟩ | ⟨h1, e1⟩
  · rw [e1, if_neg (by decide)]; omega
  · rw [e1, if_pos rfl]
    rcases sgn_cases a2 b2 with ⟨h2, e2⟩ | ⟨h2, e2⟩ | ⟨h2, e2⟩
    · rw [e2, if_neg (by decide)]; omega
    · rw [e2, if_pos rfl]
      rcases sgn_cases a3 b3 with ⟨h3, e3⟩ | ⟨h3, e3⟩ | ⟨h3, e3⟩
      · rw [e3, if_neg (by decide)]; omega
      · rw [e3, if_pos rfl]
        by_cases hN : N = 0
        · rw [if_pos hN]; omega
        · rw [if_neg hN]; omega
      · rw [e3, if_neg (by decide)]; omega
    · rw [e2, if_neg (by decide)]; omega
  · rw [e1, if_neg (by decide)]; omega

theorem sgn_lt {a b : Int} (h : a < b) : sgn a b = -1 := by unfold sgn; rw [if_pos h]
theorem sgn_gt {a b : Int} (h : b < a) : sgn a b = 1 := by unfold sgn; rw [if_neg (by omega), if_pos h]

theorem sgn_eq {a b : Int} (h : a = b) : sgn a b = 0 := by rw [h]; exact sgn_self b

theorem below2 (w : World) (o1 o2 : Obj) : Below w.heap.size w ((w.alloc o1).alloc o2) := ((Below.refl _ _).alloc (Nat.le_refl _) o1).alloc (by simp) o2

set_option maxHeartbeats 2000000 in
set_option maxRecDepth 100000 in
theorem top_none (tM tm tp : Int) (ta : Option Addr) (tN tc : Nat) (tb : ByteArray) (tn : Int) (tw : Bool) (xM xm xp : Int) (xa : Option Addr) (xN xc : Nat) (xb : ByteArray) (w : World) (h : tn ≤ 0) : Calls Try.prog 11 #[part tM tm tp ta tN tc tb tn tw, ver xM xm xp xa xN xc xb] w (Tell w true) := by
  go_enter Try.func11, Try.ntmps11
  go_wp2
  go_ret
  exact ⟨rfl, below2 w _ _⟩

set_option maxHeartbeats 2000000 in
set_option maxRecDepth 100000 in
theorem top_three (tM tm tp : Int) (ta : Option Addr) (tN tc : Nat) (tb : ByteArray) (tw : Bool) (xM xm xp : Int) (xa : Option Addr) (xN xc : Nat) (xb : ByteArray) (X T : Nat → ByteArray) (w : World) (hX : Strs w xa xN X) (hT : Strs w ta tN T) (hxN : xN ≤ 65536) (htN : tN ≤ 65536) :
    Calls Try.prog 11 #[part tM tm tp ta tN tc tb 3 tw, ver xM xm xp xa xN xc xb] w (Tell w (decide (cmpM xM xm xp xN X tM tm tp tN T ≤ 0))) := by
  have hB := below2 w (partO tM tm tp ta tN tc tb 3 tw) (verO xM xm xp xa xN xc xb)
  have HB := hide hB
  have HC := hide (fun w' (h1 : Strs w' xa xN X) (h2 : Strs w' ta tN T) => compareModel_any xM xm xp tM tm tp xa ta xN tN xc tc X T w' hxN htN h1 h2)
  have HX := hide (hX.later hB)
  have HT := hide (hT.later hB)
  clear hX hT hB
  go_enter Try.func11, Try.ntmps11
  go_wp2_with (go_at_call 10; refine (HC.out _ (by exact HX.out) (by exact HT.out)).mono ?_; rintro e w' ⟨rfl, q, rfl⟩)
  go_ret
  exact ⟨rfl, HB.out.trans (below_drewN _ _ _)⟩

set_option maxHeartbeats 4000000 in
set_option maxRecDepth 100000 in
theorem top_one (tM tm tp : Int) (ta : Option Addr) (tN tc : Nat) (tb : ByteArray) (tw : Bool) (xM xm xp : Int) (xa : Option Addr) (xN xc : Nat) (xb : ByteArray) (X G : Nat → ByteArray) (w : World) (h1 : 0 ≤ xM) (h2 : 0 ≤ xm) (h3 : 0 ≤ xp) (h4 : 0 ≤ tM) (h5 : tM < 18446744073709551615) (hxN : xN ≤ 65536) :
    Calls Try.prog 11 #[part tM tm tp ta tN tc tb 1 tw, ver xM xm xp xa xN xc xb] w (Tell w (decide (cmpM xM xm xp xN X (tM + 1) 0 0 0 G < 0))) := by
  by_cases k1 : xM < tM
  · have s1 := sgn_lt k1
    have HR : Hid (true = decide (cmpM xM xm xp xN X (tM + 1) 0 0 0 G < 0)) := (decide_eq_true (by rw [cmp_none_lt]; omega)).symm
    clear k1
    go_enter Try.func11, Try.ntmps11
    go_wp2_with (go_at_call 15; refine (signU_any _ _ _).mono ?_; rintro e w' ⟨rfl, rfl⟩)
    go_ret
    exact ⟨ret_bool HR.out, below2 _ _ _⟩
  · by_cases k2 : xM = tM
    · have s1 := sgn_eq k2
      have HR : Hid (true = decide (cmpM xM xm xp xN X (tM + 1) 0 0 0 G < 0)) := (decide_eq_true (by rw [cmp_none_lt]; omega)).symm
      clear k1 k2
      go_enter Try.func11, Try.ntmps11
      go_wp2_with (go_at_call 15; refine (signU_any _ _ _).mono ?_; rintro e w' ⟨rfl, rfl⟩)
      go_ret
      exact ⟨ret_bool HR.out, below2 _ _ _⟩
    · have s1 := sgn_gt (show tM < xM by omega)
      by_cases k3 : xN = 0
      · have hz : ((xN : Int) == 0) = true := beq_iff_eq.2 (by omega)
        have HR : Hid (false = decide (cmpM xM xm xp xN X (tM + 1) 0 0 0 G < 0)) := (decide_eq_false (by rw [cmp_none_lt]; omega)).symm
        clear k1 k2 k3
        go_enter Try.func11, Try.ntmps11
        go_wp2_with (go_at_call 15; refine (signU_any _ _ _).mono ?_; rintro e w' ⟨rfl, rfl⟩)
        go_ret
        exact ⟨ret_bool HR.out, below2 _ _ _⟩
      · have hz : ((xN : Int) == 0) = false := beq_eq_false_iff_ne.2 (by omega)
        by_cases k4 : xM = tM + 1
        · have e1 : (xM == tM + 1) = true := beq_iff_eq.2 k4
          by_cases k5 : xm = 0
          · have e2 : (xm == 0) = true := beq_iff_eq.2 k5
            by_cases k6 : xp = 0
            · have e3 : (xp == 0) = true := beq_iff_eq.2 k6
              have HR : Hid (true = decide (cmpM xM xm xp xN X (tM + 1) 0 0 0 G < 0)) := (decide_eq_true (by rw [cmp_none_lt]; omega)).symm
              clear k1 k2 k3 k4 k5 k6
              go_enter Try.func11, Try.ntmps11
              go_wp2_with (go_at_call 15; refine (signU_any _ _ _).mono ?_; rintro e w' ⟨rfl, rfl⟩)
              go_ret
              exact ⟨ret_bool HR.out, below2 _ _ _⟩
            · have e3 : (xp == 0) = false := beq_eq_false_iff_ne.2 k6
              have HR : Hid (false = decide (cmpM xM xm xp xN X (tM + 1) 0 0 0 G < 0)) := (decide_eq_false (by rw [cmp_none_lt]; omega)).symm
              clear k1 k2 k3 k4 k5 k6
              go_enter Try.func11, Try.ntmps11
              go_wp2_with (go_at_call 15; refine (signU_any _ _ _).mono ?_; rintro e w' ⟨rfl, rfl⟩)
              go_ret
              exact ⟨ret_bool HR.out, below2 _ _ _⟩
          · have e2 : (xm == 0) = false := beq_eq_false_iff_ne.2 k5
            have HR : Hid (false = decide (cmpM xM xm xp xN X (tM + 1) 0 0 0 G < 0)) := (decide_eq_false (by rw [cmp_none_lt]; omega)).symm
            clear k1 k2 k3 k4 k5
            go_enter Try.func11, Try.ntmps11
            go_wp2_with (go_at_call 15; refine (signU_any _ _ _).mono ?_; rintro e w' ⟨rfl, rfl⟩)
            go_ret
            exact ⟨ret_bool HR.out, below2 _ _ _⟩
        · have e1 : (xM == tM + 1) = false := beq_eq_false_iff_ne.2 k4
          have HR : Hid (false = decide (cmpM xM xm xp xN X (tM + 1) 0 0 0 G < 0)) := (decide_eq_false (by rw [cmp_none_lt]; omega)).symm
          clear k1 k2 k3 k4
          go_enter Try.func11, Try.ntmps11
          go_wp2_with (go_at_call 15; refine (signU_any _ _ _).mono ?_; rintro e w' ⟨rfl, rfl⟩)
          go_ret
          exact ⟨ret_bool HR.out, below2 _ _ _⟩

set_option maxHeartbeats 4000000 in
set_option maxRecDepth 100000 in
theorem top_two (tM tm tp : Int) (ta : Option Addr) (tN tc : Nat) (tb : ByteArray) (tw : Bool) (xM xm xp : Int) (xa : Option Addr) (xN xc : Nat) (xb : ByteArray) (X G : Nat → ByteArray) (w : World) (h1 : 0 ≤ xM) (h2 : 0 ≤ xm) (h3 : 0 ≤ xp) (h4 : 0 ≤ tm) (h5 : tm < 18446744073709551615) (hxN : xN ≤ 65536) :
    Calls Try.prog 11 #[part tM tm tp ta tN tc tb 2 tw, ver xM xm xp xa xN xc xb] w (Tell w (decide (cmpM xM xm xp xN X tM (tm + 1) 0 0 G < 0))) := by
  by_cases k1 : xM < tM
  · have s1 := sgn_lt k1
    have HR : Hid (true = decide (cmpM xM xm xp xN X tM (tm + 1) 0 0 G < 0)) := (decide_eq_true (by rw [cmp_none_lt]; omega)).symm
    clear k1
    go_enter Try.func11, Try.ntmps11
    go_wp2_with (go_at_call 15; refine (signU_any _ _ _).mono ?_; rintro e w' ⟨rfl, rfl⟩)
    go_ret
    exact ⟨ret_bool HR.out, below2 _ _ _⟩
  · by_cases k2 : xM = tM
    · have s1 := sgn_eq k2
      have e1 : (xM == tM) = true := beq_iff_eq.2 k2
      by_cases k3 : xm < tm
      · have s2 := sgn_lt k3
        have HR : Hid (true = decide (cmpM xM xm xp xN X tM (tm + 1) 0 0 G < 0)) := (decide_eq_true (by rw [cmp_none_lt]; omega)).symm
        clear k1 k2 k3
        go_enter Try.func11, Try.ntmps11
        go_wp2_with (go_at_call 15; refine (signU_any _ _ _).mono ?_; rintro e w' ⟨rfl, rfl⟩)
        go_ret
        exact ⟨ret_bool HR.out, below2 _ _ _⟩
      · by_cases k4 : xm = tm
        · have s2 := sgn_eq k4
          have HR : Hid (true = decide (cmpM xM xm xp xN X tM (tm + 1) 0 0 G < 0)) := (decide_eq_true (by rw [cmp_none_lt]; omega)).symm
          clear k1 k2 k3 k4
          go_enter Try.func11, Try.ntmps11
          go_wp2_with (go_at_call 15; refine (signU_any _ _ _).mono ?_; rintro e w' ⟨rfl, rfl⟩)
          go_ret
          exact ⟨ret_bool HR.out, below2 _ _ _⟩
        · have s2 := sgn_gt (show tm < xm by omega)
          by_cases k5 : xN = 0
          · have hz : ((xN : Int) == 0) = true := beq_iff_eq.2 (by omega)
            have HR : Hid (false = decide (cmpM xM xm xp xN X tM (tm + 1) 0 0 G < 0)) := (decide_eq_false (by rw [cmp_none_lt]; omega)).symm
            clear k1 k2 k3 k4 k5
            go_enter Try.func11, Try.ntmps11
            go_wp2_with (go_at_call 15; refine (signU_any _ _ _).mono ?_; rintro e w' ⟨rfl, rfl⟩)
            go_ret
            exact ⟨ret_bool HR.out, below2 _ _ _⟩
          · have hz : ((xN : Int) == 0) = false := beq_eq_false_iff_ne.2 (by omega)
            by_cases k6 : xm = tm + 1
            · have e2 : (xm == tm + 1) = true := beq_iff_eq.2 k6
              by_cases k7 : xp = 0
              · have e3 : (xp == 0) = true := beq_iff_eq.2 k7
                have HR : Hid (true = decide (cmpM xM xm xp xN X tM (tm + 1) 0 0 G < 0)) := (decide_eq_true (by rw [cmp_none_lt]; omega)).symm
                clear k1 k2 k3 k4 k5 k6 k7
                go_enter Try.func11, Try.ntmps11
                go_wp2_with (go_at_call 15; refine (signU_any _ _ _).mono ?_; rintro e w' ⟨rfl, rfl⟩)
                go_ret
                exact ⟨ret_bool HR.out, below2 _ _ _⟩
              · have e3 : (xp == 0) = false := beq_eq_false_iff_ne.2 k7
                have HR : Hid (false = decide (cmpM xM xm xp xN X tM (tm + 1) 0 0 G < 0)) := (decide_eq_false (by rw [cmp_none_lt]; omega)).symm
                clear k1 k2 k3 k4 k5 k6 k7
                go_enter Try.func11, Try.ntmps11
                go_wp2_with (go_at_call 15; refine (signU_any _ _ _).mono ?_; rintro e w' ⟨rfl, rfl⟩)
                go_ret
                exact ⟨ret_bool HR.out, below2 _ _ _⟩
            · have e2 : (xm == tm + 1) = false := beq_eq_false_iff_ne.2 k6
              have HR : Hid (false = decide (cmpM xM xm xp xN X tM (tm + 1) 0 0 G < 0)) := (decide_eq_false (by rw [cmp_none_lt]; omega)).symm
              clear k1 k2 k3 k4 k5 k6
              go_enter Try.func11, Try.ntmps11
              go_wp2_with (go_at_call 15; refine (signU_any _ _ _).mono ?_; rintro e w' ⟨rfl, rfl⟩)
              go_ret
              exact ⟨ret_bool HR.out, below2 _ _ _⟩
    · have s1 := sgn_gt (show tM < xM by omega)
      by_cases k8 : xN = 0
      · have hz : ((xN : Int) == 0) = true := beq_iff_eq.2 (by omega)
        have HR : Hid (false = decide (cmpM xM xm xp xN X tM (tm + 1) 0 0 G < 0)) := (decide_eq_false (by rw [cmp_none_lt]; omega)).symm
        clear k1 k2 k8
        go_enter Try.func11, Try.ntmps11
        go_wp2_with (go_at_call 15; refine (signU_any _ _ _).mono ?_; rintro e w' ⟨rfl, rfl⟩)
        go_ret
        exact ⟨ret_bool HR.out, below2 _ _ _⟩
      · have hz : ((xN : Int) == 0) = false := beq_eq_false_iff_ne.2 (by omega)
        have e1 : (xM == tM) = false := beq_eq_false_iff_ne.2 (by omega)
        have HR : Hid (false = decide (cmpM xM xm xp xN X tM (tm + 1) 0 0 G < 0)) := (decide_eq_false (by rw [cmp_none_lt]; omega)).symm
        clear k1 k2 k8
        go_enter Try.func11, Try.ntmps11
        go_wp2_with (go_at_call 15; refine (signU_any _ _ _).mono ?_; rintro e w' ⟨rfl, rfl⟩)
        go_ret
        exact ⟨ret_bool HR.out, below2 _ _ _⟩

set_option maxHeartbeats 4000000 in
set_option maxRecDepth 100000 in
theorem top_more (tM tm tp : Int) (ta : Option Addr) (tN tc : Nat) (tb : ByteArray) (tn : Int) (tw : Bool) (xM xm xp : Int) (xa : Option Addr) (xN xc : Nat) (xb : ByteArray) (X G : Nat → ByteArray) (w : World) (h1 : 0 ≤ xM) (h2 : 0 ≤ xm) (h3 : 0 ≤ xp) (h4 : 0 ≤ tp) (h5 : tp < 18446744073709551615) (h6 : 4 ≤ tn) (hxN : xN ≤ 65536) :
    Calls Try.prog 11 #[part tM tm tp ta tN tc tb tn tw, ver xM xm xp xa xN xc xb] w (Tell w (decide (cmpM xM xm xp xN X tM tm (tp + 1) 0 G < 0))) := by
  have t3 : (tn == 3) = false := beq_eq_false_iff_ne.2 (by omega)
  by_cases k1 : xM < tM
  · have s1 := sgn_lt k1
    have HR : Hid (true = decide (cmpM xM xm xp xN X tM tm (tp + 1) 0 G < 0)) := (decide_eq_true (by rw [cmp_none_lt]; omega)).symm
    clear k1
    go_enter Try.func11, Try.ntmps11
    go_wp2_with (go_at_call 15; refine (signU_any _ _ _).mono ?_; rintro e w' ⟨rfl, rfl⟩)
    go_ret
    exact ⟨ret_bool HR.out, below2 _ _ _⟩
  · by_cases k2 : xM = tM
    · have s1 := sgn_eq k2
      have e1 : (xM == tM) = true := beq_iff_eq.2 k2
      by_cases k3 : xm < tm
      · have s2 := sgn_lt k3
        have HR : Hid (true = decide (cmpM xM xm xp xN X tM tm (tp + 1) 0 G < 0)) := (decide_eq_true (by rw [cmp_none_lt]; omega)).symm
        clear k1 k2 k3
        go_enter Try.func11, Try.ntmps11
        go_wp2_with (go_at_call 15; refine (signU_any _ _ _).mono ?_; rintro e w' ⟨rfl, rfl⟩)
        go_ret
        exact ⟨ret_bool HR.out, below2 _ _ _⟩
      · by_cases k4 : xm = tm
        · have s2 := sgn_eq k4
          have e2 : (xm == tm) = true := beq_iff_eq.2 k4
          by_cases k5 : xp < tp
          · have s3 := sgn_lt k5
            have HR : Hid (true = decide (cmpM xM xm xp xN X tM tm (tp + 1) 0 G < 0)) := (decide_eq_true (by rw [cmp_none_lt]; omega)).symm
            clear k1 k2 k3 k4 k5
            go_enter Try.func11, Try.ntmps11
            go_wp2_with (go_at_call 15; refine (signU_any _ _ _).mono ?_; rintro e w' ⟨rfl, rfl⟩)
            go_ret
            exact ⟨ret_bool HR.out, below2 _ _ _⟩
          · by_cases k6 : xp = tp
            · have s3 := sgn_eq k6
              have HR : Hid (true = decide (cmpM xM xm xp xN X tM tm (tp + 1) 0 G < 0)) := (decide_eq_true (by rw [cmp_none_lt]; omega)).symm
              clear k1 k2 k3 k4 k5 k6
              go_enter Try.func11, Try.ntmps11
              go_wp2_with (go_at_call 15; refine (signU_any _ _ _).mono ?_; rintro e w' ⟨rfl, rfl⟩)
              go_ret
              exact ⟨ret_bool HR.out, below2 _ _ _⟩
            · have s3 := sgn_gt (show tp < xp by omega)
              by_cases k7 : xN = 0
              · have hz : ((xN : Int) == 0) = true := beq_iff_eq.2 (by omega)
                have HR : Hid (false = decide (cmpM xM xm xp xN X tM tm (tp + 1) 0 G < 0)) := (decide_eq_false (by rw [cmp_none_lt]; omega)).symm
                clear k1 k2 k3 k4 k5 k6 k7
                go_enter Try.func11, Try.ntmps11
                go_wp2_with (go_at_call 15; refine (signU_any _ _ _).mono ?_; rintro e w' ⟨rfl, rfl⟩)
                go_ret
                exact ⟨ret_bool HR.out, below2 _ _ _⟩
              · have hz : ((xN : Int) == 0) = false := beq_eq_false_iff_ne.2 (by omega)
                by_cases k8 : xp = tp + 1
                · have e3 : (xp == tp + 1) = true := beq_iff_eq.2 k8
                  have HR : Hid (true = decide (cmpM xM xm xp xN X tM tm (tp + 1) 0 G < 0)) := (decide_eq_true (by rw [cmp_none_lt]; omega)).symm
                  clear k1 k2 k3 k4 k5 k6 k7 k8
                  go_enter Try.func11, Try.ntmps11
                  go_wp2_with (go_at_call 15; refine (signU_any _ _ _).mono ?_; rintro e w' ⟨rfl, rfl⟩)
                  go_ret
                  exact ⟨ret_bool HR.out, below2 _ _ _⟩
                · have e3 : (xp == tp + 1) = false := beq_eq_false_iff_ne.2 k8
                  have HR : Hid (false = decide (cmpM xM xm xp xN X tM tm (tp + 1) 0 G < 0)) := (decide_eq_false (by rw [cmp_none_lt]; omega)).symm
                  clear k1 k2 k3 k4 k5 k6 k7 k8
                  go_enter Try.func11, Try.ntmps11
                  go_wp2_with (go_at_call 15; refine (signU_any _ _ _).mono ?_; rintro e w' ⟨rfl, rfl⟩)
                  go_ret
                  exact ⟨ret_bool HR.out, below2 _ _ _⟩
        · have s2 := sgn_gt (show tm < xm by omega)
          by_cases k9 : xN = 0
          · have hz : ((xN : Int) == 0) = true := beq_iff_eq.2 (by omega)
            have HR : Hid (false = decide (cmpM xM xm xp xN X tM tm (tp + 1) 0 G < 0)) := (decide_eq_false (by rw [cmp_none_lt]; omega)).symm
            clear k1 k2 k3 k4 k9
            go_enter Try.func11, Try.ntmps11
            go_wp2_with (go_at_call 15; refine (signU_any _ _ _).mono ?_; rintro e w' ⟨rfl, rfl⟩)
            go_ret
            exact ⟨ret_bool HR.out, below2 _ _ _⟩
          · have hz : ((xN : Int) == 0) = false := beq_eq_false_iff_ne.2 (by omega)
            have e2 : (xm == tm) = false := beq_eq_false_iff_ne.2 (by omega)
            have HR : Hid (false = decide (cmpM xM xm xp xN X tM tm (tp + 1) 0 G < 0)) := (decide_eq_false (by rw [cmp_none_lt]; omega)).symm
            clear k1 k2 k3 k4 k9
            go_enter Try.func11, Try.ntmps11
            go_wp2_with (go_at_call 15; refine (signU_any _ _ _).mono ?_; rintro e w' ⟨rfl, rfl⟩)
            go_ret
            exact ⟨ret_bool HR.out, below2 _ _ _⟩
    · have s1 := sgn_gt (show tM < xM by omega)
      by_cases k10 : xN = 0
      · have hz : ((xN : Int) == 0) = true := beq_iff_eq.2 (by omega)
        have HR : Hid (false = decide (cmpM xM xm xp xN X tM tm (tp + 1) 0 G < 0)) := (decide_eq_false (by rw [cmp_none_lt]; omega)).symm
        clear k1 k2 k10
        go_enter Try.func11, Try.ntmps11
        go_wp2_with (go_at_call 15; refine (signU_any _ _ _).mono ?_; rintro e w' ⟨rfl, rfl⟩)
        go_ret
        exact ⟨ret_bool HR.out, below2 _ _ _⟩
      · have hz : ((xN : Int) == 0) = false := beq_eq_false_iff_ne.2 (by omega)
        have e1 : (xM == tM) = false := beq_eq_false_iff_ne.2 (by omega)
        have HR : Hid (false = decide (cmpM xM xm xp xN X tM tm (tp + 1) 0 G < 0)) := (decide_eq_false (by rw [cmp_none_lt]; omega)).symm
        clear k1 k2 k10
        go_enter Try.func11, Try.ntmps11
        go_wp2_with (go_at_call 15; refine (signU_any _ _ _).mono ?_; rintro e w' ⟨rfl, rfl⟩)
        go_ret
        exact ⟨ret_bool HR.out, below2 _ _ _⟩

end Go.Proofs.Qxb6602610a
