/-
  Contracts of the model's functions: zzSignInt, zzSignU, zzBytesCmp, zzAllDigits, zzSkipZeros, zzFitsU64, zzNumCmp, zzIdentModel.
-/
import Derived.Test.Qxb6602610aDoorChecked
import Derived.Test.Qxb6602610aDoorPlain
import Derived.WalkKit
import Derived.WalkSpells
import Derived.Below
import Derived.Lib.Strings
import Derived.Lib.IndexBytes
import Derived.Deep.QuietTactic
import Derived.BigQuiet
namespace Go.Proofs.Qxb6602610aDoor
open Go.RowKit Plain

theorem hide {p : Prop} (h : p) : Hid p := h
theorem ret_int {k : IntKind} {a b : Int} (h : a = b) : Ending.returned (.int k a) = .returned (.int k b) := by rw [h]
theorem ret_bool {a b : Bool} (h : a = b) : Ending.returned (.bool a) = .returned (.bool b) := by rw [h]
theorem ret_str {a b : ByteArray} (h : a = b) : Ending.returned (.string a) = .returned (.string b) := by rw [h]

/-- It hands back v; the world has but drawn. -/
def Gives (v : Value) (w : World) : Ending → World → Prop := fun e w' => e = .returned v ∧ ∃ q, w' = w.drewN q

theorem Gives.same (v : Value) (w : World) : Gives v w (.returned v) w := ⟨rfl, 0, rfl⟩
theorem Gives.drew (v : Value) (w : World) (q : Nat) : Gives v w (.returned v) (w.drewN q) := ⟨rfl, q, rfl⟩

theorem Gives.later {v v' : Value} {w wr : World} {q : Nat} (hv : Ending.returned v' = .returned v) (h : wr = w.drewN q) (m : Nat) : Gives v w (.returned v') (wr.drewN m) :=
  ⟨hv, q + m, by rw [h]; exact World.drewN_drewN _ _ _⟩

theorem Gives.later2 {v v' : Value} {w wr : World} {q : Nat} (hv : Ending.returned v' = .returned v) (h : wr = w.drewN q) (m n : Nat) : Gives v w (.returned v') ((wr.drewN m).drewN n) := by
  rw [World.drewN_drewN]; exact Gives.later hv h _

theorem signInt_any (a b : Int) (w : World) : Calls Tryd.prog 31 #[.int .i64 a, .int .i64 b] w fun e w' => e = .returned (.int .i64 (sgn a b)) ∧ w' = w := by
  rcases sgn_cases a b with ⟨h, e⟩ | ⟨h, e⟩ | ⟨h, e⟩
  all_goals
    rw [e]
    clear e
    go_enter Tryd.func31, Tryd.ntmps31
    go_wp2
    go_ret
    exact ⟨rfl, rfl⟩

theorem signU_any (a b : Int) (w : World) : Calls Tryd.prog 22 #[.int .u64 a, .int .u64 b] w fun e w' => e = .returned (.int .i64 (sgn a b)) ∧ w' = w := by
  rcases sgn_cases a b with ⟨h, e⟩ | ⟨h, e⟩ | ⟨h, e⟩
  all_goals
    rw [e]
    clear e
    go_enter Tryd.func22, Tryd.ntmps22
    go_wp2
    go_ret
    exact ⟨rfl, rfl⟩

theorem ne_gt {x y : Nat} (h : ((x : Int) != (y : Int)) = true) (h2 : ¬ x < y) : (y : Int) < (x : Int) := by
  have : (x : Int) ≠ (y : Int) := by simpa using h
  omega

set_option maxHeartbeats 1000000 in
theorem bytesCmp_any (a b : ByteArray) (w : World) (ha : a.size ≤ maxLen) (hb : b.size ≤ maxLen) : Calls Tryd.prog 27 #[.string a, .string b] w (Gives (.int .i64 (cmpB a b)) w) := by
  unfold maxLen at ha hb
  by_cases hlt : b.size < a.size
  · have hle : b.size ≤ a.size := by omega
    go_enter Tryd.func27, Tryd.ntmps27
    go_wp2
    go_loopw [6] (fun i wr => ∃ (k q : Nat), k ≤ b.size ∧ i = .int .i64 k ∧ Hid (Lib.compareBytes ((bs a).drop k) ((bs b).drop k) = cmpB a b) ∧ Hid (wr = w.drewN q)) (fun i _ => b.size - (intOf i).toNat)
    case atStart => exact ⟨0, 0, Nat.zero_le _, rfl, rfl, rfl⟩
    case round =>
      obtain ⟨k, q, hk, rfl, HC, HW⟩ := hrel
      by_cases hkn : k < b.size
      · have hka : (k : Int) < (a.size : Int) := by omega
        have hkb : (k : Int) < (b.size : Int) := by omega
        have ka : k < a.size := by omega
        have kb : k < b.size := by omega
        go_wp2
        go_quiet (fail)
        go_wp2
        · go_quiet (fail)
          go_wp2
          · have HR := hide ((cmp_lt ka kb (Int.ofNat_lt.2 (by assumption))).symm.trans HC.out)
            go_ret
            exact Gives.later2 (ret_int HR.out) HW.out _ _
          · have HR := hide ((cmp_gt ka kb (ne_gt (by assumption) (by assumption))).symm.trans HC.out)
            go_ret
            exact Gives.later2 (ret_int HR.out) HW.out _ _
        · have HR := hide ((cmp_eq ka kb (by assumption)).symm.trans HC.out)
          go_roundw
          case rel => exact ⟨k + 1, q + nq, by omega, by go_num, HR, by show _ = _; rw [HW.out]; exact World.drewN_drewN _ _ _⟩
          case measure => simp [intOf]; omega
      · have HR := hide ((cmp_end (a := a) (b := b) (k := k) (by omega)).symm.trans HC.out)
        go_wp2_with (go_at_call 31; refine (signInt_any _ _ _).mono ?_; rintro e w' ⟨rfl, rfl⟩)
        go_ret
        exact ⟨ret_int HR.out, q, HW.out⟩
  · have hle : a.size ≤ b.size := by omega
    go_enter Tryd.func27, Tryd.ntmps27
    go_wp2
    go_loopw [6] (fun i wr => ∃ (k q : Nat), k ≤ a.size ∧ i = .int .i64 k ∧ Hid (Lib.compareBytes ((bs a).drop k) ((bs b).drop k) = cmpB a b) ∧ Hid (wr = w.drewN q)) (fun i _ => a.size - (intOf i).toNat)
    case atStart => exact ⟨0, 0, Nat.zero_le _, rfl, rfl, rfl⟩
    case round =>
      obtain ⟨k, q, hk, rfl, HC, HW⟩ := hrel
      by_cases hkn : k < a.size
      · have hka : (k : Int) < (a.size : Int) := by omega
        have hkb : (k : Int) < (b.size : Int) := by omega
        have ka : k < a.size := by omega
        have kb : k < b.size := by omega
        go_wp2
        go_quiet (fail)
        go_wp2
        · go_quiet (fail)
          go_wp2
          · have HR := hide ((cmp_lt ka kb (Int.ofNat_lt.2 (by assumption))).symm.trans HC.out)
            go_ret
            exact Gives.later2 (ret_int HR.out) HW.out _ _
          · have HR := hide ((cmp_gt ka kb (ne_gt (by assumption) (by assumption))).symm.trans HC.out)
            go_ret
            exact Gives.later2 (ret_int HR.out) HW.out _ _
        · have HR := hide ((cmp_eq ka kb (by assumption)).symm.trans HC.out)
          go_roundw
          case rel => exact ⟨k + 1, q + nq, by omega, by go_num, HR, by show _ = _; rw [HW.out]; exact World.drewN_drewN _ _ _⟩
          case measure => simp [intOf]; omega
      · have HR := hide ((cmp_end (a := a) (b := b) (k := k) (by omega)).symm.trans HC.out)
        go_wp2_with (go_at_call 31; refine (signInt_any _ _ _).mono ?_; rintro e w' ⟨rfl, rfl⟩)
        go_ret
        exact ⟨ret_int HR.out, q, HW.out⟩

theorem isEmpty_false {s : ByteArray} (h : ¬ s.size = 0) : (bs s).isEmpty = false := by
  rw [List.isEmpty_eq_false_iff]
  intro e
  have := bs_length s
  rw [e] at this
  exact h this.symm

set_option maxHeartbeats 400000 in
theorem allDigits_any (s : ByteArray) (w : World) (hs : s.size ≤ maxLen) : Calls Tryd.prog 24 #[.string s] w fun e w' => e = .returned (.bool (allDig s)) ∧ w' = w := by
  unfold maxLen at hs
  by_cases h0 : s.size = 0
  · have he : Hid (false = allDig s) := by
      show _ = _
      unfold allDig
      rw [List.isEmpty_iff_length_eq_zero.2 (by rw [bs_length]; exact h0)]
      rfl
    have hz : ((s.size : Int) == 0) = true := by simpa using h0
    clear h0
    go_enter Tryd.func24, Tryd.ntmps24
    go_wp2
    go_ret
    exact ⟨ret_bool he.out, rfl⟩
  · have he : Hid (((bs s).drop 0).all dig = allDig s) := by
      show _ = _
      unfold allDig
      rw [isEmpty_false h0]; simp
    have hz : ((s.size : Int) == 0) = false := by simpa using h0
    clear h0
    go_enter Tryd.func24, Tryd.ntmps24
    go_wp2
    go_loop [3] (fun i => ∃ k : Nat, k ≤ s.size ∧ i = .int .i64 k ∧ Hid (((bs s).drop k).all dig = allDig s)) (fun i => s.size - (intOf i).toNat)
    case atStart => exact ⟨0, Nat.zero_le _, rfl, he⟩
    case round =>
      obtain ⟨k, hk, rfl, HA⟩ := hrel
      clear he
      by_cases hlt : k < s.size
      · have hkz : (k : Int) < (s.size : Int) := by omega
        by_cases h1 : ((s[k]'hlt).toNat : Int) < 48
        · have HR := hide ((all_stop hlt (.inl h1)).symm.trans HA.out)
          go_wp2
          go_ret
          exact ⟨ret_bool HR.out, rfl⟩
        · by_cases h2 : 57 < ((s[k]'hlt).toNat : Int)
          · have HR := hide ((all_stop hlt (.inr h2)).symm.trans HA.out)
            go_wp2
            go_ret
            exact ⟨ret_bool HR.out, rfl⟩
          · have HR := hide ((all_step hlt (by omega) (by omega)).symm.trans HA.out)
            go_wp2
            go_round
            case rel => exact ⟨k + 1, by omega, by go_num, HR⟩
            case measure => simp [intOf]; omega
      · have HR : Hid (true = allDig s) := by
          show _ = _
          rw [← HA.out, List.drop_of_length_le (by rw [bs_length]; omega)]; rfl
        go_wp2
        go_ret
        exact ⟨ret_bool HR.out, rfl⟩

set_option maxHeartbeats 400000 in
theorem skipZeros_any (s : ByteArray) (w : World) (hs : s.size ≤ maxLen) : Calls Tryd.prog 32 #[.string s] w fun e w' => e = .returned (.string (skipZ s)) ∧ w' = w := by
  unfold maxLen at hs
  go_enter Tryd.func32, Tryd.ntmps32
  go_wp2
  go_loop [3] (fun i => ∃ k : Nat, k ≤ s.size ∧ i = .int .i64 k ∧ Hid (((bs s).drop k).dropWhile (· == 48) = (bs s).dropWhile (· == 48))) (fun i => s.size - (intOf i).toNat)
  case atStart => exact ⟨0, Nat.zero_le _, rfl, rfl⟩
  case round =>
    obtain ⟨k, hk, rfl, HA⟩ := hrel
    have hex : bs (s.extract k s.size) = (bs s).drop k := Lib.extract_to_end s k
    have HX := hide hex
    clear hex
    by_cases hlt : k < s.size
    · have hkz : (k : Int) < (s.size : Int) := by omega
      cases h1 : (((s[k]'hlt).toNat : Int) == 48)
      · have HR := hide (skipZ_of (HX.out.trans ((zero_stop hlt h1).symm.trans HA.out)))
        go_wp2
        go_ret
        exact ⟨ret_str HR.out, rfl⟩
      · have HR := hide ((zero_step hlt h1).symm.trans HA.out)
        go_wp2
        go_round
        case rel => exact ⟨k + 1, by omega, by go_num, HR⟩
        case measure => simp [intOf]; omega
    · have hkz : decide (k < s.size) = false := decide_eq_false hlt
      have HR : Hid (s.extract k s.size = skipZ s) := skipZ_of (by
        rw [HX.out, ← HA.out, List.drop_of_length_le (by rw [bs_length]; omega)]; rfl)
      clear hlt
      go_wp2
      go_ret
      exact ⟨ret_str HR.out, rfl⟩

theorem skipZ_max {s : ByteArray} (hs : s.size ≤ maxLen) : (skipZ s).size ≤ maxLen := Nat.le_trans (skipZ_le s) hs

set_option maxHeartbeats 400000 in
theorem fits_any (s : ByteArray) (w : World) (hs : s.size ≤ maxLen) : Calls Tryd.prog 25 #[.string s] w (Gives (.bool (fits s)) w) := by
  have ht := skipZ_max hs
  have ht' := ht
  unfold maxLen at ht'
  obtain ⟨t, hst⟩ : ∃ t, skipZ s = t := ⟨_, rfl⟩
  have HF : Hid (fits s = if t.size < 20 then true else if 20 < t.size then false else decide (cmpB t top ≤ 0)) := by
    show _ = _
    unfold fits; rw [hst]
  have hsz := fun w => skipZeros_any s w hs
  rw [hst] at ht ht' hsz
  have HS := hide hsz
  have HB := hide (fun w => bytesCmp_any t top w ht (by unfold maxLen; decide))
  clear hst hsz
  by_cases h1 : t.size < 20
  · have hi : (t.size : Int) < 20 := by omega
    go_enter Tryd.func25, Tryd.ntmps25
    go_wp2_with (go_at_call 32; refine (HS.out _).mono ?_; rintro e w' ⟨rfl, rfl⟩)
    go_ret
    exact ⟨ret_bool (by rw [HF.out, if_pos h1]), 0, rfl⟩
  · by_cases h2 : 20 < t.size
    · have hi : ¬ (t.size : Int) < 20 := by omega
      have hi2 : (20 : Int) < (t.size : Int) := by omega
      go_enter Tryd.func25, Tryd.ntmps25
      go_wp2_with (go_at_call 32; refine (HS.out _).mono ?_; rintro e w' ⟨rfl, rfl⟩)
      go_ret
      exact ⟨ret_bool (by rw [HF.out, if_neg h1, if_pos h2]), 0, rfl⟩
    · have hi : ¬ (t.size : Int) < 20 := by omega
      have hi2 : ¬ (20 : Int) < (t.size : Int) := by omega
      go_enter Tryd.func25, Tryd.ntmps25
      go_wp2_with (first | (go_at_call 32; refine (HS.out _).mono ?_; rintro e w' ⟨rfl, rfl⟩) | (go_at_call 27; refine (HB.out _).mono ?_; rintro e w' ⟨rfl, q, rfl⟩))
      go_ret
      exact ⟨ret_bool (by rw [HF.out, if_neg h1, if_neg h2]), q, rfl⟩

set_option maxHeartbeats 400000 in
theorem numCmp_any (a b : ByteArray) (w : World) (ha : a.size ≤ maxLen) (hb : b.size ≤ maxLen) : Calls Tryd.prog 26 #[.string a, .string b] w (Gives (.int .i64 (numCmp a b)) w) := by
  have hta := skipZ_max ha
  have htb := skipZ_max hb
  have HSa := hide (fun w => skipZeros_any a w ha)
  have HSb := hide (fun w => skipZeros_any b w hb)
  have HC := hide (fun w => bytesCmp_any (skipZ a) (skipZ b) w hta htb)
  unfold maxLen at hta htb
  obtain ⟨s, hs⟩ : ∃ s, skipZ a = s := ⟨_, rfl⟩
  obtain ⟨t, ht⟩ : ∃ t, skipZ b = t := ⟨_, rfl⟩
  have HF : Hid (numCmp a b = if s.size = t.size then cmpB s t else sgn (s.size : Int) (t.size : Int)) := by
    show _ = _
    unfold numCmp; rw [hs, ht]
  rw [hs] at hta HSa HC
  rw [ht] at htb HSb HC
  clear hs ht
  by_cases h : s.size = t.size
  · have hq : ((s.size : Int) != (t.size : Int)) = false := by simp [h]
    have HH := hide h
    clear h
    go_enter Tryd.func26, Tryd.ntmps26
    go_wp2_with fail
    refine (HSa.out _).mono ?_
    rintro e w' ⟨rfl, rfl⟩
    go_wp2_with fail
    refine (HSb.out _).mono ?_
    rintro e w' ⟨rfl, rfl⟩
    go_wp2_with (go_at_call 27; refine (HC.out _).mono ?_; rintro e w' ⟨rfl, q, rfl⟩)
    go_ret
    exact ⟨ret_int (by rw [HF.out, if_pos HH.out]), q, rfl⟩
  · have hq : ((s.size : Int) != (t.size : Int)) = true := by simp; omega
    have HH := hide h
    clear h
    go_enter Tryd.func26, Tryd.ntmps26
    go_wp2_with fail
    refine (HSa.out _).mono ?_
    rintro e w' ⟨rfl, rfl⟩
    go_wp2_with fail
    refine (HSb.out _).mono ?_
    rintro e w' ⟨rfl, rfl⟩
    go_wp2_with (go_at_call 31; refine (signInt_any _ _ _).mono ?_; rintro e w' ⟨rfl, rfl⟩)
    go_ret
    exact ⟨ret_int (by rw [HF.out, if_neg HH.out]), 0, rfl⟩

end Go.Proofs.Qxb6602610aDoor
