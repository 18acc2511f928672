/-
  What a string of digits is worth; that strconv.ParseUint(s, 10, 64)'s answer is the model's: the same strings are numbers, and their order is the order of what they are worth. No Go text in sight.
-/
import Derived.Test.Qxb6602610aDoorPlain
import Derived.Lib.ParseIntB
namespace Go.Proofs.Qxb6602610aDoor.Plain
open Go

def val : List UInt8 → Nat
  | [] => 0
  | c :: r => (c.toNat - 48) * 10 ^ r.length + val r

theorem dig_nat {c : UInt8} (h : dig c = true) : 48 ≤ c.toNat ∧ c.toNat ≤ 57 := by
  have := (dig_iff c).1 h; omega

theorem pow_pos10 (n : Nat) : 0 < 10 ^ n := Nat.pow_pos (by omega)

theorem val_lt : ∀ l : List UInt8, l.all dig = true → val l < 10 ^ l.length
  | [], _ => by simp [val]
  | c :: r, h => by
    simp only [List.all_cons, Bool.and_eq_true] at h
    have h1 := val_lt r h.2
    have h2 := dig_nat h.1
    simp only [val, List.length_cons, Nat.pow_succ]
    have h3 : (c.toNat - 48) * 10 ^ r.length ≤ 9 * 10 ^ r.length := Nat.mul_le_mul_right _ (by omega)
    omega

theorem val_ge {c : UInt8} {r : List UInt8} (h1 : 49 ≤ c.toNat) : 10 ^ r.length ≤ val (c :: r) := by
  simp only [val]
  have h3 : 1 * 10 ^ r.length ≤ (c.toNat - 48) * 10 ^ r.length := Nat.mul_le_mul_right _ (by omega)
  omega

theorem sgn_add (k a b : Int) : sgn (k + a) (k + b) = sgn a b := by
  unfold sgn
  by_cases g1 : a < b
  · rw [if_pos g1, if_pos (by omega)]
  · rw [if_neg g1, if_neg (by omega)]
    by_cases g2 : b < a
    · rw [if_pos g2, if_pos (by omega)]
    · rw [if_neg g2, if_neg (by omega)]

theorem cmp_val : ∀ a b : List UInt8, a.length = b.length → a.all dig = true → b.all dig = true → Lib.compareBytes a b = sgn (val a : Int) (val b : Int)
  | [], [], _, _, _ => by simp [Lib.compareBytes, val, sgn_self]
  | x :: a, y :: b, hl, ha, hb => by
    simp only [List.all_cons, Bool.and_eq_true] at ha hb
    simp only [List.length_cons, Nat.add_right_cancel_iff] at hl
    have ih := cmp_val a b hl ha.2 hb.2
    have la := val_lt a ha.2
    have lb := val_lt b hb.2
    have dx := dig_nat ha.1
    have dy := dig_nat hb.1
    rw [← hl] at lb
    have key : ∀ p q : UInt8, 48 ≤ p.toNat → p.toNat < q.toNat → (p.toNat - 48) * 10 ^ a.length + 10 ^ a.length ≤ (q.toNat - 48) * 10 ^ a.length := fun p q h0 h => by
      have : (p.toNat - 48 + 1) * 10 ^ a.length ≤ (q.toNat - 48) * 10 ^ a.length := Nat.mul_le_mul_right _ (by omega)
      rw [Nat.add_mul, Nat.one_mul] at this
      exact this
    rw [Lib.compareBytes]
    simp only [val, ← hl]
    by_cases h1 : x < y
    · rw [if_pos h1]
      have h1' : x.toNat < y.toNat := UInt8.lt_iff_toNat_lt.1 h1
      have := key x y dx.1 h1'
      unfold sgn
      rw [if_pos (by omega)]
    · rw [if_neg h1]
      have h1' : ¬ x.toNat < y.toNat := fun h => h1 (UInt8.lt_iff_toNat_lt.2 h)
      by_cases h2 : y < x
      · rw [if_pos h2]
        have h2' : y.toNat < x.toNat := UInt8.lt_iff_toNat_lt.1 h2
        have := key y x dy.1 h2'
        unfold sgn
        rw [if_neg (by omega), if_pos (by omega)]
      · rw [if_neg h2, ih]
        have h2' : ¬ y.toNat < x.toNat := fun h => h2 (UInt8.lt_iff_toNat_lt.2 h)
        have e : x.toNat = y.toNat := by omega
        rw [e]
        rw [Int.natCast_add, Int.natCast_add, sgn_add]
  | [], _ :: _, hl, _, _ => by simp at hl
  | _ :: _, [], hl, _, _ => by simp at hl

/-! ### leading zeros -/
theorem val_drop : ∀ l : List UInt8, val (l.dropWhile (· == 48)) = val l
  | [] => rfl
  | c :: r => by
    rw [List.dropWhile_cons]
    by_cases h : (c == 48) = true
    · rw [if_pos h, val_drop r]
      have : c = 48 := by simpa using h
      subst this
      simp [val]
    · rw [if_neg h]

theorem all_drop : ∀ l : List UInt8, l.all dig = true → (l.dropWhile (· == 48)).all dig = true
  | [], _ => rfl
  | c :: r, h => by
    rw [List.dropWhile_cons]
    by_cases hc : (c == 48) = true
    · rw [if_pos hc]
      simp only [List.all_cons, Bool.and_eq_true] at h
      exact all_drop r h.2
    · rw [if_neg hc]; exact h

theorem head_drop : ∀ l : List UInt8, ∀ c r, l.dropWhile (· == 48) = c :: r → c ≠ 48
  | [], c, r, h => by simp at h
  | x :: l, c, r, h => by
    rw [List.dropWhile_cons] at h
    by_cases hc : (x == 48) = true
    · rw [if_pos hc] at h; exact head_drop l c r h
    · rw [if_neg hc] at h
      cases h
      simpa using hc

theorem bs_skipZ (s : ByteArray) : bs (skipZ s) = (bs s).dropWhile (· == 48) := by simp [skipZ, bs]

/-- A numeral without leading zeros: its length tells its worth's size. -/
theorem worth {s : ByteArray} (h : (bs s).all dig = true) : val (bs (skipZ s)) = val (bs s) ∧ (bs (skipZ s)).all dig = true ∧ val (bs s) < 10 ^ (skipZ s).size ∧ ∀ n, (skipZ s).size = n + 1 → 10 ^ n ≤ val (bs s) := by
  have e := val_drop (bs s)
  have a := all_drop (bs s) h
  rw [← bs_skipZ] at e a
  refine ⟨e, a, ?_, fun n hn => ?_⟩
  · have := val_lt _ a
    rw [e, bs_length] at this
    exact this
  · rw [← e]
    rw [← bs_length] at hn
    cases hl : bs (skipZ s) with
    | nil => rw [hl] at hn; simp at hn
    | cons c r =>
      rw [hl] at hn a
      have hr : r.length = n := by simpa using hn
      rw [← hr]
      apply val_ge
      have hc := head_drop (bs s) c r (by rw [← bs_skipZ]; exact hl)
      simp only [List.all_cons, Bool.and_eq_true] at a
      have := dig_nat a.1
      have hne : c.toNat ≠ 48 := fun h => hc (by rw [← UInt8.toNat_inj]; exact h)
      omega

theorem val_top : val (bs top) = 18446744073709551615 := by decide
theorem all_top : (bs top).all dig = true := by decide

theorem sgn_le (a b : Int) : sgn a b ≤ 0 ↔ a ≤ b := by unfold sgn; split <;> (try split) <;> omega

theorem pow_mono {a b : Nat} (h : a ≤ b) : 10 ^ a ≤ 10 ^ b := Nat.pow_le_pow_right (by omega) h

theorem fits_val {s : ByteArray} (h : (bs s).all dig = true) : fits s = decide (val (bs s) ≤ 18446744073709551615) := by
  obtain ⟨e, a, h1, h2⟩ := worth h
  unfold fits
  by_cases k1 : (skipZ s).size < 20
  · rw [if_pos k1]
    have := pow_mono (show (skipZ s).size ≤ 19 by omega)
    have e19 : 10 ^ 19 = 10000000000000000000 := by decide
    exact (decide_eq_true (by omega)).symm
  · rw [if_neg k1]
    by_cases k2 : 20 < (skipZ s).size
    · rw [if_pos k2]
      have := h2 ((skipZ s).size - 1) (by omega)
      have := pow_mono (show 20 ≤ (skipZ s).size - 1 by omega)
      have e20 : 10 ^ 20 = 100000000000000000000 := by decide
      exact (decide_eq_false (by omega)).symm
    · rw [if_neg k2]
      unfold cmpB
      rw [cmp_val _ _ (by rw [bs_length]; show _ = 20; omega) a all_top, val_top, e]
      apply decide_eq_decide.2
      rw [sgn_le]
      omega

theorem numCmp_val {s t : ByteArray} (hs : (bs s).all dig = true) (ht : (bs t).all dig = true) : numCmp s t = sgn (val (bs s) : Int) (val (bs t) : Int) := by
  obtain ⟨e1, a1, l1, g1⟩ := worth hs
  obtain ⟨e2, a2, l2, g2⟩ := worth ht
  unfold numCmp
  by_cases h : (skipZ s).size = (skipZ t).size
  · rw [if_pos h]
    unfold cmpB
    rw [cmp_val _ _ (by rw [bs_length, bs_length]; exact h) a1 a2, e1, e2]
  · rw [if_neg h]
    by_cases h1 : (skipZ s).size < (skipZ t).size
    · have := g2 ((skipZ t).size - 1) (by omega)
      have := pow_mono (show (skipZ s).size ≤ (skipZ t).size - 1 by omega)
      unfold sgn
      rw [if_pos (by omega), if_pos (by omega)]
    · have := g1 ((skipZ s).size - 1) (by omega)
      have := pow_mono (show (skipZ t).size ≤ (skipZ s).size - 1 by omega)
      unfold sgn
      rw [if_neg (by omega), if_pos (by omega), if_neg (by omega), if_pos (by omega)]

/-! ### strconv.ParseUint(s, 10, 64), as the shelf tells it -/
theorem parse_ok : ∀ (l : List UInt8) (acc : Nat), l.all dig = true → acc * 10 ^ l.length + val l ≤ 18446744073709551615 → Lib.parseUintM 18446744073709551615 acc l = .ok (acc * 10 ^ l.length + val l)
  | [], acc, _, _ => by simp [Lib.parseUintM, val]
  | c :: r, acc, h, hle => by
    simp only [List.all_cons, Bool.and_eq_true] at h
    have hd := dig_nat h.1
    have e : (acc * 10 + (c.toNat - 48)) * 10 ^ r.length + val r = acc * 10 ^ (c :: r).length + val (c :: r) := by
      simp only [val, List.length_cons, Nat.pow_succ, Nat.add_mul]
      rw [Nat.mul_comm (10 ^ r.length) 10, ← Nat.mul_assoc, Nat.add_assoc]
    have hp := pow_pos10 r.length
    have h1 : acc * 10 + (c.toNat - 48) ≤ (acc * 10 + (c.toNat - 48)) * 10 ^ r.length := Nat.le_mul_of_pos_right _ hp
    rw [Lib.parseUintM, if_pos hd, if_neg (by omega), if_neg (by omega), parse_ok r _ h.2 (by omega), e]

theorem parse_of : ∀ (l : List UInt8) (acc u : Nat), acc ≤ 18446744073709551615 → Lib.parseUintM 18446744073709551615 acc l = .ok u → l.all dig = true ∧ u = acc * 10 ^ l.length + val l ∧ u ≤ 18446744073709551615
  | [], acc, u, ha, h => by
    simp [Lib.parseUintM] at h
    subst h
    exact ⟨rfl, by simp [val], ha⟩
  | c :: r, acc, u, ha, h => by
    rw [Lib.parseUintM] at h
    by_cases hd : 48 ≤ c.toNat ∧ c.toNat ≤ 57
    · rw [if_pos hd] at h
      by_cases h1 : 1844674407370955162 ≤ acc
      · rw [if_pos h1] at h; cases h
      · rw [if_neg h1] at h
        by_cases h2 : 18446744073709551615 < acc * 10 + (c.toNat - 48)
        · rw [if_pos h2] at h; cases h
        · rw [if_neg h2] at h
          obtain ⟨g1, g2, g3⟩ := parse_of r _ u (by omega) h
          refine ⟨?_, ?_, g3⟩
          · simp only [List.all_cons, Bool.and_eq_true]
            exact ⟨(dig_iff c).2 (by omega), g1⟩
          · rw [g2]
            simp only [val, List.length_cons, Nat.pow_succ, Nat.add_mul]
            rw [Nat.mul_comm (10 ^ r.length) 10, ← Nat.mul_assoc, Nat.add_assoc]
    · rw [if_neg hd] at h; cases h

theorem isNum_iff (s : ByteArray) : isNum s = true ↔ (bs s ≠ [] ∧ (bs s).all dig = true ∧ val (bs s) ≤ 18446744073709551615) := by
  unfold isNum allDig
  constructor
  · intro h
    simp only [Bool.and_eq_true] at h
    obtain ⟨⟨h1, h2⟩, h3⟩ := h
    rw [fits_val h2] at h3
    exact ⟨fun e => by rw [e] at h1; simp at h1, h2, of_decide_eq_true h3⟩
  · rintro ⟨h1, h2, h3⟩
    simp only [Bool.and_eq_true]
    refine ⟨⟨?_, h2⟩, by rw [fits_val h2]; exact decide_eq_true h3⟩
    cases hl : bs s with
    | nil => exact absurd hl h1
    | cons c r => rfl

theorem pow64 : (2 : Nat) ^ 64 - 1 = 18446744073709551615 := by decide

theorem num_ok {s : ByteArray} {u : Nat} (h : Lib.parseUintB 64 s.data.toList = .ok u) : isNum s = true ∧ u = val (bs s) ∧ (bs s).all dig = true := by
  unfold Lib.parseUintB at h
  rw [pow64] at h
  by_cases e : s.data.toList = []
  · rw [if_pos e] at h; cases h
  · rw [if_neg e] at h
    obtain ⟨g1, g2, g3⟩ := parse_of _ _ _ (by omega) h
    have g2' : u = val (bs s) := by rw [g2]; show 0 * _ + _ = _; rw [Nat.zero_mul, Nat.zero_add]; rfl
    exact ⟨(isNum_iff s).2 ⟨e, g1, by rw [← g2']; exact g3⟩, g2', g1⟩

theorem num_no {s : ByteArray} (h : ∀ u, Lib.parseUintB 64 s.data.toList ≠ .ok u) : isNum s = false := by
  cases hn : isNum s with
  | false => rfl
  | true =>
    obtain ⟨h1, h2, h3⟩ := (isNum_iff s).1 hn
    refine absurd ?_ (h (val (bs s)))
    unfold Lib.parseUintB
    rw [pow64, if_neg (by exact h1)]
    have := parse_ok (bs s) 0 h2 (by omega)
    rw [Nat.zero_mul, Nat.zero_add] at this
    exact this

end Go.Proofs.Qxb6602610aDoor.Plain
