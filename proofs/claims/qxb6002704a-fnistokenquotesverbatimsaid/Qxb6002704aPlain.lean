/-
  Plain mathematics of the canonical length: how many decimal digits a length has, and when one more byte adds a digit. No Go in sight.
-/
namespace Go.Proofs.Qxb6002704a.Plain

/-- How many decimal digits L has, as far as seven. -/
def digs (L : Nat) : Nat :=
  if L < 10 then 1 else if L < 100 then 2 else if L < 1000 then 3 else if L < 10000 then 4 else if L < 100000 then 5 else if L < 1000000 then 6 else 7

theorem digs_le (L : Nat) : 1 ≤ digs L ∧ digs L ≤ 7 := by
  unfold digs
  repeat' split
  all_goals omega

/-- What holds at the head of verbatimLen's loop: d digits counted, n what is left of L. -/
def DigRel (L d n : Nat) : Prop :=
  (d = 1 ∧ n = L) ∨ (d = 2 ∧ n = L / 10 ∧ 10 ≤ L) ∨ (d = 3 ∧ n = L / 100 ∧ 100 ≤ L) ∨ (d = 4 ∧ n = L / 1000 ∧ 1000 ≤ L) ∨
  (d = 5 ∧ n = L / 10000 ∧ 10000 ≤ L) ∨ (d = 6 ∧ n = L / 100000 ∧ 100000 ≤ L) ∨ (d = 7 ∧ n = L / 1000000 ∧ 1000000 ≤ L)

theorem DigRel.start (L : Nat) : DigRel L 1 L := .inl ⟨rfl, rfl⟩

theorem DigRel.step {L d n : Nat} (h : DigRel L d n) (hL : L < 10000000) (hn : 10 ≤ n) : DigRel L (d + 1) (n / 10) := by
  rcases h with ⟨rfl, rfl⟩ | ⟨rfl, rfl, h⟩ | ⟨rfl, rfl, h⟩ | ⟨rfl, rfl, h⟩ | ⟨rfl, rfl, h⟩ | ⟨rfl, rfl, h⟩ | ⟨rfl, rfl, h⟩
  · exact .inr (.inl ⟨rfl, rfl, hn⟩)
  · exact .inr (.inr (.inl ⟨rfl, by omega, by omega⟩))
  · exact .inr (.inr (.inr (.inl ⟨rfl, by omega, by omega⟩)))
  · exact .inr (.inr (.inr (.inr (.inl ⟨rfl, by omega, by omega⟩))))
  · exact .inr (.inr (.inr (.inr (.inr (.inl ⟨rfl, by omega, by omega⟩)))))
  · exact .inr (.inr (.inr (.inr (.inr (.inr ⟨rfl, by omega, by omega⟩)))))
  · omega

theorem DigRel.done {L d n : Nat} (h : DigRel L d n) (hL : L < 10000000) (hn : n < 10) : d = digs L := by
  unfold digs
  rcases h with ⟨rfl, rfl⟩ | ⟨rfl, rfl, h⟩ | ⟨rfl, rfl, h⟩ | ⟨rfl, rfl, h⟩ | ⟨rfl, rfl, h⟩ | ⟨rfl, rfl, h⟩ | ⟨rfl, rfl, h⟩
  all_goals (repeat' split)
  all_goals omega

theorem DigRel.bound {L d n : Nat} (h : DigRel L d n) : d ≤ 7 ∧ 1 ≤ d ∧ n ≤ L := by
  rcases h with ⟨rfl, rfl⟩ | ⟨rfl, rfl, h⟩ | ⟨rfl, rfl, h⟩ | ⟨rfl, rfl, h⟩ | ⟨rfl, rfl, h⟩ | ⟨rfl, rfl, h⟩ | ⟨rfl, rfl, h⟩
  all_goals omega

/-- Is m 10, 100, 1000 ..? -/
def isPow (m : Nat) : Bool := m == 10 || m == 100 || m == 1000 || m == 10000 || m == 100000 || m == 1000000

/-- What holds at the head of the powers' loop: p is a power of ten and every lesser one lies below m. -/
def PowRel (m p : Nat) : Prop :=
  p = 10 ∨ (p = 100 ∧ 10 < m) ∨ (p = 1000 ∧ 100 < m) ∨ (p = 10000 ∧ 1000 < m) ∨ (p = 100000 ∧ 10000 < m) ∨ (p = 1000000 ∧ 100000 < m) ∨ (p = 10000000 ∧ 1000000 < m)

theorem PowRel.start (m : Nat) : PowRel m 10 := .inl rfl

theorem PowRel.step {m p : Nat} (h : PowRel m p) (hm : m < 10000000) (hp : p < m) : PowRel m (p * 10) := by
  unfold PowRel at *
  omega

theorem PowRel.bound {m p : Nat} (h : PowRel m p) : 10 ≤ p ∧ p ≤ 10000000 := by
  unfold PowRel at h
  omega

theorem PowRel.done {m p : Nat} (h : PowRel m p) (hm : m < 10000000) (hp : m ≤ p) : (p == m) = isPow m := by
  unfold PowRel at h
  unfold isPow
  rw [Bool.eq_iff_iff]
  simp only [beq_iff_eq, Bool.or_eq_true]
  omega

/-- ONE BYTE MORE: one digit more just at a power of ten. -/
theorem grows (L : Nat) (hL : L ≤ 1048576) : digs (L + 1) = digs L + if isPow (L + 1) then 1 else 0 := by
  unfold digs isPow
  simp only [Bool.or_eq_true, beq_iff_eq]
  repeat' split
  all_goals omega

end Go.Proofs.Qxb6002704a.Plain
