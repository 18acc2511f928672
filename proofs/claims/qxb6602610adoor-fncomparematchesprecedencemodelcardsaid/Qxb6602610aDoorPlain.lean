/-
  The plain model of a pre-release identifier and of a list of them: what zzIdentModel, zzPreModel and zzCompareModel reckon. No Go text in sight.
-/
import Derived.Lib.Bytealg
namespace Go.Proofs.Qxb6602610aDoor.Plain
open Go

/-- A string's bytes. -/
def bs (s : ByteArray) : List UInt8 := s.data.toList
def sgn (a b : Int) : Int := if a < b then -1 else if b < a then 1 else 0
def dig (c : UInt8) : Bool := decide (48 ≤ c) && decide (c ≤ 57)
def allDig (s : ByteArray) : Bool := !(bs s).isEmpty && (bs s).all dig
/-- Leading zeros dropped. -/
def skipZ (s : ByteArray) : ByteArray := ⟨((bs s).dropWhile (· == 48)).toArray⟩
def top : ByteArray := ⟨#[49, 56, 52, 52, 54, 55, 52, 52, 48, 55, 51, 55, 48, 57, 53, 53, 49, 54, 49, 53]⟩
def cmpB (a b : ByteArray) : Int := Lib.compareBytes (bs a) (bs b)
def fits (s : ByteArray) : Bool := if (skipZ s).size < 20 then true else if 20 < (skipZ s).size then false else decide (cmpB (skipZ s) top ≤ 0)
def numCmp (a b : ByteArray) : Int := if (skipZ a).size = (skipZ b).size then cmpB (skipZ a) (skipZ b) else sgn ((skipZ a).size : Int) ((skipZ b).size : Int)
def isNum (s : ByteArray) : Bool := allDig s && fits s
def ident (a b : ByteArray) : Int := if isNum a then (if isNum b then numCmp a b else -1) else if isNum b then 1 else cmpB a b
/-- 2: no list at all; 1: an identifier at i; 0: the list's end. -/
def kind (N i : Nat) : Int := if N = 0 then 2 else if i < N then 1 else 0
def preGo (N M : Nat) (f g : Nat → ByteArray) : Nat → Nat → Int
  | 0, _ => 0
  | r + 1, i => if kind N i = 1 ∧ kind M i = 1 then (if ident (f i) (g i) = 0 then preGo N M f g r (i + 1) else ident (f i) (g i)) else sgn (kind N i) (kind M i)
def preM (N : Nat) (f : Nat → ByteArray) (M : Nat) (g : Nat → ByteArray) : Int := preGo N M f g (N + 1) 0
def cmpM (a1 a2 a3 : Int) (N : Nat) (f : Nat → ByteArray) (b1 b2 b3 : Int) (M : Nat) (g : Nat → ByteArray) : Int :=
  if sgn a1 b1 = 0 then (if sgn a2 b2 = 0 then (if sgn a3 b3 = 0 then preM N f M g else sgn a3 b3) else sgn a2 b2) else sgn a1 b1

theorem bs_length (s : ByteArray) : (bs s).length = s.size := Array.length_toList

theorem drop_cons (s : ByteArray) (k : Nat) (h : k < s.size) : (bs s).drop k = s[k] :: (bs s).drop (k + 1) := by
  rw [List.drop_eq_getElem_cons (by rw [bs_length]; exact h)]
  congr 1

theorem ext_bs {s t : ByteArray} (h : bs s = bs t) : s = t := by
  cases s; cases t
  simp only [bs, Array.toList_inj] at h
  rw [h]

theorem u8_lt (x y : UInt8) : x < y ↔ (x.toNat : Int) < (y.toNat : Int) := by
  rw [UInt8.lt_iff_toNat_lt]; omega
theorem u8_eq (x y : UInt8) : x = y ↔ (x.toNat : Int) = (y.toNat : Int) := by
  rw [← UInt8.toNat_inj]; omega

/-! ### byte by byte -/
theorem cmp_eq {a b : ByteArray} {k : Nat} (ha : k < a.size) (hb : k < b.size) (h : (((a[k]'ha).toNat : Int) != ((b[k]'hb).toNat : Int)) = false) :
    Lib.compareBytes ((bs a).drop k) ((bs b).drop k) = Lib.compareBytes ((bs a).drop (k + 1)) ((bs b).drop (k + 1)) := by
  have e : a[k] = b[k] := (u8_eq _ _).2 (by simpa using h)
  rw [drop_cons a k ha, drop_cons b k hb, Lib.compareBytes, e, if_neg (UInt8.lt_irrefl _), if_neg (UInt8.lt_irrefl _)]

theorem cmp_lt {a b : ByteArray} {k : Nat} (ha : k < a.size) (hb : k < b.size) (h : ((a[k]'ha).toNat : Int) < ((b[k]'hb).toNat : Int)) :
    Lib.compareBytes ((bs a).drop k) ((bs b).drop k) = -1 := by
  rw [drop_cons a k ha, drop_cons b k hb, Lib.compareBytes, if_pos ((u8_lt _ _).2 h)]

theorem cmp_gt {a b : ByteArray} {k : Nat} (ha : k < a.size) (hb : k < b.size) (h : ((b[k]'hb).toNat : Int) < ((a[k]'ha).toNat : Int)) :
    Lib.compareBytes ((bs a).drop k) ((bs b).drop k) = 1 := by
  rw [drop_cons a k ha, drop_cons b k hb, Lib.compareBytes, if_neg (fun h' => by have := (u8_lt _ _).1 h'; omega), if_pos ((u8_lt _ _).2 h)]

theorem cmp_nil_left : ∀ l : List UInt8, Lib.compareBytes [] l = sgn 0 (l.length : Int)
  | [] => rfl
  | _ :: _ => by
    rw [Lib.compareBytes, sgn, if_pos (by simp only [List.length_cons]; omega)]

theorem cmp_nil_right : ∀ l : List UInt8, Lib.compareBytes l [] = sgn (l.length : Int) 0
  | [] => rfl
  | _ :: _ => by
    rw [Lib.compareBytes, sgn, if_neg (by simp only [List.length_cons]; omega), if_pos (by simp only [List.length_cons]; omega)]

theorem cmp_end {a b : ByteArray} {k : Nat} (hk : k = a.size ∧ k ≤ b.size ∨ k = b.size ∧ k ≤ a.size) :
    Lib.compareBytes ((bs a).drop k) ((bs b).drop k) = sgn (a.size : Int) (b.size : Int) := by
  rcases hk with ⟨rfl, h⟩ | ⟨rfl, h⟩
  · rw [List.drop_of_length_le (by rw [bs_length]; exact Nat.le_refl _), cmp_nil_left, List.length_drop, bs_length]
    unfold sgn
    repeat' split
    all_goals omega
  · rw [List.drop_of_length_le (l := bs b) (by rw [bs_length]; exact Nat.le_refl _), cmp_nil_right, List.length_drop, bs_length]
    unfold sgn
    repeat' split
    all_goals omega

/-! ### digits -/
theorem dig_iff (c : UInt8) : dig c = true ↔ 48 ≤ (c.toNat : Int) ∧ (c.toNat : Int) ≤ 57 := by
  simp only [dig, Bool.and_eq_true, decide_eq_true_eq, UInt8.le_iff_toNat_le]
  have h1 : (48 : UInt8).toNat = 48 := rfl
  have h2 : (57 : UInt8).toNat = 57 := rfl
  rw [h1, h2]; omega

theorem all_step {s : ByteArray} {k : Nat} (hk : k < s.size) (h1 : 48 ≤ ((s[k]'hk).toNat : Int)) (h2 : ((s[k]'hk).toNat : Int) ≤ 57) : ((bs s).drop k).all dig = ((bs s).drop (k + 1)).all dig := by
  rw [drop_cons s k hk, List.all_cons, (dig_iff _).2 ⟨h1, h2⟩, Bool.true_and]

theorem all_stop {s : ByteArray} {k : Nat} (hk : k < s.size) (h : ((s[k]'hk).toNat : Int) < 48 ∨ 57 < ((s[k]'hk).toNat : Int)) : ((bs s).drop k).all dig = false := by
  have e : dig s[k] = false := Bool.eq_false_iff.2 (fun h' => by have := (dig_iff _).1 h'; omega)
  rw [drop_cons s k hk, List.all_cons, e, Bool.false_and]

/-! ### zeros -/
theorem zero_step {s : ByteArray} {k : Nat} (hk : k < s.size) (h : (((s[k]'hk).toNat : Int) == 48) = true) : ((bs s).drop k).dropWhile (· == 48) = ((bs s).drop (k + 1)).dropWhile (· == 48) := by
  have e : s[k] = 48 := (u8_eq _ _).2 (by simpa using h)
  rw [drop_cons s k hk, e, List.dropWhile_cons_of_pos (by rfl)]

theorem zero_stop {s : ByteArray} {k : Nat} (hk : k < s.size) (h : (((s[k]'hk).toNat : Int) == 48) = false) : ((bs s).drop k).dropWhile (· == 48) = (bs s).drop k := by
  have e : ¬ ((s[k] == 48) = true) := fun h' => by
    have e' : s[k] = 48 := by simpa using h'
    rw [e'] at h
    exact absurd h (by decide)
  rw [drop_cons s k hk]
  exact List.dropWhile_cons_of_neg (p := fun x => x == 48) e

theorem skipZ_of {s t : ByteArray} (h : bs t = (bs s).dropWhile (· == 48)) : t = skipZ s := ext_bs (by rw [h]; simp [skipZ, bs])

theorem skipZ_le (s : ByteArray) : (skipZ s).size ≤ s.size := by
  rw [← bs_length, ← bs_length]
  have : bs (skipZ s) = (bs s).dropWhile (· == 48) := by simp [skipZ, bs]
  rw [this]
  exact (List.dropWhile_sublist _).length_le

theorem sgn_cases (a b : Int) : (a < b ∧ sgn a b = -1) ∨ (a = b ∧ sgn a b = 0) ∨ (b < a ∧ sgn a b = 1) := by
  unfold sgn
  rcases Int.lt_trichotomy a b with h | h | h
  · exact .inl ⟨h, if_pos h⟩
  · subst h; exact .inr (.inl ⟨rfl, by rw [if_neg (by omega), if_neg (by omega)]⟩)
  · exact .inr (.inr ⟨h, by rw [if_neg (by omega), if_pos h]⟩)

theorem cmpB_cases : ∀ a b : List UInt8, Lib.compareBytes a b = -1 ∨ Lib.compareBytes a b = 0 ∨ Lib.compareBytes a b = 1
  | [], [] => .inr (.inl rfl)
  | [], _ :: _ => .inl rfl
  | _ :: _, [] => .inr (.inr rfl)
  | x :: a, y :: b => by
    rw [Lib.compareBytes]
    split
    · exact .inl rfl
    · split
      · exact .inr (.inr rfl)
      · exact cmpB_cases a b

theorem ident_cases (a b : ByteArray) : ident a b = -1 ∨ ident a b = 0 ∨ ident a b = 1 := by
  unfold ident
  split
  · split
    · unfold numCmp
      split
      · exact cmpB_cases _ _
      · rcases sgn_cases ((skipZ a).size : Int) ((skipZ b).size : Int) with h | h | h <;> rw [h.2] <;> simp
    · exact .inl rfl
  · split
    · exact .inr (.inr rfl)
    · exact cmpB_cases _ _

theorem kind_cases (N i : Nat) : kind N i = 0 ∨ kind N i = 1 ∨ kind N i = 2 := by
  unfold kind
  split
  · simp
  · split <;> simp

/-- Against no list at all: a list is the lesser. -/
theorem preM_none (N : Nat) (f g : Nat → ByteArray) : preM N f 0 g = if N = 0 then 0 else -1 := by
  unfold preM preGo
  rw [if_neg (by rintro ⟨_, h⟩; exact absurd h (by decide))]
  unfold kind
  by_cases h : N = 0
  · rw [if_pos h, if_pos rfl, if_pos h]; rfl
  · rw [if_neg h, if_pos (by omega), if_pos rfl, if_neg h]; rfl

theorem sgn_self (a : Int) : sgn a a = 0 := by unfold sgn; rw [if_neg (by omega), if_neg (by omega)]

end Go.Proofs.Qxb6602610aDoor.Plain
