/-
  Plain laws of FnCountedMatchesTally: what the map of counts reads as, and the tally beside it. No Go text in sight: the map's datum by the library's views (Derived/Maps/Views.lean).
-/
import Derived.Maps.Views
namespace Go.Proofs.Qxb6600847a.Plain
open Go Go.Maps

def num (c : Int) : DataW Unit := .lit (.int .i64 c)
/-- What a string key reads as. -/
def kl (s : ByteArray) : Lit := .string s.data.toList

theorem kl_inj {s t : ByteArray} (h : kl s = kl t) : s = t := by
  simp only [kl, Lit.string.injEq] at h
  cases s; cases t
  simp only [Array.toList_inj] at h
  rw [h]

theorem kl_key (s : ByteArray) : WideAt.IsKeyLit (kl s) := trivial

theorem num_inj {a b : Int} (h : num a = num b) : a = b := by
  simp only [num, DataW.lit.injEq, Lit.int.injEq, true_and] at h
  exact h

/-- What 'counted' makes of the map, the key having held c. -/
def countD (D : DataW Unit) (s : ByteArray) (more : Bool) (c : Int) : DataW Unit :=
  if more then D.put (kl s) (num (c + 1)) else if c - 1 = 0 then (D.put (kl s) (num (c - 1))).del (kl s) else D.put (kl s) (num (c - 1))

def upd {α : Type} (f : Nat → α) (j : Nat) (v : α) : Nat → α := fun i => if i = j then v else f i
theorem upd_same {α : Type} (f : Nat → α) (j : Nat) (v : α) : upd f j v j = v := if_pos rfl
theorem upd_other {α : Type} (f : Nat → α) {i j : Nat} (v : α) (h : i ≠ j) : upd f j v i = f i := if_neg h

def cnt : Nat → (Nat → Bool) → Nat
  | 0, _ => 0
  | n + 1, f => cnt n f + if f n then 1 else 0

theorem cnt_congr {f g : Nat → Bool} : ∀ n, (∀ i, i < n → f i = g i) → cnt n f = cnt n g
  | 0, _ => rfl
  | n + 1, h => by rw [cnt, cnt, cnt_congr n (fun i hi => h i (by omega)), h n (by omega)]

theorem cnt_le (f : Nat → Bool) : ∀ n, cnt n f ≤ n
  | 0 => Nat.le_refl _
  | n + 1 => by
    have := cnt_le f n
    rw [cnt]
    split <;> omega

theorem cnt_upd (f : Nat → Bool) (j : Nat) (b : Bool) : ∀ n, j < n → cnt n (upd f j b) + (if f j then 1 else 0) = cnt n f + (if b then 1 else 0)
  | 0, h => absurd h (Nat.not_lt_zero _)
  | n + 1, h => by
    rw [cnt, cnt]
    by_cases e : j = n
    · subst e
      rw [upd_same, cnt_congr (g := f) j (fun i hi => upd_other f b (by omega))]
      omega
    · have ih := cnt_upd f j b n (by omega)
      rw [upd_other f b (fun h => e h.symm)]
      omega

/-- THE TALLY: N names nm, each with its net count nt and whether the last call on it counted one more lm; the map D beside them, k calls done. -/
structure Tal (D : DataW Unit) (N : Nat) (nm : Nat → ByteArray) (nt : Nat → Int) (lm : Nat → Bool) (k : Nat) : Prop where
  bd : ∀ j, j < N → -(k : Int) ≤ nt j ∧ nt j ≤ (k : Int)
  tidy : Tidy D
  inj : ∀ i, i < N → ∀ j, j < N → nm i = nm j → i = j
  at_ : ∀ j, j < N → D.atKey (kl (nm j)) (num 0) = num (nt j)
  has_ : ∀ j, j < N → Maps.has D (kl (nm j)) = (nt j != 0 || lm j)
  out : ∀ s, (∀ j, j < N → nm j ≠ s) → Maps.has D (kl s) = false
  size : Maps.size D = cnt N (fun j => nt j != 0 || lm j)

theorem Tal.start (nm : Nat → ByteArray) (nt : Nat → Int) (lm : Nat → Bool) : Tal (.map []) 0 nm nt lm 0 :=
  ⟨fun _ h => absurd h (Nat.not_lt_zero _), tidy_empty, fun _ h => absurd h (Nat.not_lt_zero _), fun _ h => absurd h (Nat.not_lt_zero _), fun _ h => absurd h (Nat.not_lt_zero _), fun _ _ => rfl, rfl⟩

/-- A name that is new is laid with the net count 0. -/
theorem Tal.touch {D : DataW Unit} {N : Nat} {nm : Nat → ByteArray} {nt : Nat → Int} {lm : Nat → Bool} {k : Nat} (h : Tal D N nm nt lm k) {s : ByteArray} (hs : ∀ j, j < N → nm j ≠ s) :
    Tal D (N + 1) (upd nm N s) (upd nt N 0) (upd lm N false) k where
  bd := fun j hj => by
    by_cases e : j = N
    · subst e; rw [upd_same]; omega
    · rw [upd_other _ _ e]; exact h.bd j (by omega)
  tidy := h.tidy
  inj := fun i hi j hj he => by
    by_cases e1 : i = N
    · by_cases e2 : j = N
      · omega
      · subst e1; rw [upd_same, upd_other _ _ e2] at he
        exact absurd he.symm (hs j (by omega))
    · by_cases e2 : j = N
      · subst e2; rw [upd_same, upd_other _ _ e1] at he
        exact absurd he (hs i (by omega))
      · rw [upd_other _ _ e1, upd_other _ _ e2] at he
        exact h.inj i (by omega) j (by omega) he
  at_ := fun j hj => by
    by_cases e : j = N
    · subst e; rw [upd_same, upd_same]; exact atKey_of_not_has (h.out s hs) _
    · rw [upd_other _ _ e, upd_other _ _ e]; exact h.at_ j (by omega)
  has_ := fun j hj => by
    by_cases e : j = N
    · subst e; rw [upd_same, upd_same, upd_same, h.out s hs]; rfl
    · rw [upd_other _ _ e, upd_other _ _ e, upd_other _ _ e]; exact h.has_ j (by omega)
  out := fun t ht => h.out t (fun j hj => by have := ht j (by omega); rwa [upd_other _ _ (by omega)] at this)
  size := by
    rw [h.size, cnt, upd_same, upd_same]
    simp only [bne_self_eq_false, Bool.or_self, Bool.false_eq_true, if_false, Nat.add_zero]
    exact cnt_congr N (fun i hi => by rw [upd_other _ _ (by omega), upd_other _ _ (by omega)])

theorem countD_other {D : DataW Unit} {s : ByteArray} {b : Bool} {c : Int} {k' : Lit} (hne : k' ≠ kl s) (z : DataW Unit) : (countD D s b c).atKey k' z = D.atKey k' z ∧ Maps.has (countD D s b c) k' = Maps.has D k' := by
  unfold countD
  split
  · exact ⟨atKey_put_other hne _ _, has_put_other hne _⟩
  · split
    · exact ⟨(atKey_del_other hne _).trans (atKey_put_other hne _ _), (has_del_other hne).trans (has_put_other hne _)⟩
    · exact ⟨atKey_put_other hne _ _, has_put_other hne _⟩

def turned (b : Bool) (c : Int) : Int := if b then c + 1 else c - 1

theorem countD_same {D : DataW Unit} {s : ByteArray} {b : Bool} {c : Int} (hD : IsMap D) : (countD D s b c).atKey (kl s) (num 0) = num (turned b c) ∧ Maps.has (countD D s b c) (kl s) = (turned b c != 0 || b) := by
  unfold countD turned
  cases b
  · simp only [Bool.false_eq_true, if_false]
    by_cases e : c - 1 = 0
    · rw [if_pos e]
      exact ⟨(atKey_del_same _).trans (by rw [e]), by rw [has_del_same, e]; rfl⟩
    · rw [if_neg e]
      exact ⟨atKey_put_same hD (kl_key s) _ _, by rw [has_put_same hD (kl_key s)]; simp [e]⟩
  · simp only [if_true]
    exact ⟨atKey_put_same hD (kl_key s) _ _, by rw [has_put_same hD (kl_key s)]; simp⟩

theorem countD_tidy {D : DataW Unit} {s : ByteArray} {b : Bool} {c : Int} (h : Tidy D) : Tidy (countD D s b c) := by
  unfold countD
  split
  · exact h.put (kl_key s) _
  · split
    · exact (h.put (kl_key s) _).del _
    · exact h.put (kl_key s) _

theorem countD_size {D : DataW Unit} {s : ByteArray} {b : Bool} {c : Int} (h : Tidy D) :
    Maps.size (countD D s b c) + (if Maps.has D (kl s) then 1 else 0) = Maps.size D + (if (turned b c != 0 || b) then 1 else 0) := by
  have hp := fun d : DataW Unit => size_put (k := kl s) h d
  have hm := h.isMap
  unfold countD turned
  cases b
  · simp only [Bool.false_eq_true, if_false]
    by_cases e : c - 1 = 0
    · rw [if_pos e, e]
      have hd := size_del (k := kl s) (h.put (kl_key s) (num 0))
      rw [has_put_same hm (kl_key s), hp] at hd
      simp only [if_true] at hd
      simp only [bne_self_eq_false, Bool.or_self, Bool.false_eq_true, if_false]
      split at hd <;> simp_all
    · rw [if_neg e, hp]
      have e' : (c - 1 != 0) = true := by simpa using e
      rw [e']
      simp only [Bool.true_or, if_true]
      split <;> simp_all
  · simp only [if_true, Bool.or_true]
    rw [hp]
    split <;> simp_all

/-- ONE CALL OF 'counted' ON A NAME THAT IS LAID. -/
theorem Tal.step {D : DataW Unit} {N : Nat} {nm : Nat → ByteArray} {nt : Nat → Int} {lm : Nat → Bool} {k : Nat} (h : Tal D N nm nt lm k) {j : Nat} (hj : j < N) (b : Bool) :
    Tal (countD D (nm j) b (nt j)) N nm (upd nt j (turned b (nt j))) (upd lm j b) (k + 1) where
  bd := fun i hi => by
    by_cases e : i = j
    · subst e; rw [upd_same]
      have := h.bd i hi
      unfold turned
      split <;> omega
    · rw [upd_other _ _ e]
      have := h.bd i hi
      omega
  tidy := countD_tidy h.tidy
  inj := h.inj
  at_ := fun i hi => by
    by_cases e : i = j
    · subst e; rw [upd_same]; exact (countD_same h.tidy.isMap).1
    · rw [upd_other _ _ e, (countD_other (fun he => e (h.inj i hi j hj (kl_inj he))) _).1]; exact h.at_ i hi
  has_ := fun i hi => by
    by_cases e : i = j
    · subst e; rw [upd_same, upd_same]; exact (countD_same h.tidy.isMap).2
    · rw [upd_other _ _ e, upd_other _ _ e, (countD_other (fun he => e (h.inj i hi j hj (kl_inj he))) (num 0)).2]; exact h.has_ i hi
  out := fun s hs => by rw [(countD_other (fun he => hs j hj (kl_inj he).symm) (num 0)).2]; exact h.out s hs
  size := by
    have h1 := countD_size (s := nm j) (b := b) (c := nt j) h.tidy
    have h2 := cnt_upd (fun i => nt i != 0 || lm i) j (turned b (nt j) != 0 || b) N hj
    rw [h.has_ j hj, h.size] at h1
    have h3 : cnt N (fun i => upd nt j (turned b (nt j)) i != 0 || upd lm j b i) = cnt N (upd (fun i => nt i != 0 || lm i) j (turned b (nt j) != 0 || b)) := cnt_congr N (fun i _ => by
      by_cases e : i = j
      · subst e; rw [upd_same, upd_same, upd_same]
      · rw [upd_other _ _ e, upd_other _ _ e, upd_other _ _ e])
    rw [h3]
    omega

/-- .. and on one that is new. -/
theorem Tal.fresh {D : DataW Unit} {N : Nat} {nm : Nat → ByteArray} {nt : Nat → Int} {lm : Nat → Bool} {k : Nat} (h : Tal D N nm nt lm k) {s : ByteArray} (hs : ∀ j, j < N → nm j ≠ s) (b : Bool) :
    Tal (countD D s b 0) (N + 1) (upd nm N s) (upd (upd nt N 0) N (turned b 0)) (upd (upd lm N false) N b) (k + 1) := by
  have := (h.touch hs).step (Nat.lt_succ_self N) b
  rwa [upd_same, upd_same] at this

end Go.Proofs.Qxb6600847a.Plain
