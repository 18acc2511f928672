/-
  bump, hyphen, ZZHyphen: the interval's two bounds in memory of the call's own.
-/
import Derived.Test.Qxb6602610aLaid
import Derived.Laws.ResultCell
import Derived.Deep.QuietTactic
import Derived.BigQuiet
namespace Go.Proofs.Qxb6602610a
open Go.RowKit Go.Deep Plain

abbrev pval (M m p : Int) (a : Option Addr) (N c : Nat) (b : ByteArray) (n : Int) (wc : Bool) : Value := .agg #[.int .u64 M, .int .u64 m, .int .u64 p, .slice a N c, .string b, .int .i64 n, .bool wc]
abbrev vval (M m p : Int) (a : Option Addr) (N c : Nat) (b : ByteArray) : Value := .agg #[.int .u64 M, .int .u64 m, .int .u64 p, .slice a N c, .string b]

abbrev pO (M m p : Int) (a : Option Addr) (N c : Nat) (b : ByteArray) (n : Int) (wc : Bool) : Obj := .cells #[.int .u64 M, .int .u64 m, .int .u64 p, .slice a N c, .string b, .int .i64 n, .bool wc] 42
abbrev vO (M m p : Int) (a : Option Addr) (N c : Nat) (b : ByteArray) : Obj := .cells #[.int .u64 M, .int .u64 m, .int .u64 p, .slice a N c, .string b] 40

set_option maxHeartbeats 1000000 in
theorem bump_zero (M m p : Int) (a : Option Addr) (N c : Nat) (b : ByteArray) (n : Int) (wc : Bool) (w : World) (h0 : 0 ≤ M) (h1 : M < 18446744073709551615) :
    Calls Try.prog 17 #[pval M m p a N c b n wc, .int .i64 0] w fun e w' => e = .returned (vval (M + 1) 0 0 none 0 0 ⟨#[]⟩) ∧ w' = ((w.alloc (pO M m p a N c b n wc)).alloc (vO (M + 1) 0 0 none 0 0 ⟨#[]⟩)).alloc (vO (M + 1) 0 0 none 0 0 ⟨#[]⟩) := by
  go_enter Try.func17, Try.ntmps17
  go_wp2
  exact bodyPost_ret (v := vval (M + 1) 0 0 none 0 0 ⟨#[]⟩) (by simp [results, Try.results17, go_sem]) rfl ⟨rfl, rfl⟩

set_option maxHeartbeats 1000000 in
theorem bump_one (M m p : Int) (a : Option Addr) (N c : Nat) (b : ByteArray) (n : Int) (wc : Bool) (w : World) (h0 : 0 ≤ m) (h1 : m < 18446744073709551615) :
    Calls Try.prog 17 #[pval M m p a N c b n wc, .int .i64 1] w fun e w' => e = .returned (vval M (m + 1) 0 none 0 0 ⟨#[]⟩) ∧ w' = ((w.alloc (pO M m p a N c b n wc)).alloc (vO M (m + 1) 0 none 0 0 ⟨#[]⟩)).alloc (vO M (m + 1) 0 none 0 0 ⟨#[]⟩) := by
  go_enter Try.func17, Try.ntmps17
  go_wp2
  exact bodyPost_ret (v := vval M (m + 1) 0 none 0 0 ⟨#[]⟩) (by simp [results, Try.results17, go_sem]) rfl ⟨rfl, rfl⟩

set_option maxHeartbeats 1000000 in
theorem bump_more (M m p : Int) (a : Option Addr) (N c : Nat) (b : ByteArray) (n : Int) (wc : Bool) (i : Int) (w : World) (h0 : 0 ≤ p) (h1 : p < 18446744073709551615) (i0 : (i == 0) = false) (i1 : (i == 1) = false) :
    Calls Try.prog 17 #[pval M m p a N c b n wc, .int .i64 i] w fun e w' => e = .returned (vval M m (p + 1) none 0 0 ⟨#[]⟩) ∧ w' = ((w.alloc (pO M m p a N c b n wc)).alloc (vO M m (p + 1) none 0 0 ⟨#[]⟩)).alloc (vO M m (p + 1) none 0 0 ⟨#[]⟩) := by
  go_enter Try.func17, Try.ntmps17
  go_wp2
  exact bodyPost_ret (v := vval M m (p + 1) none 0 0 ⟨#[]⟩) (by simp [results, Try.results17, go_sem]) rfl ⟨rfl, rfl⟩

/-- A Version lies in block g. -/
def VerAt (w : World) (g : Nat) (M m p : Int) (a : Option Addr) (N c : Nat) (b : ByteArray) : Prop :=
  w.cell? ⟨g, 0, none⟩ = some (.int .u64 M) ∧ w.cell? ⟨g, 1, none⟩ = some (.int .u64 m) ∧ w.cell? ⟨g, 2, none⟩ = some (.int .u64 p) ∧ w.cell? ⟨g, 3, none⟩ = some (.slice a N c) ∧ w.cell? ⟨g, 4, none⟩ = some (.string b)

theorem VerAt.later {w w' : World} {g : Nat} {M m p : Int} {a : Option Addr} {N c : Nat} {b : ByteArray} (h : VerAt w g M m p a N c b) (hb : Below w.heap.size w w') : VerAt w' g M m p a N c b := by
  have hg : g < w.heap.size := World.block_lt_of_cell? _ _ h.1
  have hc := fun j => hb.cell (p := ⟨g, j, none⟩) hg
  exact ⟨(hc 0).trans h.1, (hc 1).trans h.2.1, (hc 2).trans h.2.2.1, (hc 3).trans h.2.2.2.1, (hc 4).trans h.2.2.2.2⟩

theorem VerAt.of {w : World} {g : Nat} {M m p : Int} {a : Option Addr} {N c : Nat} {b : ByteArray} (h : w.heap[g]? = some (vO M m p a N c b)) : VerAt w g M m p a N c b := by
  have hc := fun j => cell_of_row w g j _ 40 _ h
  exact ⟨hc 0, hc 1, hc 2, hc 3, hc 4⟩

def bumpM (n M : Int) : Int := if n = 1 then M + 1 else M
def bumpm (n m : Int) : Int := if n = 1 then 0 else if n = 2 then m + 1 else m
def bumpp (n p : Int) : Int := if n = 1 then 0 else if n = 2 then 0 else p + 1

/-- What hyphen hands back: the lower bound as it came; the upper one none, as it came, or bumped. -/
def Hy (w w' : World) (fM fm fp : Int) (fa : Option Addr) (fN fc : Nat) (fb : ByteArray) (tM tm tp : Int) (ta : Option Addr) (tN tc : Nat) (tb : ByteArray) (tn : Int) (lo hi : Option Addr) (hinc : Bool) : Prop :=
  Below w.heap.size w w' ∧ (∃ gl, lo = some ⟨gl, 0, none⟩ ∧ VerAt w' gl fM fm fp fa fN fc fb) ∧
    ((tn ≤ 0 ∧ hi = none ∧ hinc = false) ∨ (tn = 3 ∧ hinc = true ∧ ∃ gh, hi = some ⟨gh, 0, none⟩ ∧ VerAt w' gh tM tm tp ta tN tc tb) ∨
      (0 < tn ∧ tn ≠ 3 ∧ hinc = false ∧ ∃ gh, hi = some ⟨gh, 0, none⟩ ∧ VerAt w' gh (bumpM tn tM) (bumpm tn tm) (bumpp tn tp) none 0 0 ⟨#[]⟩))

abbrev ival (lo hi : Option Addr) (hinc : Bool) : Value := .agg #[.pointer lo, .pointer hi, .bool true, .bool hinc, .bool false]

def HyPost (w : World) (fM fm fp : Int) (fa : Option Addr) (fN fc : Nat) (fb : ByteArray) (tM tm tp : Int) (ta : Option Addr) (tN tc : Nat) (tb : ByteArray) (tn : Int) : Ending → World → Prop := fun e w' =>
  ∃ lo hi hinc, e = .returned (ival lo hi hinc) ∧ Hy w w' fM fm fp fa fN fc fb tM tm tp ta tN tc tb tn lo hi hinc

set_option maxHeartbeats 2000000 in
set_option maxRecDepth 100000 in
theorem hyphen_none (fM fm fp : Int) (fa : Option Addr) (fN fc : Nat) (fb : ByteArray) (fn : Int) (fw : Bool) (tM tm tp : Int) (ta : Option Addr) (tN tc : Nat) (tb : ByteArray) (tn : Int) (tw : Bool) (w : World) (hn : tn ≤ 0) :
    Calls Try.prog 14 #[pval fM fm fp fa fN fc fb fn fw, pval tM tm tp ta tN tc tb tn tw] w (HyPost w fM fm fp fa fN fc fb tM tm tp ta tN tc tb tn) := by
  have h3 : (tn == 3) = false := beq_eq_false_iff_ne.2 (by omega)
  have h0 : ¬ 0 < tn := by omega
  go_enter Try.func14, Try.ntmps14
  go_wp2
  refine bodyPost_ret (v := ival (some ⟨w.heap.size + 1 + 1 + 1, 0, none⟩) none false) (by simp [results, Try.results14, go_sem]) rfl ⟨_, _, _, rfl, ?_, ⟨_, rfl, ?_⟩, .inl ⟨hn, rfl, rfl⟩⟩
  · exact ((((((Below.refl _ _).alloc (by simp <;> omega) _).alloc (by simp <;> omega) _).alloc (by simp <;> omega) _).alloc (by simp <;> omega) _).alloc (by simp <;> omega) _)
  · exact ⟨by go_simp, by go_simp, by go_simp, by go_simp, by go_simp⟩

set_option maxHeartbeats 2000000 in
set_option maxRecDepth 100000 in
theorem hyphen_three (fM fm fp : Int) (fa : Option Addr) (fN fc : Nat) (fb : ByteArray) (fn : Int) (fw : Bool) (tM tm tp : Int) (ta : Option Addr) (tN tc : Nat) (tb : ByteArray) (tw : Bool) (w : World) :
    Calls Try.prog 14 #[pval fM fm fp fa fN fc fb fn fw, pval tM tm tp ta tN tc tb 3 tw] w (HyPost w fM fm fp fa fN fc fb tM tm tp ta tN tc tb 3) := by
  go_enter Try.func14, Try.ntmps14
  go_wp2
  refine bodyPost_ret (v := ival (some ⟨w.heap.size + 1 + 1 + 1, 0, none⟩) (some ⟨w.heap.size + 1 + 1 + 1 + 1 + 1, 0, none⟩) true) (by simp [results, Try.results14, go_sem]) rfl ⟨_, _, _, rfl, ?_, ⟨_, rfl, ?_⟩, .inr (.inl ⟨rfl, rfl, _, rfl, ?_⟩)⟩
  · exact (((((((Below.refl _ _).alloc (by simp <;> omega) _).alloc (by simp <;> omega) _).alloc (by simp <;> omega) _).alloc (by simp <;> omega) _).alloc (by simp <;> omega) _).alloc (by simp <;> omega) _)
  · exact ⟨by go_simp, by go_simp, by go_simp, by go_simp, by go_simp⟩
  · exact ⟨by go_simp, by go_simp, by go_simp, by go_simp, by go_simp⟩

set_option maxHeartbeats 2000000 in
set_option maxRecDepth 100000 in
theorem hyphen_more (fM fm fp : Int) (fa : Option Addr) (fN fc : Nat) (fb : ByteArray) (fn : Int) (fw : Bool) (tM tm tp : Int) (ta : Option Addr) (tN tc : Nat) (tb : ByteArray) (tn : Int) (tw : Bool) (w : World) (h1 : 0 < tn) (h2 : tn ≠ 3) (h5 : tn ≤ 9223372036854775807) (bM bm bp : Int) (hb : ∀ w, Calls Try.prog 17 #[pval tM tm tp ta tN tc tb tn tw, .int .i64 (tn - 1)] w fun e w' => e = .returned (vval bM bm bp none 0 0 ⟨#[]⟩) ∧ w' = ((w.alloc (pO tM tm tp ta tN tc tb tn tw)).alloc (vO bM bm bp none 0 0 ⟨#[]⟩)).alloc (vO bM bm bp none 0 0 ⟨#[]⟩))
    (hM : bM = bumpM tn tM) (hm : bm = bumpm tn tm) (hp : bp = bumpp tn tp) :
    Calls Try.prog 14 #[pval fM fm fp fa fN fc fb fn fw, pval tM tm tp ta tN tc tb tn tw] w (HyPost w fM fm fp fa fN fc fb tM tm tp ta tN tc tb tn) := by
  have h3 : (tn == 3) = false := beq_eq_false_iff_ne.2 h2
  have HB := hide hb
  have HE : Hid (bM = bumpM tn tM ∧ bm = bumpm tn tm ∧ bp = bumpp tn tp) := ⟨hM, hm, hp⟩
  have H2 := hide h2
  clear hb hM hm hp h2
  go_enter Try.func14, Try.ntmps14
  go_wp2_with (go_at_call 17; refine (HB.out _).mono ?_; rintro e w' ⟨rfl, rfl⟩)
  refine bodyPost_ret (v := ival (some ⟨w.heap.size + 1 + 1 + 1, 0, none⟩) (some ⟨w.heap.size + 1 + 1 + 1 + 1 + 1 + 1 + 1 + 1, 0, none⟩) false) (by simp [results, Try.results14, go_sem]) rfl ⟨_, _, _, rfl, ?_, ⟨_, rfl, ?_⟩, .inr (.inr ⟨h1, H2.out, rfl, _, rfl, ?_⟩)⟩
  · exact ((((((((((Below.refl _ _).alloc (by simp <;> omega) _).alloc (by simp <;> omega) _).alloc (by simp <;> omega) _).alloc (by simp <;> omega) _).alloc (by simp <;> omega) _).alloc (by simp <;> omega) _).alloc (by simp <;> omega) _).alloc (by simp <;> omega) _).alloc (by simp <;> omega) _)
  · exact ⟨by go_simp, by go_simp, by go_simp, by go_simp, by go_simp⟩
  · obtain ⟨q1, q2, q3⟩ := HE.out
    rw [← q1, ← q2, ← q3]
    clear q1 q2 q3
    exact ⟨by go_simp, by go_simp, by go_simp, by go_simp, by go_simp⟩

/-- The bounds within which no number of 'to' wraps: the law's own three tests. -/
def Fine (tn tM tm tp : Int) : Prop := (tn = 1 → tM < 18446744073709551615) ∧ (tn = 2 → tm < 18446744073709551615) ∧ (4 ≤ tn → tp < 18446744073709551615)

theorem hyphen_any (fM fm fp : Int) (fa : Option Addr) (fN fc : Nat) (fb : ByteArray) (fn : Int) (fw : Bool) (tM tm tp : Int) (ta : Option Addr) (tN tc : Nat) (tb : ByteArray) (tn : Int) (tw : Bool) (w : World) (h5 : tn ≤ 9223372036854775807) (k1 : 0 ≤ tM) (k2 : 0 ≤ tm) (k3 : 0 ≤ tp) (hf : Fine tn tM tm tp) :
    Calls Try.prog 14 #[pval fM fm fp fa fN fc fb fn fw, pval tM tm tp ta tN tc tb tn tw] w (HyPost w fM fm fp fa fN fc fb tM tm tp ta tN tc tb tn) := by
  obtain ⟨f1, f2, f3⟩ := hf
  by_cases h0 : tn ≤ 0
  · exact hyphen_none fM fm fp fa fN fc fb fn fw tM tm tp ta tN tc tb tn tw w h0
  · by_cases h3 : tn = 3
    · subst h3
      exact hyphen_three fM fm fp fa fN fc fb fn fw tM tm tp ta tN tc tb tw w
    · by_cases h1 : tn = 1
      · subst h1
        exact hyphen_more fM fm fp fa fN fc fb fn fw tM tm tp ta tN tc tb 1 tw w (by omega) h3 h5 (tM + 1) 0 0 (fun w => bump_zero tM tm tp ta tN tc tb 1 tw w k1 (f1 rfl)) rfl rfl rfl
      · by_cases h2 : tn = 2
        · subst h2
          exact hyphen_more fM fm fp fa fN fc fb fn fw tM tm tp ta tN tc tb 2 tw w (by omega) h3 h5 tM (tm + 1) 0 (fun w => bump_one tM tm tp ta tN tc tb 2 tw w k2 (f2 rfl)) rfl rfl rfl
        · exact hyphen_more fM fm fp fa fN fc fb fn fw tM tm tp ta tN tc tb tn tw w (by omega) h3 h5 tM tm (tp + 1) (fun w => bump_more tM tm tp ta tN tc tb tn tw (tn - 1) w k3 (f3 (by omega)) (beq_eq_false_iff_ne.2 (by omega)) (beq_eq_false_iff_ne.2 (by omega)))
            (by unfold bumpM; rw [if_neg h1]) (by unfold bumpm; rw [if_neg h1, if_neg h2]) (by unfold bumpp; rw [if_neg h1, if_neg h2])

def ZZPost (w : World) (fM fm fp : Int) (fa : Option Addr) (fN fc : Nat) (fb : ByteArray) (tM tm tp : Int) (ta : Option Addr) (tN tc : Nat) (tb : ByteArray) (tn : Int) : Ending → World → Prop := fun e w' =>
  ∃ lo hi hinc, e = .returned (.tuple #[.pointer lo, .pointer hi, .bool true, .bool hinc, .bool false]) ∧ Hy w w' fM fm fp fa fN fc fb tM tm tp ta tN tc tb tn lo hi hinc

theorem Hy.later {w w1 w2 w3 : World} {fM fm fp : Int} {fa : Option Addr} {fN fc : Nat} {fb : ByteArray} {tM tm tp : Int} {ta : Option Addr} {tN tc : Nat} {tb : ByteArray} {tn : Int} {lo hi : Option Addr} {hinc : Bool} (h : Hy w1 w2 fM fm fp fa fN fc fb tM tm tp ta tN tc tb tn lo hi hinc) (h0 : Below w.heap.size w w1) (h1 : Below w2.heap.size w2 w3) : Hy w w3 fM fm fp fa fN fc fb tM tm tp ta tN tc tb tn lo hi hinc := by
  obtain ⟨hb, ⟨gl, e1, hl⟩, hc⟩ := h
  refine ⟨(h0.trans (hb.mono h0.size)).trans (h1.mono (Nat.le_trans h0.size hb.size)), ⟨gl, e1, hl.later h1⟩, ?_⟩
  rcases hc with hc | ⟨c1, c2, gh, e2, hh⟩ | ⟨c1, c2, c3, gh, e2, hh⟩
  · exact .inl hc
  · exact .inr (.inl ⟨c1, c2, gh, e2, hh.later h1⟩)
  · exact .inr (.inr ⟨c1, c2, c3, gh, e2, hh.later h1⟩)

set_option maxHeartbeats 2000000 in
set_option maxRecDepth 100000 in
theorem zzhyphen_any (fM fm fp : Int) (fa : Option Addr) (fN fc : Nat) (fb : ByteArray) (fn : Int) (fw : Bool) (tM tm tp : Int) (ta : Option Addr) (tN tc : Nat) (tb : ByteArray) (tn : Int) (tw : Bool) (w : World) (h5 : tn ≤ 9223372036854775807) (k1 : 0 ≤ tM) (k2 : 0 ≤ tm) (k3 : 0 ≤ tp) (hf : Fine tn tM tm tp) :
    Calls Try.prog 8 #[.int .u64 fM, .int .u64 fm, .int .u64 fp, .slice fa fN fc, .string fb, .int .i64 fn, .bool fw, .int .u64 tM, .int .u64 tm, .int .u64 tp, .slice ta tN tc, .string tb, .int .i64 tn, .bool tw] w (ZZPost w fM fm fp fa fN fc fb tM tm tp ta tN tc tb tn) := by
  have HH := hide (fun w => hyphen_any fM fm fp fa fN fc fb fn fw tM tm tp ta tN tc tb tn tw w h5 k1 k2 k3 hf)
  have HB : Hid (Below w.heap.size w ((w.alloc (pO fM fm fp fa fN fc fb fn fw)).alloc (pO tM tm tp ta tN tc tb tn tw))) := ((Below.refl _ _).alloc (Nat.le_refl _) _).alloc (by simp) _
  clear hf
  go_enter Try.func8, Try.ntmps8
  go_wp2_with (go_at_call 14; refine (HH.out _).mono ?_; rintro e w1 ⟨lo, hi, hinc, rfl, hy⟩; have HY := hide hy; clear hy)
  go_quiet (fail)
  go_wp2
  exact bodyPost_ret (v := .tuple #[.pointer lo, .pointer hi, .bool true, .bool hinc, .bool false]) (by simp [results, Try.results8, go_sem]) rfl ⟨lo, hi, hinc, rfl, HY.out.later HB.out (((Below.refl _ _).alloc (Nat.le_refl _) _).trans ⟨rfl, rfl, rfl, Nat.le_refl _, fun _ _ => rfl⟩)⟩

end Go.Proofs.Qxb6602610a
