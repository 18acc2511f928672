/-
  Contracts on the road of FnIsTokenQuotesVerbatim: isToken, quote, sexpb1BytesEqual.
-/
import Derived.Test.Qxb6002704aSmall
import Derived.OwnWalk
import Derived.Maps.AppendAt
import Derived.Deep.QuietTactic
import Derived.BigQuiet
namespace Go.Proofs.Qxb6002704a
open Go.RowKit Go.Deep Go.Maps

/-- A byte that quote lays as it is. -/
def Bare (z : Int) : Prop := z ≠ 34 ∧ z ≠ 92 ∧ z ≠ 9 ∧ z ≠ 10 ∧ z ≠ 13

/-- The call tells a Bool, turns nothing, and where it tells true, p holds. -/
def Tells (p : Prop) (w : World) : Ending → World → Prop := fun e w' => ∃ r : Bool, e = .returned (.bool r) ∧ w' = w ∧ (r = true → p)

theorem Tells.yes {p : Prop} (w : World) (h : p) : Tells p w (.returned (.bool true)) w := ⟨true, rfl, rfl, fun _ => h⟩
theorem Tells.no (p : Prop) (w : World) : Tells p w (.returned (.bool false)) w := ⟨false, rfl, rfl, fun h => by cases h⟩

set_option maxHeartbeats 400000 in
theorem letter_any (c : Int) (w : World) : Calls Try.prog 33 #[.int .u8 c] w (Tells (65 ≤ c ∧ c ≠ 92) w) := by
  by_cases h1 : 97 ≤ c
  · by_cases h2 : c ≤ 122
    · go_enter Try.func33, Try.ntmps33
      go_wp2
      go_ret
      exact Tells.yes _ (by omega)
    · have h3 : ¬ c ≤ 90 := by omega
      go_enter Try.func33, Try.ntmps33
      go_wp2
      all_goals (go_ret; exact Tells.no _ _)
  · by_cases h2 : 65 ≤ c
    · by_cases h3 : c ≤ 90
      · go_enter Try.func33, Try.ntmps33
        go_wp2
        all_goals (go_ret; exact Tells.yes _ (by omega))
      · go_enter Try.func33, Try.ntmps33
        go_wp2
        all_goals (go_ret; first | exact Tells.no _ _ | exact Tells.yes _ (by omega))
    · go_enter Try.func33, Try.ntmps33
      go_wp2
      all_goals (go_ret; first | exact Tells.no _ _ | exact Tells.yes _ (by omega))

set_option maxHeartbeats 400000 in
theorem digit_any (c : Int) (w : World) : Calls Try.prog 34 #[.int .u8 c] w (Tells (48 ≤ c ∧ c ≤ 57) w) := by
  by_cases h1 : 48 ≤ c
  · by_cases h2 : c ≤ 57
    · go_enter Try.func34, Try.ntmps34
      go_wp2
      go_ret
      exact Tells.yes _ (by omega)
    · go_enter Try.func34, Try.ntmps34
      go_wp2
      all_goals (go_ret; exact Tells.no _ _)
  · go_enter Try.func34, Try.ntmps34
    go_wp2
    all_goals (go_ret; exact Tells.no _ _)

theorem bare_of_eq {c n : Int} (h : (c == n) = true) (hn : Bare n) : Bare c := by
  have : c = n := by simpa using h
  rw [this]; exact hn

set_option maxHeartbeats 400000 in
theorem start_any (c : Int) (w : World) : Calls Try.prog 31 #[.int .u8 c] w (Tells (Bare c) w) := by
  go_enter Try.func31, Try.ntmps31
  go_wp2_with (go_at_call 33; refine (letter_any _ _).mono ?_; rintro e w' ⟨r, rfl, rfl, hr⟩)
  all_goals go_ret
  · exact Tells.yes _ (bare_of_eq (n := 45) (by assumption) (by unfold Bare; omega))
  · exact Tells.yes _ (bare_of_eq (n := 46) (by assumption) (by unfold Bare; omega))
  · exact Tells.yes _ (bare_of_eq (n := 47) (by assumption) (by unfold Bare; omega))
  · exact Tells.yes _ (bare_of_eq (n := 95) (by assumption) (by unfold Bare; omega))
  · exact Tells.yes _ (bare_of_eq (n := 58) (by assumption) (by unfold Bare; omega))
  · exact Tells.yes _ (bare_of_eq (n := 42) (by assumption) (by unfold Bare; omega))
  · exact Tells.yes _ (bare_of_eq (n := 43) (by assumption) (by unfold Bare; omega))
  · exact Tells.yes _ (bare_of_eq (n := 61) (by assumption) (by unfold Bare; omega))
  · exact ⟨r, rfl, rfl, fun h => by have := hr h; unfold Bare; omega⟩

set_option maxHeartbeats 400000 in
theorem byte_any (c : Int) (w : World) : Calls Try.prog 32 #[.int .u8 c] w (Tells (Bare c) w) := by
  go_enter Try.func32, Try.ntmps32
  go_wp2_with (go_at_call 31; refine (start_any _ _).mono ?_; rintro e w' ⟨r, rfl, rfl, hr⟩; have HR : Hid (r = true → Bare c) := hr; clear hr; cases r)
  · go_wp2_with (go_at_call 34; refine (digit_any _ _).mono ?_; rintro e w' ⟨r2, rfl, rfl, hr2⟩; have HR2 : Hid (r2 = true → 48 ≤ c ∧ c ≤ 57) := hr2; clear hr2)
    go_ret
    exact ⟨r2, rfl, rfl, fun h => by have := HR2.out h; unfold Bare; omega⟩
  · go_ret
    exact Tells.yes _ (HR.out (by trivial))

/-- isToken: where it says yes every byte is one that quote lays as it is. -/
def AllBare (len : Nat) (Z : Nat → Int) : Prop := ∀ i, i < len → Bare (Z i)

set_option maxHeartbeats 400000 in
theorem token_any (a : Option Addr) (len cap : Nat) (Z : Nat → Int) (w : World) (hl : len ≤ 1048576) (hZ : Bytes w a len Z) :
    Calls Try.prog 30 #[.slice a len cap] w (Tells (AllBare len Z) w) := by
  by_cases h0 : len = 0
  · subst h0
    go_enter Try.func30, Try.ntmps30
    go_wp2
    go_ret
    exact Tells.no _ _
  · obtain ⟨b, off, rfl, hc⟩ := hZ (by omega)
    have hc0 : w.cell? ⟨b, off, none⟩ = some (.int .u8 (Z 0)) := by simpa using hc 0 (by omega)
    have hp : (0 : Int) < (len : Int) := by omega
    have hne : ((len : Int) == 0) = false := by simp; omega
    go_enter Try.func30, Try.ntmps30
    go_wp2_with (go_at_call 31; refine (start_any _ _).mono ?_; rintro e w' ⟨r, rfl, rfl, hr⟩; cases r)
    · go_ret
      exact Tells.no _ _
    · clear hr hc0
      go_loop [17] (fun i => ∃ k : Nat, k ≤ len ∧ i = .int .i64 k ∧ AllBare k Z) (fun i => len - (intOf i).toNat)
      case atStart => exact ⟨0, Nat.zero_le _, rfl, fun i hi => absurd hi (Nat.not_lt_zero _)⟩
      case round =>
        obtain ⟨k, hk, rfl, hA⟩ := hrel
        have HA : Hid (AllBare k Z) := hA
        clear hA
        by_cases hlt : k < len
        · have hck := hc k hlt
          go_wp2_with (go_at_call 32; refine (byte_any _ _).mono ?_; rintro e w' ⟨r, rfl, rfl, hr⟩; have HR : Hid (r = true → Bare (Z k)) := hr; clear hr; cases r)
          · go_ret
            exact Tells.no _ _
          · go_round
            case rel => exact ⟨k + 1, by omega, by go_num, fun i hi => by
              by_cases e : i = k
              · subst e; exact HR.out (by trivial)
              · exact HA.out i (by omega)⟩
            case measure => simp [intOf]; omega
        · obtain rfl : k = len := by omega
          go_wp2
          go_ret
          exact Tells.yes _ HA.out

/-- What quote has gathered behind k rounds. -/
def Got (Z : Nat → Int) (k : Nat) : List Value := .int .u8 34 :: (List.range k).map (fun i => .int .u8 (Z i))

theorem Got_length (Z : Nat → Int) (k : Nat) : (Got Z k).length = k + 1 := by simp [Got]

theorem Got_succ (Z : Nat → Int) (k : Nat) : Got Z (k + 1) = Got Z k ++ [.int .u8 (Z k)] := by
  simp [Got, List.range_succ]

theorem owns_some {w : World} {base : Nat} {e : TypeId} {size : Nat} {v : Value} {n : Nat} {xs : List Value} (h : w.ownsRow base e size v n xs) (hn : 0 < n) : ∃ g c, v = .slice (some ⟨g, 0, none⟩) n c ∧ base ≤ g ∧ n ≤ c ∧ c ≤ maxLen := by
  rcases h.2 with ⟨_, rfl⟩ | ⟨g, cap, cur, rfl, hb, hh, h1, h2, _⟩
  · omega
  · exact ⟨g, cap, rfl, hb, h1, h2⟩

/-- What quote hands back where every byte goes as it is: a slice of len + 2 bytes of the call's own, the text between two quotes. -/
def Quoted (w : World) (len : Nat) (Z : Nat → Int) : Ending → World → Prop := fun e w' =>
  ∃ g cap', e = .returned (.slice (some ⟨g, 0, none⟩) (len + 2) cap') ∧ len + 2 ≤ cap' ∧ cap' ≤ 9223372036854775807 ∧
    (∀ j, j < len + 2 → w'.cell? ⟨g, j, none⟩ = (Got Z len ++ [.int .u8 34])[j]?) ∧ Below w.heap.size w w'

theorem Quoted.mk {w w' : World} {len : Nat} {Z : Nat → Int} {v : Value} (h : w'.ownsRow w.heap.size 5 1 v (len + 1 + 1) (Got Z len ++ [.int .u8 34])) (hb : Below w.heap.size w w') : Quoted w len Z (.returned v) w' := by
  obtain ⟨g, c, rfl, hg, hn, hc⟩ := owns_some h (by omega)
  exact ⟨g, c, rfl, hn, by unfold maxLen at hc; omega, fun j hj => h.cellAt j (by omega), hb⟩

theorem below_app {w wr w1 : World} {v : Value} {n : Nat} {xs : List Value} {o : Obj} (hb : Below w.heap.size w wr) (ho : wr.ownsRow w.heap.size 5 1 v n xs) (hg : (wr.alloc o).grownBy w1 v.ownBlock) : Below w.heap.size w w1 := by
  have := hb.size
  exact (hb.alloc this o).grown hg (by simp; omega) (fun j hj => (ho.lt j hj).1)

set_option maxHeartbeats 800000 in
theorem quote_any (a : Option Addr) (len cap : Nat) (Z : Nat → Int) (w : World) (hl : len ≤ 1048576) (hZ : Bytes w a len Z) (hA : AllBare len Z) :
    Calls Try.prog 27 #[.slice a len cap] w (Quoted w len Z) := by
  obtain ⟨i0, hi, hz0, hz1, hz2⟩ := info_parts Try.info5
  have HA : Hid (AllBare len Z) := hA
  have HZ : Hid (Bytes w a len Z) := hZ
  clear hA hZ
  go_enter Try.func27, Try.ntmps27
  go_wp2
  go_loopw [3, 9] (fun v i wr => ∃ k : Nat, k ≤ len ∧ i = .int .i64 k ∧ Hid (wr.ownsRow w.heap.size 5 1 v (k + 1) (Got Z k)) ∧ Hid (Below w.heap.size w wr)) (fun _ i _ => len - (intOf i).toNat)
  case atStart => exact ⟨0, Nat.zero_le _, rfl, World.ownsRow_lit w #[.int .u8 34] 1 (Nat.le_refl _) (by unfold maxLen; omega) rfl, (Below.refl _ _).alloc (Nat.le_refl _) _⟩
  case round =>
    obtain ⟨k, hk, rfl, HO, HB⟩ := hrel
    by_cases hlt : k < len
    · obtain ⟨b, off, e, hc⟩ := HZ.out (by omega)
      subst e
      have hb : b < w.heap.size := World.block_lt_of_cell? _ _ (hc k hlt)
      have g0 : wr.cell? ⟨b, off + k, none⟩ = some (.int .u8 (Z k)) := by rw [HB.out.cell (p := ⟨b, off + k, none⟩) hb]; exact hc k hlt
      clear hc
      obtain ⟨n1, n2, n3, n4, n5⟩ := HA.out k hlt
      obtain ⟨z, hz⟩ : ∃ z, Z k = z := ⟨_, rfl⟩
      rw [hz] at g0 n1 n2 n3 n4 n5
      have HE : Hid (Z k = z) := hz
      clear hz
      have q1 : (z == 34) = false := by simpa using n1
      have q2 : (z == 92) = false := by simpa using n2
      have q3 : (z == 9) = false := by simpa using n3
      have q4 : (z == 10) = false := by simpa using n4
      have q5 : (z == 13) = false := by simpa using n5
      have hsz := HB.out.size
      clear n1 n2 n3 n4 n5
      go_wp2_with (at_builtin; refine wpList_append_own _ rfl _ _ 22 rfl w.heap.size 5 i0 (.int .u8 0) 1 1 Try.underlying22 hi hz0 hz1 hz2 rfl (by decide) _ _ _ rfl (HO.out.alloc _) ⟨wr.heap.size, 0, none⟩ 1 1 [.int .u8 z] rfl rfl (cell_one_new _ _ _) (ints_oneCell .u8 [z]) (by unfold maxLen; omega) (by omega) (by simp; omega) ?_; intro v' w1 hown' hgrow hnil)
      have HO2 : Hid (w1.ownsRow w.heap.size 5 1 v' (k + 1 + 1) (Got Z (k + 1))) := by
        show w1.ownsRow _ _ _ _ _ _
        rw [Got_succ, HE.out]; exact hown'
      have HB2 : Hid (Below w.heap.size w w1) := below_app HB.out HO.out hgrow
      clear hown' hgrow hnil
      go_roundw
      case rel => exact ⟨k + 1, by omega, by go_num, HO2, HB2⟩
      case measure => simp [intOf]; omega
    · obtain rfl : k = len := by omega
      have hsz := HB.out.size
      go_wp2_with (at_builtin; refine wpList_append_own _ rfl _ _ 22 rfl w.heap.size 5 i0 (.int .u8 0) 1 1 Try.underlying22 hi hz0 hz1 hz2 rfl (by decide) _ _ _ rfl (HO.out.alloc _) ⟨wr.heap.size, 0, none⟩ 1 1 [.int .u8 34] rfl rfl (cell_one_new _ _ _) (ints_oneCell .u8 [34]) (by unfold maxLen; omega) (by omega) (by simp; omega) ?_; intro v' w1 hown' hgrow hnil; have HB2 : Hid (Below w.heap.size w w1) := below_app HB.out HO.out hgrow; have HO2 : Hid (w1.ownsRow w.heap.size 5 1 v' (k + 1 + 1) (Got Z k ++ [.int .u8 34])) := hown'; clear hown' hgrow hnil)
      go_ret
      exact Quoted.mk HO2.out HB2.out

set_option maxHeartbeats 800000 in
theorem equal_any (a a' : Option Addr) (len cap cap' : Nat) (Z : Nat → Int) (w : World) (hl : len ≤ 1048576) (hZ : Bytes w a len Z) (hZ' : Bytes w a' len Z) :
    Calls Try.prog 14 #[.slice a len cap, .slice a' len cap'] w fun e w' => e = .returned (.bool true) ∧ Below w.heap.size w w' := by
  go_enter Try.func14, Try.ntmps14
  go_wp2
  go_loopw [5] (fun i wr => ∃ k : Nat, k ≤ len ∧ i = .int .i64 k ∧ Hid (∀ p, wr.cell? p = w.cell? p) ∧ Hid (Below w.heap.size w wr)) (fun i _ => len - (intOf i).toNat)
  case atStart => exact ⟨0, Nat.zero_le _, rfl, (fun _ => rfl), Below.refl _ _⟩
  case round =>
    obtain ⟨k, hk, rfl, HC, HB⟩ := hrel
    by_cases hlt : k < len
    · obtain ⟨b, off, e, hc⟩ := hZ (by omega)
      subst e
      obtain ⟨b', off', e, hc'⟩ := hZ' (by omega)
      subst e
      have g0 : wr.cell? ⟨b, off + k, none⟩ = some (.int .u8 (Z k)) := by rw [HC.out]; exact hc k hlt
      have g1 : wr.cell? ⟨b', off' + k, none⟩ = some (.int .u8 (Z k)) := by rw [HC.out]; exact hc' k hlt
      have hcz : (k : Int) < (len : Int) := by omega
      clear hc hc' hZ hZ'
      go_wp2
      go_quiet (fail)
      go_wp2
      go_roundw
      case rel => exact ⟨k + 1, by omega, by go_num, (fun p => (World.cell?_drewN wr nq p).trans (HC.out p)), HB.out.trans ⟨rfl, rfl, rfl, Nat.le_refl _, fun _ _ => rfl⟩⟩
      case measure => simp [intOf]; omega
    · go_wp2
      go_ret
      exact ⟨rfl, HB.out⟩

theorem equal_at (a a' : Option Addr) (l len cap cap' : Nat) (Z : Nat → Int) (w : World) (h : l = len) (hl : len ≤ 1048576) (hZ : Bytes w a len Z) (hZ' : Bytes w a' len Z) :
    Calls Try.prog 14 #[.slice a l cap, .slice a' len cap'] w fun e w' => e = .returned (.bool true) ∧ Below w.heap.size w w' := by
  subst h
  exact equal_any a a' l cap cap' Z w hl hZ hZ'

theorem got_cells {w : World} {g len : Nat} {Z : Nat → Int} (h : ∀ j, j < len + 2 → w.cell? ⟨g, j, none⟩ = (Got Z len ++ [.int .u8 34])[j]?) :
    w.cell? ⟨g, 0, none⟩ = some (.int .u8 34) ∧ w.cell? ⟨g, len + 1, none⟩ = some (.int .u8 34) ∧ ∀ i, i < len → w.cell? ⟨g, 1 + i, none⟩ = some (.int .u8 (Z i)) := by
  refine ⟨by rw [h 0 (by omega)]; simp [Got], ?_, fun i hi => ?_⟩
  · rw [h (len + 1) (by omega), List.getElem?_append_right (by rw [Got_length]; omega), Got_length]
    simp
  · rw [h (1 + i) (by omega), List.getElem?_append_left (by rw [Got_length]; omega)]
    simp [Got, Nat.add_comm 1 i, hi]

set_option maxHeartbeats 800000 in
theorem token_walk (a : Option Addr) (len cap : Nat) (Z : Nat → Int) (w : World) (hl : len ≤ 1048576) (hnil : a = none → len = 0 ∧ cap = 0) (hZ : Bytes w a len Z) :
    Calls Try.prog 9 #[.slice a len cap] w fun e w' => e = .returned (.bool true) ∧ Below w.heap.size w w' := by
  go_enter Try.func9, Try.ntmps9
  go_wp2_with (first | (go_at_call 26; go_in) | (go_at_call 11; refine (clone_any _ _ _ Z _ hl hnil hZ).mono ?_; rintro e wc ⟨a', cap', rfl, hZc, hbc, hc1, hc2⟩; have HZc : Hid (Bytes wc a' len Z) := hZc; have HBc : Hid (Below w.heap.size w wc) := hbc; clear hZc hbc hZ) | (go_at_call 25; go_in) | (go_at_call 30; refine (token_any _ _ _ Z _ hl HZc.out).mono ?_; rintro e w2 ⟨r, rfl, rfl, hr⟩; have HR : Hid (r = true → AllBare len Z) := hr; clear hr; cases r))
  · go_ret
    exact ⟨rfl, HBc.out⟩
  · have hA : AllBare len Z := HR.out (by trivial)
    go_wp2_with (go_at_call 12; go_in)
    refine (quote_any _ _ _ Z _ hl HZc.out hA).mono ?_
    rintro e w3 ⟨g, cq, rfl, hq1, hq2, hq3, hq4⟩
    obtain ⟨k0, kl, km⟩ := got_cells hq3
    have HM : Hid (∀ i, i < len → w3.cell? ⟨g, 1 + i, none⟩ = some (.int .u8 (Z i))) := km
    have HQ : Hid (Below w2.heap.size w2 w3) := hq4
    have hne1 : ¬ cq = 1 := by omega
    clear hq3 km hq4 hA
    go_wp2_with fail
    have hC := HBc.out
    have hs2 := hC.size
    have hQ := HQ.out
    refine (equal_at _ _ _ _ _ _ Z _ (by omega) hl (fun _ => ⟨g, 1, rfl, HM.out⟩) ?_).mono ?_
    · intro hp
      obtain ⟨b, off, e, hc⟩ := HZc.out hp
      exact ⟨b, off, e, fun i hi => by rw [hQ.cell (p := ⟨b, off + i, none⟩) (World.block_lt_of_cell? _ _ (hc i hi))]; exact hc i hi⟩
    · rintro e w4 ⟨rfl, h4⟩
      have hs3 := hQ.size
      have hfin : Hid (Below w.heap.size w w4) := (hC.trans (hQ.mono hs2)).trans (h4.mono (by omega))
      clear h4 hC hQ
      go_wp2
      go_ret
      exact ⟨rfl, hfin.out⟩

end Go.Proofs.Qxb6002704a
