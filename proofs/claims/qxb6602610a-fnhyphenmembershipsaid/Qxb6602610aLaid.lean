/-
  zzBytes_FnHyphenMembership: it tells a Bool, and turns nothing that was there.
-/
import Derived.Test.Qxb6602610aBytes
namespace Go.Proofs.Qxb6602610a
open Go.RowKit Go.Deep Plain

/-- A Bool is told; nothing that was there has turned. -/
def Says (w : World) : Ending → World → Prop := fun e w' => Below w.heap.size w w' ∧ ∃ r : Bool, e = .returned (.bool r)
theorem Says.mk {w w' : World} (h : Below w.heap.size w w') (r : Bool) : Says w (.returned (.bool r)) w' := ⟨h, r, rfl⟩

abbrev partO (M m p : Int) (a : Option Addr) (N c : Nat) (b : ByteArray) (n : Int) (wc : Bool) : Obj := .cells #[.int .u64 M, .int .u64 m, .int .u64 p, .slice a N c, .string b, .int .i64 n, .bool wc] 25
abbrev verO (M m p : Int) (a : Option Addr) (N c : Nat) (b : ByteArray) : Obj := .cells #[.int .u64 M, .int .u64 m, .int .u64 p, .slice a N c, .string b] 27

theorem below3 (w : World) (o1 o2 o3 : Obj) : Below w.heap.size w (((w.alloc o1).alloc o2).alloc o3) :=
  (((Below.refl _ _).alloc (Nat.le_refl _) o1).alloc (by simp) o2).alloc (by simp; omega) o3

set_option maxHeartbeats 4000000 in
set_option maxRecDepth 100000 in
theorem zzbytes_any (fM fm fp : Int) (fa : Option Addr) (fN fc : Nat) (fb : ByteArray) (fn : Int) (fw : Bool) (tM tm tp : Int) (ta : Option Addr) (tN tc : Nat) (tb : ByteArray) (tn : Int) (tw : Bool) (xM xm xp : Int) (xa : Option Addr) (xN xc : Nat) (xb : ByteArray)
    (F T X : Nat → ByteArray) (w : World) (h1 : fN ≤ 9223372036854775807) (h2 : tN ≤ 9223372036854775807) (h3 : xN ≤ 9223372036854775807) (hF : Strs w fa fN F) (hT : Strs w ta tN T) (hX : Strs w xa xN X) (b1 : fb.size ≤ maxLen) (b2 : tb.size ≤ maxLen) (b3 : xb.size ≤ maxLen) :
    Calls Try.prog 4 #[part fM fm fp fa fN fc fb fn fw, part tM tm tp ta tN tc tb tn tw, ver xM xm xp xa xN xc xb] w (Says w) := by
  have hB := below3 w (partO fM fm fp fa fN fc fb fn fw) (partO tM tm tp ta tN tc tb tn tw) (verO xM xm xp xa xN xc xb)
  have HB := hide hB
  have HF := hide (hF.later hB)
  have HT := hide (hT.later hB)
  have HX := hide (hX.later hB)
  unfold maxLen at b1 b2 b3
  clear hF hT hX hB
  go_enter Try.func4, Try.ntmps4
  go_wp2
  all_goals first | (go_ret; exact Says.mk HB.out _) | skip
  go_loop [7, 8] (fun z i => ∃ (k : Nat) (t : Int), k ≤ fN ∧ i = .int .i64 k ∧ z = .int .i64 t ∧ 0 ≤ t ∧ t ≤ 1048576) (fun _ i => fN - (intOf i).toNat)
  case atStart => exact ⟨0, _, Nat.zero_le _, rfl, rfl, by omega, by omega⟩
  case round =>
    obtain ⟨k, t, hk, rfl, rfl, ht0, ht1⟩ := hrel
    by_cases hlt : k < fN
    · obtain ⟨b, off, e, hc⟩ := HF.out (by omega)
      subst e
      obtain ⟨c1, c3⟩ := hc k hlt
      clear hc
      unfold maxLen at c3
      have hkz : (k : Int) < (fN : Int) := by omega
      go_wp2
      · go_ret
        exact Says.mk HB.out _
      · go_ret
        exact Says.mk HB.out _
      · have hle : t + ↑(F k).size ≤ 1048576 := by assumption
        go_round
        case rel => exact ⟨k + 1, t + ↑(F k).size, by omega, by go_num, rfl, by omega, hle⟩
        case measure => simp [intOf]; omega
    · have hkz : ¬ (k : Int) < (fN : Int) := by omega
      clear HF
      go_wp2
      all_goals first | (go_ret; exact Says.mk HB.out _) | skip
      go_loop [7, 9] (fun z i => ∃ (k : Nat) (t : Int), k ≤ tN ∧ i = .int .i64 k ∧ z = .int .i64 t ∧ 0 ≤ t ∧ t ≤ 1048576) (fun _ i => tN - (intOf i).toNat)
      case atStart => exact ⟨0, _, Nat.zero_le _, rfl, rfl, by omega, by omega⟩
      case round =>
        obtain ⟨k, t, hk, rfl, rfl, ht0, ht1⟩ := hrel
        by_cases hlt : k < tN
        · obtain ⟨b, off, e, hc⟩ := HT.out (by omega)
          subst e
          obtain ⟨c1, c3⟩ := hc k hlt
          clear hc
          unfold maxLen at c3
          have hkz : (k : Int) < (tN : Int) := by omega
          go_wp2
          · go_ret
            exact Says.mk HB.out _
          · go_ret
            exact Says.mk HB.out _
          · have hle : t + ↑(T k).size ≤ 1048576 := by assumption
            go_round
            case rel => exact ⟨k + 1, t + ↑(T k).size, by omega, by go_num, rfl, by omega, hle⟩
            case measure => simp [intOf]; omega
        · have hkz : ¬ (k : Int) < (tN : Int) := by omega
          clear HT
          go_wp2
          all_goals first | (go_ret; exact Says.mk HB.out _) | skip
          go_loop [7, 10] (fun z i => ∃ (k : Nat) (t : Int), k ≤ xN ∧ i = .int .i64 k ∧ z = .int .i64 t ∧ 0 ≤ t ∧ t ≤ 1048576) (fun _ i => xN - (intOf i).toNat)
          case atStart => exact ⟨0, _, Nat.zero_le _, rfl, rfl, by omega, by omega⟩
          case round =>
            obtain ⟨k, t, hk, rfl, rfl, ht0, ht1⟩ := hrel
            by_cases hlt : k < xN
            · obtain ⟨b, off, e, hc⟩ := HX.out (by omega)
              subst e
              obtain ⟨c1, c3⟩ := hc k hlt
              clear hc
              unfold maxLen at c3
              have hkz : (k : Int) < (xN : Int) := by omega
              go_wp2
              · go_ret
                exact Says.mk HB.out _
              · go_ret
                exact Says.mk HB.out _
              · have hle : t + ↑(X k).size ≤ 1048576 := by assumption
                go_round
                case rel => exact ⟨k + 1, t + ↑(X k).size, by omega, by go_num, rfl, by omega, hle⟩
                case measure => simp [intOf]; omega
            · have hkz : ¬ (k : Int) < (xN : Int) := by omega
              clear HX
              go_wp2
              all_goals (go_ret; exact Says.mk HB.out _)

end Go.Proofs.Qxb6602610a
