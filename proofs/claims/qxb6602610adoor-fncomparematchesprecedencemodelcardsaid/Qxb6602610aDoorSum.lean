/-
  zzPreBytes once more, with what it tells of each string; zzBytes of FnCompareMatchesPrecedenceModel: it says a Bool and only reads.
-/
import Derived.Test.Qxb6602610aDoorParse
namespace Go.Proofs.Qxb6602610aDoor
open Go.RowKit Plain

/-- Every string of the list is short. -/
def Short (N : Nat) (f : Nat → ByteArray) : Prop := ∀ i, i < N → (f i).size ≤ 1048576

def StrPost (w : World) (N : Nat) (f : Nat → ByteArray) : Ending → World → Prop := fun e w' => w = w' ∧ ∃ r : Int, e = .returned (.int .i64 r) ∧ 0 ≤ r ∧ r ≤ 2097152 ∧ (r ≤ 1048576 → N ≤ 65536 ∧ Short N f)

set_option maxHeartbeats 400000 in
theorem preBytes_str (a : Option Addr) (N cap : Nat) (f : Nat → ByteArray) (w : World) (hN : N ≤ 9223372036854775807) (hA : Strs w a N f) : Calls Tryd.prog 9 #[.slice a N cap] w (StrPost w N f) := by
  by_cases hb : N ≤ 65536
  · go_enter Tryd.func9, Tryd.ntmps9
    go_wp2
    go_loop [3, 4] (fun z i => ∃ (k : Nat) (t : Int), k ≤ N ∧ i = .int .i64 k ∧ z = .int .i64 t ∧ 0 ≤ t ∧ t ≤ 1048576 ∧ Hid (Short k f)) (fun _ i => N - (intOf i).toNat)
    case atStart => exact ⟨0, _, Nat.zero_le _, rfl, rfl, by omega, by omega, fun i hi => absurd hi (Nat.not_lt_zero _)⟩
    case round =>
      obtain ⟨k, t, hk, rfl, rfl, ht0, ht1, HS⟩ := hrel
      by_cases hlt : k < N
      · obtain ⟨b, off, e, hc⟩ := hA (by omega)
        subst e
        obtain ⟨c1, c3⟩ := hc k hlt
        clear hc hA
        unfold maxLen at c3
        have hkz : (k : Int) < (N : Int) := by omega
        go_wp2
        · go_ret
          exact ⟨rfl, _, rfl, by omega, by omega, fun h => by omega⟩
        · go_ret
          exact ⟨rfl, _, rfl, by omega, by omega, fun h => by omega⟩
        · have hle : t + ↑(f k).size ≤ 1048576 := by assumption
          go_round
          case rel => exact ⟨k + 1, t + ↑(f k).size, by omega, by go_num, rfl, by omega, hle, fun i hi => by
            rcases Nat.lt_succ_iff_lt_or_eq.1 hi with h | h
            · exact HS.out i h
            · subst h; omega⟩
          case measure => simp [intOf]; omega
      · obtain rfl : k = N := by omega
        go_wp2
        go_ret
        exact ⟨rfl, _, rfl, by omega, by omega, fun _ => ⟨hb, HS.out⟩⟩
  · have hb2 : (65536 : Int) < (N : Int) := by omega
    clear hA
    go_enter Tryd.func9, Tryd.ntmps9
    go_wp2
    go_ret
    exact ⟨rfl, _, rfl, by omega, by omega, fun h => by omega⟩

/-- A Bool is told; the world is as it was. -/
def Tests (w : World) : Ending → World → Prop := fun e w' => w = w' ∧ ∃ r : Bool, e = .returned (.bool r)
theorem Tests.mk (w : World) (r : Bool) : Tests w (.returned (.bool r)) w := ⟨rfl, r, rfl⟩

set_option maxHeartbeats 4000000 in
set_option maxRecDepth 100000 in
theorem zzbytes8_any (v1 v2 v3 : Int) (va : Option Addr) (vN vc : Nat) (vb : ByteArray) (w1 w2 w3 : Int) (wa : Option Addr) (wN wc : Nat) (wb : ByteArray) (V W : Nat → ByteArray) (w : World)
    (h1 : vN ≤ 9223372036854775807) (h2 : wN ≤ 9223372036854775807) (hV : Strs w va vN V) (hW : Strs w wa wN W) (b1 : vb.size ≤ maxLen) (b2 : wb.size ≤ maxLen) :
    Calls Tryd.prog 8 #[.int .u64 v1, .int .u64 v2, .int .u64 v3, .slice va vN vc, .string vb, .int .u64 w1, .int .u64 w2, .int .u64 w3, .slice wa wN wc, .string wb] w (Tests w) := by
  have HV := hide hV
  have HW := hide hW
  unfold maxLen at b1 b2
  clear hV hW
  go_enter Tryd.func8, Tryd.ntmps8
  go_wp2
  all_goals first | (go_ret; exact Tests.mk _ _) | skip
  go_loop [21, 22] (fun z i => ∃ (k : Nat) (t : Int), k ≤ vN ∧ i = .int .i64 k ∧ z = .int .i64 t ∧ 0 ≤ t ∧ t ≤ 1048576) (fun _ i => vN - (intOf i).toNat)
  case atStart => exact ⟨0, _, Nat.zero_le _, rfl, rfl, by omega, by omega⟩
  case round =>
    obtain ⟨k, t, hk, rfl, rfl, ht0, ht1⟩ := hrel
    by_cases hlt : k < vN
    · obtain ⟨b, off, e, hc⟩ := HV.out (by omega)
      subst e
      obtain ⟨c1, c3⟩ := hc k hlt
      clear hc
      unfold maxLen at c3
      have hkz : (k : Int) < (vN : Int) := by omega
      go_wp2
      · go_ret
        exact Tests.mk _ _
      · go_ret
        exact Tests.mk _ _
      · have hle : t + ↑(V k).size ≤ 1048576 := by assumption
        go_round
        case rel => exact ⟨k + 1, t + ↑(V k).size, by omega, by go_num, rfl, by omega, hle⟩
        case measure => simp [intOf]; omega
    · have hkz : ¬ (k : Int) < (vN : Int) := by omega
      clear HV
      go_wp2
      all_goals first | (go_ret; exact Tests.mk _ _) | skip
      go_loop [21, 23] (fun z i => ∃ (k : Nat) (t : Int), k ≤ wN ∧ i = .int .i64 k ∧ z = .int .i64 t ∧ 0 ≤ t ∧ t ≤ 1048576) (fun _ i => wN - (intOf i).toNat)
      case atStart => exact ⟨0, _, Nat.zero_le _, rfl, rfl, by omega, by omega⟩
      case round =>
        obtain ⟨k, t, hk, rfl, rfl, ht0, ht1⟩ := hrel
        by_cases hlt : k < wN
        · obtain ⟨b, off, e, hc⟩ := HW.out (by omega)
          subst e
          obtain ⟨c1, c3⟩ := hc k hlt
          clear hc
          unfold maxLen at c3
          have hkz : (k : Int) < (wN : Int) := by omega
          go_wp2
          · go_ret
            exact Tests.mk _ _
          · go_ret
            exact Tests.mk _ _
          · have hle : t + ↑(W k).size ≤ 1048576 := by assumption
            go_round
            case rel => exact ⟨k + 1, t + ↑(W k).size, by omega, by go_num, rfl, by omega, hle⟩
            case measure => simp [intOf]; omega
        · have hkz : ¬ (k : Int) < (wN : Int) := by omega
          clear HW
          go_wp2
          all_goals (go_ret; exact Tests.mk _ _)

end Go.Proofs.Qxb6602610aDoor
