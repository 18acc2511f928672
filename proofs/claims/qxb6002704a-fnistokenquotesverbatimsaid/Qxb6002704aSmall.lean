/-
  The contracts of the small functions on the two roads of this seat: verbatimLen, the powers of ten, the copy of a byte slice, CanonicalLen of a byte string.
-/
import Derived.Test.Qxb6002704aChecked
import Derived.Test.Qxb6002704aPlain
import Derived.WalkKit
import Derived.WalkSpells
import Derived.Below
import Derived.Deep.OwnRows
import Derived.Deep.LoopGhost
import Derived.Lib.SliceRun
namespace Go.Proofs.Qxb6002704a
open Go.RowKit Go.Deep

theorem ret_int {k : IntKind} {a b : Int} (h : a = b) : Ending.returned (.int k a) = .returned (.int k b) := by rw [h]
theorem ret_bool {a b : Bool} (h : a = b) : Ending.returned (.bool a) = .returned (.bool b) := by rw [h]

set_option maxHeartbeats 400000 in
theorem verbatim_any (a : Option Addr) (len cap : Nat) (w : World) (hl : len < 10000000) :
    Calls Try.prog 29 #[.slice a len cap] w fun e w' => e = .returned (.int .i64 (Plain.digs len + 1 + len)) ∧ w' = w := by
  go_enter Try.func29, Try.ntmps29
  go_wp2
  go_loop [3, 4] (fun d n => ∃ i k : Nat, d = .int .i64 i ∧ n = .int .i64 k ∧ Plain.DigRel len i k) (fun _ n => (intOf n).toNat)
  case atStart => exact ⟨1, len, rfl, rfl, Plain.DigRel.start len⟩
  case round =>
    obtain ⟨i, k, rfl, rfl, hr⟩ := hrel
    have hb := hr.bound
    obtain ⟨hb1, hb2, hb3⟩ := hb
    by_cases hk : 10 ≤ k
    · have hs := hr.step hl hk
      clear hr
      go_wp2
      go_round
      case rel => exact ⟨i + 1, k / 10, by go_num, by go_num, hs⟩
      case measure => simp [intOf]; omega
    · have hd := hr.done hl (by omega)
      have HD : Hid (i = Plain.digs len) := hd
      clear hr hd
      go_wp2
      go_ret
      exact ⟨ret_int (by rw [HD.out]), rfl⟩

set_option maxHeartbeats 400000 in
theorem pow_any (m : Nat) (w : World) (hm : m < 10000000) :
    Calls Try.prog 23 #[.int .i64 m] w fun e w' => e = .returned (.bool (Plain.isPow m)) ∧ w' = w := by
  go_enter Try.func23, Try.ntmps23
  go_wp2
  go_loop [3] (fun p => ∃ i : Nat, p = .int .i64 i ∧ Plain.PowRel m i) (fun p => 10000000 - (intOf p).toNat)
  case atStart => exact ⟨10, rfl, Plain.PowRel.start m⟩
  case round =>
    obtain ⟨i, rfl, hr⟩ := hrel
    obtain ⟨hb1, hb2⟩ := hr.bound
    by_cases hk : i < m
    · have hs := hr.step hm hk
      clear hr
      go_wp2
      go_round
      case rel => exact ⟨i * 10, by go_num, hs⟩
      case measure => simp [intOf]; omega
    · have hd := hr.done hm (by omega)
      have HD : Hid ((i == m) = Plain.isPow m) := hd
      clear hr hd
      go_wp2
      go_ret
      exact ⟨ret_bool (by rw [← HD.out]; rw [Bool.eq_iff_iff]; simp; omega), rfl⟩

theorem pow_succ_any (m : Nat) (w : World) (hm : m + 1 < 10000000) :
    Calls Try.prog 23 #[.int .i64 ((m : Int) + 1)] w fun e w' => e = .returned (.bool (Plain.isPow (m + 1))) ∧ w' = w := by
  have h := pow_any (m + 1) w hm
  rwa [show ((m + 1 : Nat) : Int) = (m : Int) + 1 from by omega] at h

theorem Try.info5 : (Try.prog.info? 5).map (fun i => (i.zero, i.size, i.bytes)) = some (some (.int .u8 0), 1, 1) := by kernel_rfl

/-- A slice of bytes of length len that reads as Z, its spare untold. -/
def Bytes (w : World) (ao : Option Addr) (len : Nat) (Z : Nat → Int) : Prop :=
  0 < len → ∃ b off, ao = some ⟨b, off, none⟩ ∧ ∀ i, i < len → w.cell? ⟨b, off + i, none⟩ = some (.int .u8 (Z i))

theorem clone_nil (w : World) : Calls Try.prog 11 #[.slice none 0 0] w fun e w' => e = .returned (.slice none 0 0) ∧ w' = w := by
  have hn := fun (w : World) => Lib.run_eql_slice_nil (P := Try.prog) w 22 5 none 0 0 0 0 Try.underlying22
  go_enter Try.func11, Try.ntmps11
  go_wp2
  go_ret
  exact ⟨rfl, rfl⟩

/-- What the copy's loop has done behind i rounds. -/
structure Copied (w wr : World) (len i : Nat) (Z : Nat → Int) : Prop where
  below : Below w.heap.size w wr
  size : wr.heap.size = w.heap.size + 1
  row : wr.rowIs w.heap.size 5 len (fun j => .int .u8 (if j < i then Z j else 0))

theorem Copied.start (w : World) (len : Nat) (Z : Nat → Int) : Copied w (w.alloc (.cells (madeCells #[.int .u8 0] len) 5)) len 0 Z :=
  ⟨(Below.refl _ _).alloc (Nat.le_refl _) _, by simp, (World.rowIs_made w _ len 5).congr (fun j _ => by simp)⟩

theorem Copied.step {w wr : World} {len i : Nat} {Z : Nat → Int} (h : Copied w wr len i Z) : Copied w (wr.setCell ⟨w.heap.size, i, none⟩ (.int .u8 (Z i))) len (i + 1) Z :=
  ⟨h.below.setCell (Nat.le_refl _) _, by simp [h.size], (h.row.set i _).congr (fun j _ => by
    by_cases e : j = i
    · subst e; simp
    · rw [if_neg e]
      by_cases hlt : j < i
      · rw [if_pos hlt, if_pos (by omega)]
      · rw [if_neg hlt, if_neg (by omega)])⟩

set_option maxHeartbeats 400000 in
theorem clone_some (x : Addr) (len cap : Nat) (Z : Nat → Int) (w : World) (hl : len ≤ 1048576) (hZ : Bytes w (some x) len Z) :
    Calls Try.prog 11 #[.slice (some x) len cap] w fun e w' => e = .returned (.slice (some ⟨w.heap.size, 0, none⟩) len len) ∧ Copied w w' len len Z := by
  have hn := fun (w : World) => Lib.run_eql_slice_nil (P := Try.prog) w 22 5 (some x) len cap 0 0 Try.underlying22
  have hmk := run_make_row' (P := Try.prog) 22 5 (.int .u8 0) 1 Try.underlying22 Try.info5 rfl .i64 .i64 len (by omega) (by omega)
  go_enter Try.func11, Try.ntmps11
  go_wp2
  clear hmk hn
  go_loopg [4] len (fun g i wr => ∃ k : Nat, k ≤ len ∧ g = len - k ∧ i = .int .i64 k ∧ Copied w wr len k Z)
  case atStart => exact ⟨0, Nat.zero_le _, rfl, rfl, Copied.start w len Z⟩
  case round =>
    obtain ⟨k, hk, rfl, rfl, hO⟩ := hrel
    by_cases hlt : k < len
    · obtain ⟨b, off, hx, hc⟩ := hZ (by omega)
      cases hx
      have hcz : (k : Int) < (len : Int) := by omega
      have hb : b < w.heap.size := World.block_lt_of_cell? _ _ (hc k hlt)
      have g0 : wr.cell? ⟨b, off + k, none⟩ = some (.int .u8 (Z k)) := by rw [hO.below.cell (p := ⟨b, off + k, none⟩) hb]; exact hc k hlt
      have t4 : wr.cell? ⟨w.heap.size, k, none⟩ = some (.int .u8 0) := by simpa using hO.row.cell hlt
      have t5 : wr.frozen? ⟨w.heap.size, k, none⟩ = false := hO.row.frozen k
      go_wp2
      go_roundg (len - (k + 1))
      case measure => omega
      case rel => exact ⟨k + 1, by omega, rfl, by go_num, hO.step⟩
    · obtain rfl : k = len := by omega
      go_wp2
      go_ret
      exact ⟨rfl, hO⟩

/-- THE COPY, WHATEVER CAME IN: a nil slice or another: as long as it was, the same bytes; nothing that was there has turned. -/
theorem clone_any (a : Option Addr) (len cap : Nat) (Z : Nat → Int) (w : World) (hl : len ≤ 1048576) (hnil : a = none → len = 0 ∧ cap = 0) (hZ : Bytes w a len Z) :
    Calls Try.prog 11 #[.slice a len cap] w fun e w' => ∃ a' cap', e = .returned (.slice a' len cap') ∧ Bytes w' a' len Z ∧ Below w.heap.size w w' ∧ len ≤ cap' ∧ cap' ≤ 1048576 := by
  cases a with
  | none =>
    obtain ⟨rfl, rfl⟩ := hnil rfl
    exact (clone_nil w).mono fun e w' ⟨he, hw⟩ => ⟨none, 0, he, fun h => absurd h (Nat.lt_irrefl _), by rw [hw]; exact Below.refl _ _, Nat.le_refl _, by omega⟩
  | some x =>
    exact (clone_some x len cap Z w hl hZ).mono fun e w' ⟨he, hC⟩ => ⟨_, len, he, fun _ => ⟨_, 0, rfl, fun i hi => by rw [Nat.zero_add, hC.row.cell hi, if_pos hi]⟩, hC.below, Nat.le_refl _, hl⟩

end Go.Proofs.Qxb6002704a
