/-
  CanonicalLen of a byte string without a display hint, and the walk of FnCanonicalLenGrowsByOneByte.
-/
import Derived.Test.Qxb6002704aSmall
import Derived.Deep.CutRange
import Derived.Deep.RegionWith
namespace Go.Proofs.Qxb6002704a
open Go.RowKit Go.Deep

set_option maxHeartbeats 400000 in
theorem canon_any (a : Option Addr) (len cap : Nat) (w : World) (hl : len < 10000000) :
    Calls Try.prog 21 #[.agg #[.slice a len cap, .slice none 0 0, .bool false, .slice none 0 0]] w fun e w' =>
      e = .returned (.int .i64 (Plain.digs len + 1 + len)) ∧ w' = w.alloc (.cells #[.slice a len cap, .slice none 0 0, .bool false, .slice none 0 0] 34) := by
  have hn := fun (w : World) => Lib.run_eql_slice_nil (P := Try.prog) w 32 34 none 0 0 0 0 Try.underlying32
  go_enter Try.func21, Try.ntmps21
  go_wp2_with (go_at_call 29; refine (verbatim_any _ _ _ _ hl).mono ?_; rintro e w' ⟨rfl, rfl⟩)
  go_ret
  exact ⟨rfl, rfl⟩

theorem diff_eq (k : Nat) (hl : k ≤ 1048576) :
    Value.int IntKind.i64 (IntKind.i64.wrap ((Plain.digs (k + 1) : Int) + 1 + ((k : Int) + 1) - ((Plain.digs k : Int) + 1 + (k : Int)))) = .int .i64 (if Plain.isPow (k + 1) then 2 else 1) := by
  have h := Plain.grows k hl
  congr 1
  cases hP : Plain.isPow (k + 1)
  · rw [hP] at h
    simp only [Bool.false_eq_true, if_false, Nat.add_zero] at h ⊢
    rw [h, show ((Plain.digs k : Int) + 1 + ((k : Int) + 1) - ((Plain.digs k : Int) + 1 + (k : Int))) = 1 from by omega]
    rfl
  · rw [hP] at h
    simp only [if_true] at h ⊢
    rw [h, show (((Plain.digs k + 1 : Nat) : Int) + 1 + ((k : Int) + 1) - ((Plain.digs k : Int) + 1 + (k : Int))) = 2 from by omega]
    rfl

theorem below_two {w W : World} (h : Below w.heap.size w W) (o1 o2 : Obj) : Below w.heap.size w ((W.alloc o1).alloc o2).drew := by
  have := h.size
  exact ((h.alloc this o1).alloc (by simp; omega) o2).drew

/-- What the loop that fills 'longer' has done behind i rounds. -/
structure Filled (wc wr : World) (len i : Nat) (Z : Nat → Int) : Prop where
  below : Below wc.heap.size wc wr
  size : wr.heap.size = wc.heap.size + 1
  row : wr.rowIs wc.heap.size 5 (len + 1) (fun j => .int .u8 (if j < i then Z j else 0))

theorem Filled.start (w : World) (len : Nat) (Z : Nat → Int) : Filled w (w.alloc (.cells (madeCells #[.int .u8 0] (len + 1)) 5)) len 0 Z :=
  ⟨(Below.refl _ _).alloc (Nat.le_refl _) _, by simp, (World.rowIs_made w _ (len + 1) 5).congr (fun j _ => by simp)⟩

theorem Filled.step {w wr : World} {len i : Nat} {Z : Nat → Int} (h : Filled w wr len i Z) : Filled w (wr.setCell ⟨w.heap.size, i, none⟩ (.int .u8 (Z i))) len (i + 1) Z :=
  ⟨h.below.setCell (Nat.le_refl _) _, by simp [h.size], (h.row.set i _).congr (fun j _ => by
    by_cases e : j = i
    · subst e; simp
    · rw [if_neg e]
      by_cases hlt : j < i
      · rw [if_pos hlt, if_pos (by omega)]
      · rw [if_neg hlt, if_neg (by omega)])⟩

set_option maxHeartbeats 1000000 in
theorem grows_walk (a : Option Addr) (len cap : Nat) (Z : Nat → Int) (c : Int) (w : World) (hl : len ≤ 1048576) (hnil : a = none → len = 0 ∧ cap = 0) (hZ : Bytes w a len Z) :
    Calls Try.prog 7 #[.slice a len cap, .int .u8 c] w fun e w' => e = .returned (.bool true) ∧ Below w.heap.size w w' := by
  have hmk := run_make_row' (P := Try.prog) 22 5 (.int .u8 0) 1 Try.underlying22 Try.info5 rfl .i64 .i64 (len + 1) (by omega) (by omega)
  have ec : ((len + 1 : Nat) : Int) = (len : Int) + 1 := by omega
  rw [ec] at hmk
  clear ec
  go_enter Try.func7, Try.ntmps7
  go_wp2_with (first | (go_at_call 11; refine (clone_any _ _ _ Z _ hl hnil hZ).mono ?_; rintro e wc ⟨a', cap', rfl, hZc, hbc, hc1, hc2⟩) | (go_at_call 22; go_in))
  clear hmk hZ hnil
  go_loopg [6] len (fun g i wr => ∃ k : Nat, k ≤ len ∧ g = len - k ∧ i = .int .i64 k ∧ Filled wc wr len k Z)
  case atStart => exact ⟨0, Nat.zero_le _, rfl, rfl, Filled.start wc len Z⟩
  case round =>
    obtain ⟨k, hk, rfl, rfl, hO⟩ := hrel
    by_cases hlt : k < len
    · obtain ⟨b, off, hx, hc⟩ := hZc (by omega)
      cases hx
      have hcz : (k : Int) < (len : Int) := by omega
      have hb : b < wc.heap.size := World.block_lt_of_cell? _ _ (hc k hlt)
      have g0 : wr.cell? ⟨b, off + k, none⟩ = some (.int .u8 (Z k)) := by rw [hO.below.cell (p := ⟨b, off + k, none⟩) hb]; exact hc k hlt
      have t4 : wr.cell? ⟨wc.heap.size, k, none⟩ = some (.int .u8 0) := by simpa using hO.row.cell (i := k) (by omega)
      have t5 : wr.frozen? ⟨wc.heap.size, k, none⟩ = false := hO.row.frozen k
      go_wp2
      go_roundg (len - (k + 1))
      case measure => omega
      case rel => exact ⟨k + 1, by omega, rfl, by go_num, hO.step⟩
    · obtain rfl : k = len := by omega
      have t4 : wr.cell? ⟨wc.heap.size, k, none⟩ = some (.int .u8 0) := by simpa using hO.row.cell (i := k) (by omega)
      have t5 : wr.frozen? ⟨wc.heap.size, k, none⟩ = false := hO.row.frozen k
      go_upto_region 14 with fail
      have hB : Below w.heap.size w (((wr.setCell ⟨wc.heap.size, k, none⟩ (.int .u8 c)).alloc (.cells #[.slice a' k cap', .slice none 0 0, .bool false, .slice none 0 0] 34)).alloc (.cells #[.slice (some ⟨wc.heap.size, 0, none⟩) (k + 1) (k + 1), .slice none 0 0, .bool false, .slice none 0 0] 34)) := by
        have h1 := hbc.size
        have h2 := hO.size
        exact (((hbc.trans (hO.below.mono h1)).setCell h1 _).alloc (by simp; omega) _).alloc (by simp; omega) _
      go_cut [9] from 45 to 49 (fun s9 wx => s9 = .int .i64 (if Plain.isPow (k + 1) then 2 else 1) ∧ Below w.heap.size w wx)
      case first =>
        go_region_with (go_at_call 21; refine (canon_any _ _ _ _ (by omega)).mono ?_; rintro e w' ⟨rfl, rfl⟩)
        all_goals (go_wp2_with fail; go_meet)
        all_goals exact ⟨diff_eq k hl, below_two hB _ _⟩
      case rest =>
        obtain ⟨rfl, hBc⟩ := hcut
        clear hB hO t4 t5 hbc hZc
        cases hP : Plain.isPow (k + 1)
        · go_wp2_with (go_at_call 23; refine (pow_succ_any _ _ (by omega)).mono ?_; rintro e w' ⟨rfl, rfl⟩)
          go_ret
          exact ⟨rfl, hBc⟩
        · go_wp2_with (go_at_call 23; refine (pow_succ_any _ _ (by omega)).mono ?_; rintro e w' ⟨rfl, rfl⟩)
          go_ret
          exact ⟨rfl, hBc⟩
end Go.Proofs.Qxb6002704a
