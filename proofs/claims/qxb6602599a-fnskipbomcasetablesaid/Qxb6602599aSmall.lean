/-
  Contracts of the small functions on FnSkipBOMCaseTable's road: the copy of a byte slice, a byte of the mark, 'does it continue the mark', the stream's fields handed out.
-/
import Derived.Test.Qxb6602599aChecked
import Derived.WalkKit
import Derived.WalkSpells
import Derived.Below
import Derived.Deep.OwnRows
import Derived.Deep.LoopGhost
import Derived.Lib.SliceRun
import Derived.Deep.QuietTactic
import Derived.BigQuiet
namespace Go.Proofs.Qxb6602599a
open Go.RowKit Go.Deep

theorem hide {p : Prop} (h : p) : Hid p := h
theorem ret_bool {a b : Bool} (h : a = b) : Ending.returned (.bool a) = .returned (.bool b) := by rw [h]
theorem Try.info5 : (Try.prog.info? 5).map (fun i => (i.zero, i.size, i.bytes)) = some (some (.int .u8 0), 1, 1) := by kernel_rfl

/-- A slice of bytes of length len that reads as Z, its spare untold. -/
def Bytes (w : World) (ao : Option Addr) (len : Nat) (Z : Nat → Int) : Prop :=
  0 < len → ∃ b off, ao = some ⟨b, off, none⟩ ∧ ∀ i, i < len → w.cell? ⟨b, off + i, none⟩ = some (.int .u8 (Z i))

theorem Bytes.later {w w' : World} {ao : Option Addr} {len : Nat} {Z : Nat → Int} (h : Bytes w ao len Z) (hb : Below w.heap.size w w') : Bytes w' ao len Z := fun hp => by
  obtain ⟨b, off, e, hc⟩ := h hp
  exact ⟨b, off, e, fun i hi => by rw [hb.cell (p := ⟨b, off + i, none⟩) (World.block_lt_of_cell? _ _ (hc i hi))]; exact hc i hi⟩

theorem clone_nil (w : World) : Calls Try.prog 5 #[.slice none 0 0] w fun e w' => e = .returned (.slice none 0 0) ∧ w' = w := by
  have hn := fun (w : World) => Lib.run_eql_slice_nil (P := Try.prog) w 22 5 none 0 0 0 0 Try.underlying22
  go_enter Try.func5, Try.ntmps5
  go_wp2
  go_ret
  exact ⟨rfl, rfl⟩

/-- What the copy's loop has done behind i rounds. -/
structure Copied (w wr : World) (len i : Nat) (Z : Nat → Int) : Prop where
  below : Below w.heap.size w wr
  size : wr.heap.size = w.heap.size + 1
  row : wr.rowIs w.heap.size 5 len (fun j => .int .u8 (if j < i then Z j else 0))

theorem Copied.start (w : World) (len : Nat) (Z : Nat → Int) : Copied w (w.alloc (.cells (madeCells #[.int .u8 0] len) 5)) len 0 Z :=
  ⟨(Below.refl _ _).alloc (Nat.le_refl _) _, by simp, (World.rowIs_made w _ len 5).congr (fun j _ => by simp)⟩

theorem Copied.step {w wr : World} {len i : Nat} {Z : Nat → Int} (h : Copied w wr len i Z) : Copied w (wr.setCell ⟨w.heap.size, i, none⟩ (.int .u8 (Z i))) len (i + 1) Z :=
  ⟨h.below.setCell (Nat.le_refl _) _, by simp [h.size], (h.row.set i _).congr (fun j _ => by
    by_cases e : j = i
    · subst e; simp
    · rw [if_neg e]
      by_cases hlt : j < i
      · rw [if_pos hlt, if_pos (by omega)]
      · rw [if_neg hlt, if_neg (by omega)])⟩

set_option maxHeartbeats 400000 in
theorem clone_some (x : Addr) (len cap : Nat) (Z : Nat → Int) (w : World) (hl : len ≤ 1048576) (hZ : Bytes w (some x) len Z) :
    Calls Try.prog 5 #[.slice (some x) len cap] w fun e w' => e = .returned (.slice (some ⟨w.heap.size, 0, none⟩) len len) ∧ Copied w w' len len Z := by
  have hn := fun (w : World) => Lib.run_eql_slice_nil (P := Try.prog) w 22 5 (some x) len cap 0 0 Try.underlying22
  have hmk := run_make_row' (P := Try.prog) 22 5 (.int .u8 0) 1 Try.underlying22 Try.info5 rfl .i64 .i64 len (by omega) (by omega)
  go_enter Try.func5, Try.ntmps5
  go_wp2
  clear hmk hn
  go_loopg [4] len (fun g i wr => ∃ k : Nat, k ≤ len ∧ g = len - k ∧ i = .int .i64 k ∧ Copied w wr len k Z)
  case atStart => exact ⟨0, Nat.zero_le _, rfl, rfl, Copied.start w len Z⟩
  case round =>
    obtain ⟨k, hk, rfl, rfl, hO⟩ := hrel
    by_cases hlt : k < len
    · obtain ⟨b, off, hx, hc⟩ := hZ (by omega)
      cases hx
      have hcz : (k : Int) < (len : Int) := by omega
      have hb : b < w.heap.size := World.block_lt_of_cell? _ _ (hc k hlt)
      have g0 : wr.cell? ⟨b, off + k, none⟩ = some (.int .u8 (Z k)) := by rw [hO.below.cell (p := ⟨b, off + k, none⟩) hb]; exact hc k hlt
      have t4 : wr.cell? ⟨w.heap.size, k, none⟩ = some (.int .u8 0) := by simpa using hO.row.cell hlt
      have t5 : wr.frozen? ⟨w.heap.size, k, none⟩ = false := hO.row.frozen k
      go_wp2
      go_roundg (len - (k + 1))
      case measure => omega
      case rel => exact ⟨k + 1, by omega, rfl, by go_num, hO.step⟩
    · obtain rfl : k = len := by omega
      go_wp2
      go_ret
      exact ⟨rfl, hO⟩

/-- THE COPY, WHATEVER CAME IN. -/
theorem clone_any (a : Option Addr) (len cap : Nat) (Z : Nat → Int) (w : World) (hl : len ≤ 1048576) (hnil : a = none → len = 0 ∧ cap = 0) (hZ : Bytes w a len Z) :
    Calls Try.prog 5 #[.slice a len cap] w fun e w' => ∃ a' cap', e = .returned (.slice a' len cap') ∧ Bytes w' a' len Z ∧ Below w.heap.size w w' := by
  cases a with
  | none =>
    obtain ⟨rfl, rfl⟩ := hnil rfl
    exact (clone_nil w).mono fun e w' ⟨he, hw⟩ => ⟨none, 0, he, fun h => absurd h (Nat.lt_irrefl _), by rw [hw]; exact Below.refl _ _⟩
  | some x =>
    exact (clone_some x len cap Z w hl hZ).mono fun e w' ⟨he, hC⟩ => ⟨_, len, he, fun _ => ⟨_, 0, rfl, fun i hi => by rw [Nat.zero_add, hC.row.cell hi, if_pos hi]⟩, hC.below⟩

/-- The mark's bytes. -/
def mb (i : Nat) : Int := if i = 0 then 239 else if i = 1 then 187 else 191

theorem mark_any (i : Nat) (w : World) : Calls Try.prog 11 #[.int .i64 (i : Int)] w fun e w' => e = .returned (.int .u8 (mb i)) ∧ w' = w := by
  by_cases h0 : i = 0
  · subst h0
    go_enter Try.func11, Try.ntmps11
    go_wp2
    go_ret
    exact ⟨rfl, rfl⟩
  · have n0 : ((i : Int) == 0) = false := by simpa using h0
    by_cases h1 : i = 1
    · subst h1
      go_enter Try.func11, Try.ntmps11
      go_wp2
      go_ret
      exact ⟨rfl, rfl⟩
    · have n1 : ((i : Int) == 1) = false := by simp; omega
      have HM : Hid (mb i = 191) := by
        show mb i = 191
        unfold mb; rw [if_neg h0, if_neg h1]
      clear h0 h1
      go_enter Try.func11, Try.ntmps11
      go_wp2
      go_ret
      exact ⟨by rw [HM.out]; rfl, rfl⟩

theorem mark_sum (f i : Nat) (hf : f + i ≤ 3) (w : World) : Calls Try.prog 11 #[.int .i64 (IntKind.i64.wrap ((f : Int) + (i : Int)))] w fun e w' => e = .returned (.int .u8 (mb (f + i))) ∧ w' = w := by
  have h := mark_any (f + i) w
  rwa [show ((f + i : Nat) : Int) = IntKind.i64.wrap ((f : Int) + (i : Int)) from by rw [IntKind.wrap_i64]; omega] at h

/-- The first k bytes are the mark's from its f-th on. -/
def Cont (Z : Nat → Int) (f k : Nat) : Prop := ∀ i, i < k → Z i = mb (f + i)

/-- What zzContinuesMark tells where its arguments lie within their bounds. -/
def ContPost (w : World) (Z : Nat → Int) (f k : Nat) : Ending → World → Prop := fun e w' => ∃ r : Bool, e = .returned (.bool r) ∧ (r = true ↔ Cont Z f k) ∧ ∃ q, w' = w.drewN q

set_option maxHeartbeats 800000 in
theorem cont_any (a : Option Addr) (len cap f k : Nat) (Z : Nat → Int) (w : World) (hl : len ≤ 1048576) (hk : k ≤ len) (hf : f + k ≤ 3) (hZ : Bytes w a len Z) :
    Calls Try.prog 8 #[.slice a len cap, .int .i64 (f : Int), .int .i64 (k : Int)] w (ContPost w Z f k) := by
  have d1 : decide ((k : Int) < 0) = false := decide_eq_false (by omega)
  have d2 : decide (len < k) = false := decide_eq_false (by omega)
  have d3 : decide ((f : Int) < 0) = false := decide_eq_false (by omega)
  have d4 : decide (3 < (f : Int) + (k : Int)) = false := decide_eq_false (by omega)
  go_enter Try.func8, Try.ntmps8
  go_wp2
  go_loopw [7] (fun i wr => ∃ (j q : Nat), j ≤ k ∧ i = .int .i64 j ∧ Hid (Cont Z f j) ∧ Hid (wr = w.drewN q)) (fun i _ => k - (intOf i).toNat)
  case atStart => exact ⟨0, 0, Nat.zero_le _, rfl, (fun i hi => absurd hi (Nat.not_lt_zero _)), rfl⟩
  case round =>
    obtain ⟨j, q, hj, rfl, HC, HW⟩ := hrel
    by_cases hlt : j < k
    · obtain ⟨b, off, e, hc⟩ := hZ (by omega)
      subst e
      have hcj : wr.cell? ⟨b, off + j, none⟩ = some (.int .u8 (Z j)) := by rw [HW.out]; exact hc j (by omega)
      have hjz : (j : Int) < (len : Int) := by omega
      clear hc hZ
      obtain ⟨z, hz⟩ : ∃ z, Z j = z := ⟨_, rfl⟩
      rw [hz] at hcj
      have HZ := hide hz
      clear hz
      obtain ⟨m, hm⟩ : ∃ m, mb (f + j) = m := ⟨_, rfl⟩
      have hmk := fun w => mark_sum f j (by omega) w
      rw [hm] at hmk
      have HM := hide hm
      clear hm
      have HMK := hide hmk
      clear hmk
      go_wp2
      go_quiet ((go_at_call 11; exact Calls.quiet_of_same (HMK.out _)))
      go_wp2
      · go_ret
        have hne : z ≠ m := by
          have h : (z != m) = true := by assumption
          simpa using h
        exact ⟨false, rfl, ⟨(fun h => by cases h), fun h => absurd (HZ.out.symm.trans ((h j hlt).trans HM.out)) hne⟩, q + nq, by rw [HW.out]; exact World.drewN_drewN _ _ _⟩
      · have he : z = m := by
          have h : (z != m) = false := by assumption
          simpa using h
        have HC2 : Hid (Cont Z f (j + 1)) := fun i hi => by
          by_cases e : i = j
          · subst e; rw [HZ.out, HM.out, he]
          · exact HC.out i (by omega)
        clear he
        go_roundw
        case rel => exact ⟨j + 1, q + nq, by omega, by go_num, HC2, by show _ = _; rw [HW.out]; exact World.drewN_drewN _ _ _⟩
        case measure => simp [intOf]; omega
    · obtain rfl : j = k := by omega
      go_wp2
      go_ret
      exact ⟨true, rfl, ⟨fun _ => HC.out, fun _ => rfl⟩, q, HW.out⟩
/-- The stream's block: its fields as far as this road turns them. -/
abbrev Sblk (at_ : Int) (pend : Bool) (bom : Int) (begun : Bool) (line : Value) (size : Int) : Obj :=
  .cells #[.int .u8 at_, .bool pend, .int .i64 bom, .bool begun, .string ⟨#[]⟩, .string ⟨#[]⟩, .bool false, .bool false, line, .slice none 0 0, .slice none 0 0, .bool false, .int .i64 size] 35

/-- The stream lies in block g. -/
def Stream (w : World) (g : Nat) (at_ : Int) (pend : Bool) (bom : Int) (begun : Bool) (line : Value) (size : Int) : Prop := w.heap[g]? = some (Sblk at_ pend bom begun line size)

theorem stream_cells {w : World} {g : Nat} {at_ : Int} {pend : Bool} {bom : Int} {begun : Bool} {line : Value} {size : Int} (h : Stream w g at_ pend bom begun line size) :
    w.cell? ⟨g, 0, none⟩ = some (.int .u8 at_) ∧ w.cell? ⟨g, 1, none⟩ = some (.bool pend) ∧ w.cell? ⟨g, 2, none⟩ = some (.int .i64 bom) ∧ w.cell? ⟨g, 3, none⟩ = some (.bool begun) ∧
    w.cell? ⟨g, 4, none⟩ = some (.string ⟨#[]⟩) ∧ w.cell? ⟨g, 5, none⟩ = some (.string ⟨#[]⟩) ∧ w.cell? ⟨g, 6, none⟩ = some (.bool false) ∧ w.cell? ⟨g, 7, none⟩ = some (.bool false) ∧
    w.cell? ⟨g, 8, none⟩ = some line ∧ w.cell? ⟨g, 9, none⟩ = some (.slice none 0 0) ∧ w.cell? ⟨g, 10, none⟩ = some (.slice none 0 0) ∧ w.cell? ⟨g, 11, none⟩ = some (.bool false) ∧ w.cell? ⟨g, 12, none⟩ = some (.int .i64 size) := by
  have hc := fun j => cell_of_row w g j _ 35 _ h
  exact ⟨hc 0, hc 1, hc 2, hc 3, hc 4, hc 5, hc 6, hc 7, hc 8, hc 9, hc 10, hc 11, hc 12⟩

set_option maxHeartbeats 800000 in
theorem state_any (w : World) (g : Nat) (at_ : Int) (pend : Bool) (bom : Int) (begun : Bool) (la : Option Addr) (ll lc : Nat) (size : Int) (h : Stream w g at_ pend bom begun (.slice la ll lc) size) :
    Calls Try.prog 9 #[.pointer (some ⟨g, 0, none⟩)] w fun e w' => e = .returned (.tuple #[.int .u8 at_, .bool pend, .int .i64 bom, .bool begun, .string ⟨#[]⟩, .string ⟨#[]⟩, .bool false, .bool false, .slice la ll lc, .slice none 0 0, .slice none 0 0, .bool false, .int .i64 size]) ∧ ∃ q, w' = w.drewN q := by
  obtain ⟨c0, c1, c2, c3, c4, c5, c6, c7, c8, c9, c10, c11, c12⟩ := stream_cells h
  clear h
  go_enter Try.func9, Try.ntmps9
  go_wp2
  go_quiet (fail)
  go_wp2
  exact bodyPost_ret (v := .tuple #[.int .u8 at_, .bool pend, .int .i64 bom, .bool begun, .string ⟨#[]⟩, .string ⟨#[]⟩, .bool false, .bool false, .slice la ll lc, .slice none 0 0, .slice none 0 0, .bool false, .int .i64 size]) (by simp [results, Try.results9, go_sem]) rfl ⟨rfl, nq, rfl⟩

end Go.Proofs.Qxb6602599a
