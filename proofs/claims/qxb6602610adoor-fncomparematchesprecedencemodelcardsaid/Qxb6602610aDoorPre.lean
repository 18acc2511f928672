/-
  Contracts of zzIdentModel, zzPreKind, zzPreModel, zzCompareModel, zzCloneStrs, zzPreBytes, zzStrBytes.
-/
import Derived.Test.Qxb6602610aDoorSmall
import Derived.Deep.RegionWith
import Derived.Deep.OwnRows
import Derived.Deep.LoopGhost
import Derived.Lib.SliceRun
namespace Go.Proofs.Qxb6602610aDoor
open Go.RowKit Go.Deep Plain

set_option maxHeartbeats 2000000 in
theorem ident_any (a b : ByteArray) (w : World) (ha : a.size ≤ maxLen) (hb : b.size ≤ maxLen) : Calls Tryd.prog 19 #[.string a, .string b] w (Gives (.int .i64 (ident a b)) w) := by
  obtain ⟨da, hda⟩ : ∃ x, allDig a = x := ⟨_, rfl⟩
  obtain ⟨fa, hfa⟩ : ∃ x, fits a = x := ⟨_, rfl⟩
  obtain ⟨db, hdb⟩ : ∃ x, allDig b = x := ⟨_, rfl⟩
  obtain ⟨fb, hfb⟩ : ∃ x, fits b = x := ⟨_, rfl⟩
  have HDa := hide (fun w => allDigits_any a w ha)
  have HDb := hide (fun w => allDigits_any b w hb)
  have HFa := hide (fun w => fits_any a w ha)
  have HFb := hide (fun w => fits_any b w hb)
  have HN := hide (fun w => numCmp_any a b w ha hb)
  have HC := hide (fun w => bytesCmp_any a b w ha hb)
  have HI : Hid (ident a b = if (da && fa) = true then (if (db && fb) = true then numCmp a b else -1) else if (db && fb) = true then 1 else cmpB a b) := by
    show _ = _
    unfold ident isNum
    rw [hda, hfa, hdb, hfb]
  rw [hda] at HDa
  rw [hdb] at HDb
  rw [hfa] at HFa
  rw [hfb] at HFb
  clear hda hfa hdb hfb ha hb
  cases da <;> cases fa <;> cases db <;> cases fb
  all_goals
    go_enter Tryd.func19, Tryd.ntmps19
    go_wp2_with (first
      | (go_at_call_of 24 (Value.string a); refine (HDa.out _).mono ?_; rintro e w' ⟨rfl, rfl⟩)
      | (go_at_call_of 24 (Value.string b); refine (HDb.out _).mono ?_; rintro e w' ⟨rfl, rfl⟩)
      | (go_at_call_of 25 (Value.string a); refine (HFa.out _).mono ?_; rintro e w' ⟨rfl, q, rfl⟩)
      | (go_at_call_of 25 (Value.string b); refine (HFb.out _).mono ?_; rintro e w' ⟨rfl, q2, rfl⟩)
      | (go_at_call 26; refine (HN.out _).mono ?_; rintro e w' ⟨rfl, q3, rfl⟩)
      | (go_at_call 27; refine (HC.out _).mono ?_; rintro e w' ⟨rfl, q4, rfl⟩))
    go_ret
    exact ⟨ret_int (by rw [HI.out]; rfl), _, rfl⟩

theorem kind_any (a : Option Addr) (N cap i : Nat) (w : World) (hN : N ≤ 1048576) (_hi : i ≤ 1048576) : Calls Tryd.prog 30 #[.slice a N cap, .int .i64 (i : Int)] w fun e w' => e = .returned (.int .i64 (kind N i)) ∧ w' = w := by
  by_cases h0 : N = 0
  · subst h0
    go_enter Tryd.func30, Tryd.ntmps30
    go_wp2
    go_ret
    exact ⟨rfl, rfl⟩
  · have hz : ((N : Int) == 0) = false := by simpa using h0
    by_cases h1 : i < N
    · have hl : (i : Int) < (N : Int) := by omega
      have HK : Hid (1 = kind N i) := by show _ = _; unfold kind; rw [if_neg h0, if_pos h1]
      clear h0 h1
      go_enter Tryd.func30, Tryd.ntmps30
      go_wp2
      go_ret
      exact ⟨ret_int HK.out, rfl⟩
    · have hl : ¬ (i : Int) < (N : Int) := by omega
      have HK : Hid (0 = kind N i) := by show _ = _; unfold kind; rw [if_neg h0, if_neg h1]
      clear h0 h1
      go_enter Tryd.func30, Tryd.ntmps30
      go_wp2
      go_ret
      exact ⟨ret_int HK.out, rfl⟩

/-- A slice of N strings that reads as nm, its spare untold. -/
def Strs (w : World) (ao : Option Addr) (N : Nat) (nm : Nat → ByteArray) : Prop :=
  0 < N → ∃ b off, ao = some ⟨b, off, none⟩ ∧ ∀ i, i < N → w.cell? ⟨b, off + i, none⟩ = some (.string (nm i)) ∧ (nm i).size ≤ maxLen

theorem Strs.later {w w' : World} {ao : Option Addr} {N : Nat} {nm : Nat → ByteArray} (h : Strs w ao N nm) (hb : Below w.heap.size w w') : Strs w' ao N nm := fun hp => by
  obtain ⟨b, off, e, hc⟩ := h hp
  exact ⟨b, off, e, fun i hi => ⟨by rw [hb.cell (p := ⟨b, off + i, none⟩) (World.block_lt_of_cell? _ _ (hc i hi).1)]; exact (hc i hi).1, (hc i hi).2⟩⟩

theorem kind_one {N i : Nat} (h : kind N i = 1) : i < N := by
  unfold kind at h
  split at h
  · cases h
  · split at h
    · assumption
    · cases h

theorem pre_sgn {N M : Nat} {f g : Nat → ByteArray} {k : Nat} (hk : k ≤ N) (h : preGo N M f g (N + 1 - k) k = preM N f M g) (hn : ¬ (kind N k = 1 ∧ kind M k = 1)) : sgn (kind N k) (kind M k) = preM N f M g := by
  rw [← h, show N + 1 - k = (N - k) + 1 from by omega, preGo, if_neg hn]

theorem pre_ident {N M : Nat} {f g : Nat → ByteArray} {k : Nat} (hk : k ≤ N) (h : preGo N M f g (N + 1 - k) k = preM N f M g) (hn : kind N k = 1 ∧ kind M k = 1) : (if ident (f k) (g k) = 0 then preGo N M f g (N + 1 - (k + 1)) (k + 1) else ident (f k) (g k)) = preM N f M g := by
  rw [← h, show N + 1 - k = (N - k) + 1 from by omega, preGo, if_pos hn, show N + 1 - (k + 1) = N - k from by omega]

set_option maxHeartbeats 4000000 in
theorem preModel_any (a b : Option Addr) (N M ca cb : Nat) (f g : Nat → ByteArray) (w : World) (hN : N ≤ 65536) (hM : M ≤ 65536) (hA : Strs w a N f) (hB : Strs w b M g) :
    Calls Tryd.prog 23 #[.slice a N ca, .slice b M cb] w (Gives (.int .i64 (preM N f M g)) w) := by
  have HA := hide hA
  have HB := hide hB
  clear hA hB
  go_enter Tryd.func23, Tryd.ntmps23
  go_wp2
  go_loopw [5] (fun i wr => ∃ (k q : Nat), k ≤ N ∧ i = .int .i64 k ∧ Hid (preGo N M f g (N + 1 - k) k = preM N f M g) ∧ Hid (wr = w.drewN q)) (fun i _ => N + 1 - (intOf i).toNat)
  case atStart => exact ⟨0, 0, Nat.zero_le _, rfl, rfl, rfl⟩
  case round =>
    obtain ⟨k, q, hk, rfl, HP, HW⟩ := hrel
    have hkz : (k : Int) ≤ (N : Int) := by omega
    have HKa := hide (fun w => kind_any a N ca k w (by omega) (by omega))
    have HKb := hide (fun w => kind_any b M cb k w (by omega) (by omega))
    by_cases h11 : kind N k = 1 ∧ kind M k = 1
    · obtain ⟨h1, h2⟩ := h11
      have l1 := kind_one h1
      have l2 := kind_one h2
      have HI := hide (pre_ident hk HP.out ⟨h1, h2⟩)
      rw [h1] at HKa
      rw [h2] at HKb
      clear h1 h2
      obtain ⟨ab, ao, e, hca⟩ := HA.out (by omega)
      subst e
      obtain ⟨bb, bo, e, hcb⟩ := HB.out (by omega)
      subst e
      have g0 : wr.cell? ⟨ab, ao + k, none⟩ = some (.string (f k)) := by rw [HW.out]; exact (hca k l1).1
      have g1 : wr.cell? ⟨bb, bo + k, none⟩ = some (.string (g k)) := by rw [HW.out]; exact (hcb k l2).1
      have m1 := (hca k l1).2
      have m2 := (hcb k l2).2
      have z1 : (k : Int) < (N : Int) := by omega
      have z2 : (k : Int) < (M : Int) := by omega
      clear hca hcb
      obtain ⟨c, hc⟩ : ∃ c, ident (f k) (g k) = c := ⟨_, rfl⟩
      have hid := fun w => ident_any (f k) (g k) w m1 m2
      rw [hc] at hid HI
      have HID := hide hid
      clear hc hid
      by_cases hc0 : c = 0
      · have HI0 := hide HI.out
        rw [if_pos hc0] at HI0
        subst hc0
        go_wp2_with fail
        refine (HKa.out _).mono ?_
        rintro e w' ⟨rfl, rfl⟩
        go_wp2_with fail
        refine (HKb.out _).mono ?_
        rintro e w' ⟨rfl, rfl⟩
        go_wp2_with fail
        go_quiet ((go_at_call 19; exact Calls.quiet_of (HID.out _)))
        go_wp2
        go_roundw
        case rel => exact ⟨k + 1, q + nq, by omega, by go_num, HI0, by show _ = _; rw [HW.out]; exact World.drewN_drewN _ _ _⟩
        case measure => simp [intOf]; omega
      · have HI0 := hide HI.out
        rw [if_neg hc0] at HI0
        have hcb : (c != 0) = true := by simpa using hc0
        clear hc0
        go_wp2_with fail
        refine (HKa.out _).mono ?_
        rintro e w' ⟨rfl, rfl⟩
        go_wp2_with fail
        refine (HKb.out _).mono ?_
        rintro e w' ⟨rfl, rfl⟩
        go_wp2_with fail
        go_quiet ((go_at_call 19; exact Calls.quiet_of (HID.out _)))
        go_wp2
        go_ret
        exact Gives.later (ret_int HI0.out) HW.out nq
    · have HS := hide (pre_sgn hk HP.out h11)
      have h12 := h11
      rcases kind_cases N k with h1 | h1 | h1 <;> rcases kind_cases M k with h2 | h2 | h2
      all_goals rw [h1] at HKa HS h12
      all_goals rw [h2] at HKb HS h12
      all_goals clear h1 h2 h11
      all_goals first | (exact absurd ⟨rfl, rfl⟩ h12) | skip
      all_goals clear h12
      all_goals
        go_wp2_with fail
        refine (HKa.out _).mono ?_
        rintro e w' ⟨rfl, rfl⟩
        go_wp2_with fail
        refine (HKb.out _).mono ?_
        rintro e w' ⟨rfl, rfl⟩
        go_wp2_with (go_at_call 31; refine (signInt_any _ _ _).mono ?_; rintro e w' ⟨rfl, rfl⟩)
        go_ret
        exact ⟨ret_int HS.out, q, HW.out⟩

theorem sgn_three (a b : Int) : sgn a b = -1 ∨ sgn a b = 0 ∨ sgn a b = 1 := by
  rcases sgn_cases a b with h | h | h
  · exact .inl h.2
  · exact .inr (.inl h.2)
  · exact .inr (.inr h.2)

theorem Gives.mono_eq {v v' : Value} {w : World} {e : Ending} {w' : World} (h : Gives v w e w') (hv : v = v') : Gives v' w e w' := by rw [← hv]; exact h

set_option maxHeartbeats 1000000 in
theorem compareModel_any (a1 a2 a3 b1 b2 b3 : Int) (a b : Option Addr) (N M ca cb : Nat) (f g : Nat → ByteArray) (w : World) (hN : N ≤ 65536) (hM : M ≤ 65536) (hA : Strs w a N f) (hB : Strs w b M g) :
    Calls Tryd.prog 13 #[.int .u64 a1, .int .u64 a2, .int .u64 a3, .slice a N ca, .int .u64 b1, .int .u64 b2, .int .u64 b3, .slice b M cb] w (Gives (.int .i64 (cmpM a1 a2 a3 N f b1 b2 b3 M g)) w) := by
  have s1 : sgn a1 b1 = -1 ∨ sgn a1 b1 = 0 ∨ sgn a1 b1 = 1 := sgn_three a1 b1
  have s2 : sgn a2 b2 = -1 ∨ sgn a2 b2 = 0 ∨ sgn a2 b2 = 1 := sgn_three a2 b2
  have s3 : sgn a3 b3 = -1 ∨ sgn a3 b3 = 0 ∨ sgn a3 b3 = 1 := sgn_three a3 b3
  have H1 := hide (fun w => signU_any a1 b1 w)
  have H2 := hide (fun w => signU_any a2 b2 w)
  have H3 := hide (fun w => signU_any a3 b3 w)
  have HP := hide (preModel_any a b N M ca cb f g w hN hM hA hB)
  have HC : Hid (cmpM a1 a2 a3 N f b1 b2 b3 M g = if sgn a1 b1 = 0 then (if sgn a2 b2 = 0 then (if sgn a3 b3 = 0 then preM N f M g else sgn a3 b3) else sgn a2 b2) else sgn a1 b1) := rfl
  clear hA hB
  rcases s1 with h1 | h1 | h1
  · rw [h1] at H1 HC
    clear h1 s2 s3
    go_enter Tryd.func13, Tryd.ntmps13
    go_wp2_with fail
    refine (H1.out _).mono ?_
    rintro e w' ⟨rfl, rfl⟩
    go_wp2
    go_ret
    exact ⟨ret_int (by rw [HC.out]; rfl), 0, rfl⟩
  · rcases s2 with h2 | h2 | h2
    · rw [h1] at H1 HC
      rw [h2] at H2 HC
      clear h1 h2 s3
      go_enter Tryd.func13, Tryd.ntmps13
      go_wp2_with fail
      refine (H1.out _).mono ?_
      rintro e w' ⟨rfl, rfl⟩
      go_wp2_with fail
      refine (H2.out _).mono ?_
      rintro e w' ⟨rfl, rfl⟩
      go_wp2
      go_ret
      exact ⟨ret_int (by rw [HC.out]; rfl), 0, rfl⟩
    · rcases s3 with h3 | h3 | h3
      all_goals
        rw [h1] at H1 HC
        rw [h2] at H2 HC
        rw [h3] at H3 HC
        clear h1 h2 h3
        go_enter Tryd.func13, Tryd.ntmps13
        go_wp2_with fail
        refine (H1.out _).mono ?_
        rintro e w' ⟨rfl, rfl⟩
        go_wp2_with fail
        refine (H2.out _).mono ?_
        rintro e w' ⟨rfl, rfl⟩
        go_wp2_with fail
        refine (H3.out _).mono ?_
        rintro e w' ⟨rfl, rfl⟩
        go_wp2_with (go_at_call 23; refine HP.out.mono ?_; rintro e w' ⟨rfl, q, rfl⟩)
        go_ret
        first | exact ⟨ret_int (by rw [HC.out]; rfl), 0, rfl⟩ | exact ⟨ret_int (by rw [HC.out]; rfl), q, rfl⟩
    · rw [h1] at H1 HC
      rw [h2] at H2 HC
      clear h1 h2 s3
      go_enter Tryd.func13, Tryd.ntmps13
      go_wp2_with fail
      refine (H1.out _).mono ?_
      rintro e w' ⟨rfl, rfl⟩
      go_wp2_with fail
      refine (H2.out _).mono ?_
      rintro e w' ⟨rfl, rfl⟩
      go_wp2
      go_ret
      exact ⟨ret_int (by rw [HC.out]; rfl), 0, rfl⟩
  · rw [h1] at H1 HC
    clear h1 s2 s3
    go_enter Tryd.func13, Tryd.ntmps13
    go_wp2_with fail
    refine (H1.out _).mono ?_
    rintro e w' ⟨rfl, rfl⟩
    go_wp2
    go_ret
    exact ⟨ret_int (by rw [HC.out]; rfl), 0, rfl⟩

/-! ### the copy of a list of strings -/
theorem Tryd.info9 : (Tryd.prog.info? 9).map (fun i => (i.zero, i.size, i.bytes)) = some (some (.string .empty), 1, 16) := by kernel_rfl

theorem clone_nil (w : World) : Calls Tryd.prog 11 #[.slice none 0 0] w fun e w' => e = .returned (.slice none 0 0) ∧ w' = w := by
  have hn := fun (w : World) => Lib.run_eql_slice_nil (P := Tryd.prog) w 23 9 none 0 0 0 0 Tryd.underlying23
  go_enter Tryd.func11, Tryd.ntmps11
  go_wp2
  go_ret
  exact ⟨rfl, rfl⟩

structure Copied (w wr : World) (len i : Nat) (Z : Nat → ByteArray) : Prop where
  below : Below w.heap.size w wr
  size : wr.heap.size = w.heap.size + 1
  row : wr.rowIs w.heap.size 9 len (fun j => .string (if j < i then Z j else .empty))

theorem Copied.start (w : World) (len : Nat) (Z : Nat → ByteArray) : Copied w (w.alloc (.cells (madeCells #[.string .empty] len) 9)) len 0 Z :=
  ⟨(Below.refl _ _).alloc (Nat.le_refl _) _, by simp, (World.rowIs_made w _ len 9).congr (fun j _ => by simp)⟩

theorem Copied.step {w wr : World} {len i : Nat} {Z : Nat → ByteArray} (h : Copied w wr len i Z) : Copied w (wr.setCell ⟨w.heap.size, i, none⟩ (.string (Z i))) len (i + 1) Z :=
  ⟨h.below.setCell (Nat.le_refl _) _, by simp [h.size], (h.row.set i _).congr (fun j _ => by
    by_cases e : j = i
    · subst e; simp
    · rw [if_neg e]
      by_cases hlt : j < i
      · rw [if_pos hlt, if_pos (by omega)]
      · rw [if_neg hlt, if_neg (by omega)])⟩

set_option maxHeartbeats 400000 in
theorem clone_some (x : Addr) (len cap : Nat) (Z : Nat → ByteArray) (w : World) (hl : len ≤ 65536) (hZ : Strs w (some x) len Z) :
    Calls Tryd.prog 11 #[.slice (some x) len cap] w fun e w' => e = .returned (.slice (some ⟨w.heap.size, 0, none⟩) len len) ∧ Copied w w' len len Z := by
  have hn := fun (w : World) => Lib.run_eql_slice_nil (P := Tryd.prog) w 23 9 (some x) len cap 0 0 Tryd.underlying23
  have hmk := run_make_row' (P := Tryd.prog) 23 9 (.string .empty) 16 Tryd.underlying23 Tryd.info9 rfl .i64 .i64 len (by omega) (by omega)
  go_enter Tryd.func11, Tryd.ntmps11
  go_wp2
  clear hmk hn
  go_loopg [4] len (fun g i wr => ∃ k : Nat, k ≤ len ∧ g = len - k ∧ i = .int .i64 k ∧ Copied w wr len k Z)
  case atStart => exact ⟨0, Nat.zero_le _, rfl, rfl, Copied.start w len Z⟩
  case round =>
    obtain ⟨k, hk, rfl, rfl, hO⟩ := hrel
    by_cases hlt : k < len
    · obtain ⟨b, off, hx, hc⟩ := hZ (by omega)
      cases hx
      have hcz : (k : Int) < (len : Int) := by omega
      have hb : b < w.heap.size := World.block_lt_of_cell? _ _ (hc k hlt).1
      have g0 : wr.cell? ⟨b, off + k, none⟩ = some (.string (Z k)) := by rw [hO.below.cell (p := ⟨b, off + k, none⟩) hb]; exact (hc k hlt).1
      have t4 : wr.cell? ⟨w.heap.size, k, none⟩ = some (.string .empty) := by simpa using hO.row.cell hlt
      have t5 : wr.frozen? ⟨w.heap.size, k, none⟩ = false := hO.row.frozen k
      clear hc
      go_wp2
      go_roundg (len - (k + 1))
      case measure => omega
      case rel => exact ⟨k + 1, by omega, rfl, by go_num, hO.step⟩
    · obtain rfl : k = len := by omega
      go_wp2
      go_ret
      exact ⟨rfl, hO⟩

/-- THE COPY, WHATEVER CAME IN. -/
theorem clone_any (a : Option Addr) (len cap : Nat) (Z : Nat → ByteArray) (w : World) (hl : len ≤ 65536) (hnil : a = none → len = 0 ∧ cap = 0) (hZ : Strs w a len Z) :
    Calls Tryd.prog 11 #[.slice a len cap] w fun e w' => ∃ a' cap', e = .returned (.slice a' len cap') ∧ Strs w' a' len Z ∧ Below w.heap.size w w' := by
  cases a with
  | none =>
    obtain ⟨rfl, rfl⟩ := hnil rfl
    exact (clone_nil w).mono fun e w' ⟨he, hw⟩ => ⟨none, 0, he, fun h => absurd h (Nat.lt_irrefl _), by rw [hw]; exact Below.refl _ _⟩
  | some x =>
    exact (clone_some x len cap Z w hl hZ).mono fun e w' ⟨he, hC⟩ => ⟨_, len, he, fun hp => ⟨_, 0, rfl, fun i hi => ⟨by rw [Nat.zero_add, hC.row.cell hi, if_pos hi], by
      obtain ⟨_, _, _, hc⟩ := hZ hp
      exact (hc i hi).2⟩⟩, hC.below⟩

/-! ### how many bytes a list of strings takes -/
/-- What zzPreBytes tells, as far as this road wants it. -/
def BytesPost (w : World) (N : Nat) : Ending → World → Prop := fun e w' => w = w' ∧ ∃ r : Int, e = .returned (.int .i64 r) ∧ 0 ≤ r ∧ r ≤ 2097152 ∧ (r ≤ 1048576 → N ≤ 65536)

set_option maxHeartbeats 400000 in
theorem preBytes_any (a : Option Addr) (N cap : Nat) (f : Nat → ByteArray) (w : World) (hN : N ≤ 9223372036854775807) (hA : Strs w a N f) : Calls Tryd.prog 9 #[.slice a N cap] w (BytesPost w N) := by
  by_cases hb : N ≤ 65536
  · go_enter Tryd.func9, Tryd.ntmps9
    go_wp2
    go_loop [3, 4] (fun z i => ∃ (k : Nat) (t : Int), k ≤ N ∧ i = .int .i64 k ∧ z = .int .i64 t ∧ 0 ≤ t ∧ t ≤ 1048576) (fun _ i => N - (intOf i).toNat)
    case atStart => exact ⟨0, _, Nat.zero_le _, rfl, rfl, by omega, by omega⟩
    case round =>
      obtain ⟨k, t, hk, rfl, rfl, ht0, ht1⟩ := hrel
      by_cases hlt : k < N
      · obtain ⟨b, off, e, hc⟩ := hA (by omega)
        subst e
        obtain ⟨c1, c3⟩ := hc k hlt
        clear hc hA
        unfold maxLen at c3
        have hkz : (k : Int) < (N : Int) := by omega
        go_wp2
        · go_ret
          exact ⟨rfl, _, rfl, by omega, by omega, fun h => by omega⟩
        · go_ret
          exact ⟨rfl, _, rfl, by omega, by omega, fun h => by omega⟩
        · have hle : t + ↑(f k).size ≤ 1048576 := by assumption
          go_round
          case rel => exact ⟨k + 1, t + ↑(f k).size, by omega, by go_num, rfl, by omega, hle⟩
          case measure => simp [intOf]; omega
      · go_wp2
        go_ret
        exact ⟨rfl, _, rfl, by omega, by omega, fun _ => hb⟩
  · have hb2 : (65536 : Int) < (N : Int) := by omega
    clear hA
    go_enter Tryd.func9, Tryd.ntmps9
    go_wp2
    go_ret
    exact ⟨rfl, _, rfl, by omega, by omega, fun h => by omega⟩

theorem strBytes_any (s : ByteArray) (w : World) (hs : s.size ≤ maxLen) : Calls Tryd.prog 10 #[.string s] w (BytesPost w 0) := by
  unfold maxLen at hs
  by_cases hb : s.size ≤ 1048576
  · have hbz : ¬ (1048576 : Int) < (s.size : Int) := by omega
    go_enter Tryd.func10, Tryd.ntmps10
    go_wp2
    go_ret
    exact ⟨rfl, _, rfl, by omega, by omega, fun h => by omega⟩
  · have hbz : (1048576 : Int) < (s.size : Int) := by omega
    go_enter Tryd.func10, Tryd.ntmps10
    go_wp2
    go_ret
    exact ⟨rfl, _, rfl, by omega, by omega, fun h => by omega⟩

end Go.Proofs.Qxb6602610aDoor
