/-
  The walk of FnSkipBOMCaseTable, bom within 0 .. 2 and p within its bound.
-/
import Derived.Test.Qxb6602599aSkip
import Derived.Deep.CutBlock
namespace Go.Proofs.Qxb6602599a
open Go.RowKit Go.Deep

theorem most_le {b0 len k kk : Nat} {Z : Nat → Int} (h : Most b0 len Z k) (hl : kk ≤ len) (h3 : b0 + kk ≤ 3) (hc : Cont Z b0 kk) : kk ≤ k := by
  obtain ⟨_, _, _, h⟩ := h
  rcases h with h | h | h
  · omega
  · omega
  · by_cases e : k < kk
    · exact absurd (hc k e) h
    · omega

set_option maxHeartbeats 1000000 in
set_option maxRecDepth 100000 in
theorem make_any (b0 : Nat) (w : World) : Calls Try.prog 6 #[.int .u8 0, .bool false, .int .i64 (b0 : Int), .bool false, .string ⟨#[]⟩, .string ⟨#[]⟩, .bool false, .bool false, .slice none 0 0, .slice none 0 0, .slice none 0 0, .bool false, .int .i64 0] w
    fun e w' => e = .returned (.pointer (some ⟨w.heap.size, 0, none⟩)) ∧ w' = w.alloc (Sblk 0 false (b0 : Int) false nil8 0) := by
  go_enter Try.func6, Try.ntmps6
  go_wp2
  go_ret
  exact ⟨rfl, rfl⟩

theorem zzskip_any (w : World) (g b0 len cap : Nat) (a : Option Addr) (Z : Nat → Int) (hb0 : b0 ≤ 2) (hl : len ≤ 1048576) (h : Stream w g 0 false (b0 : Int) false nil8 0)
    (hZ : 0 < len → ∃ b off, a = some ⟨b, off, none⟩ ∧ b < g ∧ ∀ i, i < len → w.cell? ⟨b, off + i, none⟩ = some (.int .u8 (Z i))) :
    Calls Try.prog 7 #[.pointer (some ⟨g, 0, none⟩), .slice a len cap] w (SkipPost w g b0 len Z) := by
  have H := hide (skip_any w g b0 len cap a Z hb0 hl h hZ)
  clear h hZ
  go_enter Try.func7, Try.ntmps7
  go_wp2_with (go_at_call 10; refine H.out.mono ?_; rintro e w3 ⟨k, rfl, hM, hS, hB⟩; have HX : Hid (Most b0 len Z k ∧ SkipCase w3 g b0 len k ∧ Below g w w3) := ⟨hM, hS, hB⟩; clear hM hS hB)
  go_ret
  exact ⟨k, rfl, HX.out⟩

theorem line_any (b0 k g c : Nat) (w : World) (h3 : b0 + k ≤ 3) (hc : ∀ i, i < b0 + k → w.cell? ⟨g, i, none⟩ = some (.int .u8 (mb i))) :
    Calls Try.prog 8 #[.slice (some ⟨g, 0, none⟩) (b0 + k) c, .int .i64 0, .int .i64 ((b0 : Int) + (k : Int))] w fun e w' => e = .returned (.bool true) ∧ ∃ q, w' = w.drewN q := by
  have h := cont_any (some ⟨g, 0, none⟩) (b0 + k) c 0 (b0 + k) mb w (by omega) (Nat.le_refl _) (by omega) (fun _ => ⟨g, 0, rfl, fun i hi => by rw [Nat.zero_add]; exact hc i hi⟩)
  rw [show ((b0 + k : Nat) : Int) = (b0 : Int) + (k : Int) from by omega] at h
  refine h.mono fun e w' ⟨r, he, hr, hq⟩ => ⟨?_, hq⟩
  rw [he, hr.2 (fun i _ => by rw [Nat.zero_add])]

set_option maxHeartbeats 4000000 in
set_option maxRecDepth 100000 in
theorem bom_walk (b0 : Nat) (a : Option Addr) (len cap : Nat) (Z : Nat → Int) (w : World) (hb0 : b0 ≤ 2) (hl : len ≤ 1048576) (hnil : a = none → len = 0 ∧ cap = 0) (hZ : Bytes w a len Z) :
    Calls Try.prog 3 #[.int .i64 (b0 : Int), .slice a len cap] w fun e w' => e = .returned (.bool true) ∧ Below w.heap.size w w' := by
  have HZ := hide hZ
  clear hZ
  have d1 : decide ((b0 : Int) < 0) = false := decide_eq_false (by omega)
  have d2 : decide ((2 : Int) < (b0 : Int)) = false := decide_eq_false (by omega)
  go_enter Try.func3, Try.ntmps3
  go_wp2_with (first | (go_at_call 4; go_in) | (go_at_call 5; refine (clone_any _ _ _ Z _ hl hnil HZ.out).mono ?_; rintro e wc ⟨a', cap', rfl, hZc, hbc⟩; have HZC := hide hZc; have HBC := hide hbc; clear hZc hbc HZ) | (go_at_call 6; refine (make_any _ _).mono ?_; rintro e w2 ⟨rfl, rfl⟩))
  refine (zzskip_any _ wc.heap.size b0 len cap' a' Z hb0 hl ?_ ?_).mono ?_
  · exact blk_alloc_new _ _
  · intro hp
    obtain ⟨b, off, e, hc⟩ := HZC.out hp
    exact ⟨b, off, e, World.block_lt_of_cell? _ _ (hc 0 hp), fun i hi => by
      rw [((Below.refl wc.heap.size wc).alloc (Nat.le_refl _) _).cell (p := ⟨b, off + i, none⟩) (World.block_lt_of_cell? _ _ (hc i hi))]
      exact hc i hi⟩
  · rintro e w3 ⟨k, rfl, hM, hS, hB3⟩
    have HM := hide hM
    have HS := hide hS
    have hB : Below wc.heap.size wc w3 := ((Below.refl wc.heap.size wc).alloc (Nat.le_refl _) _).trans hB3
    have HZ3 := hide (HZC.out.later hB)
    have HF : Hid (Below w.heap.size w w3) := HBC.out.trans (hB.mono HBC.out.size)
    have hk1 := hM.1
    have hk3 := hM.2.1
    obtain ⟨g, hg⟩ : ∃ g, wc.heap.size = g := ⟨_, rfl⟩
    rw [hg] at HS ⊢
    clear hM hS hB3 hB HZC HBC hg
    go_upto_if 48 with fail
    go_cut [7] from 43 to 51 (fun s7 wx => ∃ l : Nat, s7 = .int .i64 l ∧ l ≤ len ∧ b0 + l ≤ 3 ∧ k ≤ l ∧ w3 = wx)
    case first =>
      by_cases hlim : len < 3 - b0
      · have hli : (len : Int) < 3 - (b0 : Int) := by omega
        go_wp2
        go_meet
        exact ⟨len, rfl, by omega, by omega, by omega, rfl⟩
      · have hli : ¬ (len : Int) < 3 - (b0 : Int) := by omega
        go_wp2
        go_meet
        exact ⟨3 - b0, by go_num, by omega, by omega, by omega, rfl⟩
    case rest =>
      obtain ⟨l, rfl, hl1, hl2, hl3, rfl⟩ := hcut
      go_upto_block 0 with fail
      go_cut [8] from 43 to 59 (fun s8 wx => s8 = .int .i64 (k : Int) ∧ Hid (∃ q, wx = w3.drewN q))
      case first =>
        go_wp2_with fail
        go_loopg [8] l (fun kk s8 wr => k ≤ kk ∧ kk ≤ l ∧ s8 = .int .i64 (kk : Int) ∧ Hid (∃ q, wr = w3.drewN q))
        case atStart => exact ⟨hl3, Nat.le_refl _, rfl, 0, rfl⟩
        case round =>
          obtain ⟨hkk, hkl, rfl, HW⟩ := hrel
          by_cases h0 : gk = 0
          · subst h0
            have hk0 : k = 0 := by omega
            subst hk0
            go_wp2_with fail
            go_meet
            exact ⟨rfl, HW⟩
          · have hp : (0 : Int) < (gk : Int) := by omega
            have HZr : Hid (Bytes wr a' len Z) := by
              obtain ⟨q, hq⟩ := HW.out
              show Bytes wr a' len Z
              rw [hq]; exact HZ3.out
            go_wp2_with (go_at_call 8; refine (cont_any _ _ _ b0 gk Z _ hl (by omega) (by omega) HZr.out).mono ?_; rintro e w4 ⟨r, rfl, hr, hq⟩; have HR := hide hr; have HQ := hide hq; clear hr hq; cases r)
            · have hlt : k < gk := by
                rcases Nat.lt_or_ge k gk with h | h
                · exact h
                · have e : gk = k := by omega
                  rw [e] at HR
                  have := HR.out.2 HM.out.2.2.1
                  cases this
              have HW4 : Hid (∃ q, w4 = w3.drewN q) := by
                obtain ⟨q, hq⟩ := HW.out
                obtain ⟨q', hq'⟩ := HQ.out
                exact ⟨q + q', by rw [hq', hq]; exact World.drewN_drewN _ _ _⟩
              go_roundg (gk - 1)
              case measure => omega
              case rel => exact ⟨by omega, by omega, by go_num, HW4⟩
            · have he : gk = k := by
                have h := most_le HM.out (kk := gk) (by omega) (by omega) (HR.out.1 (by trivial))
                omega
              have HW4 : Hid (∃ q, w4 = w3.drewN q) := by
                obtain ⟨q, hq⟩ := HW.out
                obtain ⟨q', hq'⟩ := HQ.out
                exact ⟨q + q', by rw [hq', hq]; exact World.drewN_drewN _ _ _⟩
              go_meet
              exact ⟨by rw [he], HW4⟩
      case rest =>
        obtain ⟨rfl, HW⟩ := hcut
        have HSc : Hid (SkipCase wc g b0 len k) := by
          obtain ⟨q, hq⟩ := HW.out
          show SkipCase wc g b0 len k
          rw [hq]; exact HS.out
        have HFc : Hid (Below w.heap.size w wc) := by
          obtain ⟨q, hq⟩ := HW.out
          show Below _ _ wc
          rw [hq]; exact HF.out.trans (below_drewN _ _ _)
        clear HW HS HF HZ3 HM
        rcases HSc.out with ⟨h3, hS⟩ | ⟨h3, hkl, hS⟩ | ⟨h3, hkl, hS⟩ | ⟨h0, h3, hkl, g', c', hS, hc⟩
        · have HX := hide hS
          clear hS HSc
          have hm3 : ((b0 : Int) + (k : Int) == 3) = true := by simp; omega
          go_wp2_with (go_at_call 9; refine (state_any _ g _ _ _ _ _ _ _ _ HX.out).mono ?_; rintro e w5 ⟨rfl, q5, rfl⟩)
          go_ret
          exact ⟨rfl, HFc.out.trans (below_drewN _ _ _)⟩
        · have HX := hide hS
          clear hS HSc
          have hm3 : ((b0 : Int) + (k : Int) == 3) = false := beq_eq_false_iff_ne.2 (by omega)
          have hkb : ((k : Int) == (len : Int)) = true := beq_iff_eq.2 (by omega)
          clear hkl
          go_wp2_with (go_at_call 9; refine (state_any _ g _ _ _ _ _ _ _ _ HX.out).mono ?_; rintro e w5 ⟨rfl, q5, rfl⟩)
          go_ret
          exact ⟨rfl, HFc.out.trans (below_drewN _ _ _)⟩
        · have HX := hide hS
          clear hS HSc
          have hm3 : ((b0 : Int) + (k : Int) == 3) = false := beq_eq_false_iff_ne.2 (by omega)
          have hkb : ((k : Int) == (len : Int)) = false := beq_eq_false_iff_ne.2 (by omega)
          have hm0 : ((b0 : Int) + (k : Int) == 0) = true := beq_iff_eq.2 (by omega)
          go_wp2_with (go_at_call 9; refine (state_any _ g _ _ _ _ _ _ _ _ HX.out).mono ?_; rintro e w5 ⟨rfl, q5, rfl⟩)
          go_ret
          exact ⟨rfl, HFc.out.trans (below_drewN _ _ _)⟩
        · have HX := hide hS
          have HC := hide hc
          clear hS HSc hc
          have hm3 : ((b0 : Int) + (k : Int) == 3) = false := beq_eq_false_iff_ne.2 (by omega)
          have hkb : ((k : Int) == (len : Int)) = false := beq_eq_false_iff_ne.2 (by omega)
          have hm0 : ((b0 : Int) + (k : Int) == 0) = false := beq_eq_false_iff_ne.2 (by omega)
          go_wp2_with (first | (go_at_call 9; refine (state_any _ g _ _ _ _ _ _ _ _ HX.out).mono ?_; rintro e w5 ⟨rfl, q5, rfl⟩) | (go_at_call 8; refine (line_any b0 k g' c' _ (by omega) (by exact HC.out)).mono ?_; rintro e w6 ⟨rfl, q6, rfl⟩))
          go_ret
          exact ⟨rfl, HFc.out.trans (below_drewN _ _ _)⟩
end Go.Proofs.Qxb6602599a
