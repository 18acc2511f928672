/-
  The walk of FnCountedMatchesTally.
-/
import Derived.Test.Qxb6600847aMem
import Derived.Deep.CutRange
import Derived.Deep.RegionWith
namespace Go.Proofs.Qxb6600847a
open Go.RowKit Go.Deep Go.Maps Go.WideMaps Plain

theorem Try.info9 : (Try.prog.info? 9).map (fun i => (i.zero, i.size, i.bytes)) = some (some (.string .empty), 1, 16) := by kernel_rfl
theorem Try.info3 : (Try.prog.info? 3).map (fun i => (i.zero, i.size, i.bytes)) = some (some (.int .i64 0), 1, 8) := by kernel_rfl
theorem Try.info4 : (Try.prog.info? 4).map (fun i => (i.zero, i.size, i.bytes)) = some (some (.bool false), 1, 1) := by kernel_rfl

/-- The net count of a key, laid or not. -/
theorem Plain.Tal.held {D : DataW Unit} {N : Nat} {nm : Nat → ByteArray} {nt : Nat → Int} {lm : Nat → Bool} {k : Nat} (h : Tal D N nm nt lm k) (s : ByteArray) : ∃ c : Int, D.atKey (kl s) (num 0) = num c ∧ -(k : Int) ≤ c ∧ c ≤ (k : Int) ∧ (∀ j, j < N → nm j = s → c = nt j) ∧ ((∀ j, j < N → nm j ≠ s) → c = 0) := by
  by_cases hs : ∃ j, j < N ∧ nm j = s
  · obtain ⟨j, hj, rfl⟩ := hs
    exact ⟨nt j, h.at_ j hj, (h.bd j hj).1, (h.bd j hj).2, fun i hi he => by rw [h.inj i hi j hj he], fun hn => absurd rfl (hn j hj)⟩
  · have hs' : ∀ j, j < N → nm j ≠ s := fun j hj he => hs ⟨j, hj, he⟩
    exact ⟨0, atKey_of_not_has (h.out s hs') _, by omega, by omega, fun j hj he => absurd he (hs' j hj), fun _ => rfl⟩

theorem ret_bool {a b : Bool} (h : a = b) : Ending.returned (.bool a) = .returned (.bool b) := by rw [h]

theorem len_upd {N : Nat} {nm : Nat → ByteArray} {s : ByteArray} (h : ∀ j, j < N → (nm j).size ≤ maxLen) (hs : s.size ≤ maxLen) : ∀ j, j < N + 1 → (upd nm N s j).size ≤ maxLen := fun j hj => by
  by_cases e : j = N
  · subst e; rw [upd_same]; exact hs
  · rw [upd_other _ _ e]; exact h j (by omega)

theorem one_string (s : ByteArray) : ∀ u ∈ [Value.string s], u.oneCell' = true := by
  intro u hu
  simp only [List.mem_singleton] at hu
  subst hu
  rfl
theorem one_bool (b : Bool) : ∀ u ∈ [Value.bool b], u.oneCell' = true := by
  intro u hu
  simp only [List.mem_singleton] at hu
  subst hu
  rfl

set_option maxHeartbeats 4000000 in
set_option maxRecDepth 100000 in
theorem tally_walk (a : Option Addr) (n cap : Nat) (K : Nat → ByteArray) (M : Nat → Bool) (w : World) (hn : n ≤ 4096) (hnil : a = none → n = 0 ∧ cap = 0) (hO : Ops w a n K M) :
    Calls Try.prog 3 #[.slice a n cap] w fun e w' => e = .returned (.bool true) ∧ Below w.heap.size w w' := by
  obtain ⟨i9, hi9, hz9, hs9, hb9⟩ := info_parts Try.info9
  obtain ⟨i3, hi3, hz3, hs3, hb3⟩ := info_parts Try.info3
  obtain ⟨i4, hi4, hz4, hs4, hb4⟩ := info_parts Try.info4
  have HO := hide hO
  clear hO
  go_enter Try.func3, Try.ntmps3
  go_wp2_with (go_at_call 5; refine (bytes_any _ _ _ K M _ (by omega) HO.out).mono ?_; rintro e w' ⟨rfl, r, rfl⟩; cases r)
  · go_ret
    exact ⟨rfl, Below.refl _ _⟩
  · go_loop [3, 4] (fun t i => ∃ (k : Nat) (z : Int), k ≤ n ∧ i = .int .i64 k ∧ t = .int .i64 z) (fun _ i => n - (intOf i).toNat)
    case atStart => exact ⟨0, _, Nat.zero_le _, rfl, rfl⟩
    case round =>
      obtain ⟨k, z, hk, rfl, rfl⟩ := hrel
      by_cases hlt : k < n
      · obtain ⟨b, off, e, hc⟩ := HO.out (by omega)
        subst e
        obtain ⟨c1, _, _⟩ := hc k hlt
        clear hc
        go_wp2
        · go_ret
          exact ⟨rfl, Below.refl _ _⟩
        · go_round
          case rel => exact ⟨k + 1, _, by omega, by go_num, rfl⟩
          case measure => simp [intOf]; omega
      · go_wp2_with (go_at_call 6; refine (clone_any _ _ _ K M _ (by omega) hnil HO.out).mono ?_; rintro e wk ⟨a', cap', rfl, hOc, hbc⟩; have HOC := hide hOc; have HBC := hide hbc; clear hOc hbc HO)
        go_loopw [5, 6, 7, 8, 9] (fun v5 v6 v7 v8 i wr => ∃ (k N : Nat) (r5 : Option Nat) (a6 a7 a8 : Option Addr) (c6 c7 c8 : Nat) (D : DataW Unit) (nm : Nat → ByteArray) (nt : Nat → Int) (lm : Nat → Bool),
            k ≤ n ∧ N ≤ k ∧ i = .int .i64 k ∧ v5 = .map r5 ∧ v6 = .slice a6 N c6 ∧ v7 = .slice a7 N c7 ∧ v8 = .slice a8 N c8 ∧
            Hid (Mem wk wr (.map r5) (.slice a6 N c6) (.slice a7 N c7) (.slice a8 N c8) k D N nm N nt N lm) ∧ Hid (Tal D N nm nt lm k) ∧ Hid (r5 = none → N = 0) ∧ Hid (∀ j, j < N → (nm j).size ≤ maxLen))
          (fun _ _ _ _ i _ => n - (intOf i).toNat)
        case atStart => exact ⟨0, 0, none, none, none, none, 0, 0, 0, .map [], (fun _ => .empty), (fun _ => 0), (fun _ => false), Nat.zero_le _, Nat.le_refl _, rfl, rfl, rfl, rfl, rfl, Mem.start wk _ _ _, Tal.start _ _ _, (fun _ => rfl), fun _ h => absurd h (Nat.not_lt_zero _)⟩
        case round =>
          obtain ⟨k2, N, r5, a6, a7, a8, c6, c7, c8, D, nm, nt, lm, hk2, hNk, rfl, rfl, rfl, rfl, rfl, HM, HT, HR, HLEN⟩ := hrel
          by_cases hlt2 : k2 < n
          · obtain ⟨b, off, e, hc⟩ := HOC.out (by omega)
            subst e
            obtain ⟨p1, p2, p3⟩ := hc k2 hlt2
            clear hc
            have q1 := HM.out.op p1
            have q2 := HM.out.op p2
            have hkz : (k2 : Int) < (n : Int) := by omega
            obtain ⟨c, hat, hc1, hc2, hcj, hc0⟩ := HT.out.held (K k2)
            have HAT := hide hat
            have HCJ := hide hcj
            have HC0 := hide hc0
            clear hat hcj hc0
            go_upto_region 20 with fail
            go_cut [5] from 43 to 115 (fun s5 wx => ∃ bm : Nat, s5 = .map (some bm) ∧ Hid (Mem wk wx (.map (some bm)) (.slice a6 N c6) (.slice a7 N c7) (.slice a8 N c8) (k2 + 1) (countD D (K k2) (M k2) c) N nm N nt N lm))
            case first =>
              go_region_with (go_at_call 7; refine (zzcounted_any _ k2 D (K k2) (M k2) c _ wk.heap.size (by exact HM.out.below.size) (by exact HM.out.map) (by omega) p3 HAT.out (by omega) (by omega)).mono ?_; rintro e w' ⟨bm, rfl, ho, hg, hb, hne⟩; have HX := hide (HM.out.drew.counted ho hg hb hne); clear ho hg hne)
              all_goals (go_wp2_with fail; go_meet; exact ⟨bm, rfl, HX⟩)
            case rest =>
              obtain ⟨bm, rfl, HM2⟩ := hcut
              have q1 := HM2.out.op p1
              have q2 := HM2.out.op p2
              go_wp2_with fail
              refine (find_any _ _ _ nm _ _ (by omega) HM2.out.strs).mono ?_
              rintro e w' ⟨rfl, hf⟩
              rcases hf with ⟨j, hj, hjs, rfl⟩ | ⟨hns, rfl⟩
              · obtain ⟨g7, rfl⟩ := row_none HM2.out.r7 (by omega)
                obtain ⟨g8, rfl⟩ := row_none HM2.out.r8 (by omega)
                have hbd := HT.out.bd j hj
                have t7 := HM2.out.cell7 hj
                have f7 := HM2.out.free7 j
                have hce := HCJ.out j hj hjs
                have HE : Hid (countD D (K k2) (M k2) c = countD D (nm j) (M k2) (nt j)) := by
                  show _ = _
                  rw [hjs, hce]
                clear hjs hce
                cases hm : M k2
                · have HM3 := hide (HM2.out.set7 j (nt j - 1))
                  have HM4 := hide (HM3.out.set8 j false)
                  have HT4 : Hid (Tal (countD D (K k2) (M k2) c) N nm (upd nt j (nt j - 1)) (upd lm j false) (k2 + 1)) := by
                    show Tal _ _ _ _ _ _
                    rw [HE.out, hm]
                    exact HT.out.step hj false
                  have q3 := HM3.out.op p2
                  have t8 := HM3.out.cell8 hj
                  have f8 := HM3.out.free8 j
                  rw [hm] at q2 q3 p2
                  go_wp2
                  go_roundw
                  case rel => exact ⟨k2 + 1, N, some bm, a6, _, _, c6, c7, c8, _, nm, _, _, by omega, by omega, by go_num, rfl, rfl, rfl, rfl, HM4, HT4, (fun h => by cases h), HLEN⟩
                  case measure => simp [intOf]; omega
                · have HM3 := hide (HM2.out.set7 j (nt j + 1))
                  have HM4 := hide (HM3.out.set8 j true)
                  have HT4 : Hid (Tal (countD D (K k2) (M k2) c) N nm (upd nt j (nt j + 1)) (upd lm j true) (k2 + 1)) := by
                    show Tal _ _ _ _ _ _
                    rw [HE.out, hm]
                    exact HT.out.step hj true
                  have q3 := HM3.out.op p2
                  have t8 := HM3.out.cell8 hj
                  have f8 := HM3.out.free8 j
                  rw [hm] at q2 q3 p2
                  go_wp2
                  go_roundw
                  case rel => exact ⟨k2 + 1, N, some bm, a6, _, _, c6, c7, c8, _, nm, _, _, by omega, by omega, by go_num, rfl, rfl, rfl, rfl, HM4, HT4, (fun h => by cases h), HLEN⟩
                  case measure => simp [intOf]; omega
              · have hsz := HM2.out.below.size
                have hce := HC0.out hns
                have HNS := hide hns
                clear hns
                cases hm : M k2
                · rw [hm] at p2 q2
                  have HT4 : Hid (Tal (countD D (K k2) (M k2) c) (N + 1) (upd nm N (K k2)) (upd (upd nt N 0) N (-1)) (upd (upd lm N false) N false) (k2 + 1)) := by
                    show Tal _ _ _ _ _ _
                    rw [hm, hce]
                    exact HT.out.fresh HNS.out false
                  clear hce
                  go_wp2_with (first
                    | (at_builtin; refine wpList_append_own _ rfl (.tmp 70) (.tmp 76) 28 rfl wk.heap.size 9 i9 (.string .empty) 1 16 Try.underlying28 hi9 hz9 hs9 hb9 rfl (by decide) _ _ _ rfl (HM2.out.alloc _).r6 ⟨wc.heap.size, 0, none⟩ 1 1 [.string (K k2)] rfl rfl (cell_one_new _ _ _) (one_string _) (by unfold maxLen; omega) (by omega) (by simp; omega) ?_; intro v6 w6 ho6 hg6 _; have HM6 := hide ((HM2.out.alloc _).app6 ho6 hg6); have hz6 := HM6.out.below.size; obtain ⟨g6, d6, hv6, _⟩ := owns_some ho6 (by omega); clear ho6 hg6; subst hv6)
                    | (at_builtin; refine wpList_append_own _ rfl (.tmp 78) (.tmp 79) 29 rfl wk.heap.size 3 i3 (.int .i64 0) 1 8 Try.underlying29 hi3 hz3 hs3 hb3 rfl (by decide) _ _ _ rfl (HM6.out.alloc _).r7 ⟨w6.heap.size, 0, none⟩ 1 1 [.int .i64 0] rfl rfl (cell_one_new _ _ _) (ints_oneCell .i64 [0]) (by unfold maxLen; omega) (by omega) (by simp; omega) ?_; intro v7 w7 ho7 hg7 _; have HM7 := hide ((HM6.out.alloc _).app7 ho7 hg7); have hz7 := HM7.out.below.size; obtain ⟨g7, d7, hv7, _⟩ := owns_some ho7 (by omega); clear ho7 hg7; subst hv7)
                    | (at_builtin; refine wpList_append_own _ rfl (.tmp 81) (.tmp 82) 30 rfl wk.heap.size 4 i4 (.bool false) 1 1 Try.underlying30 hi4 hz4 hs4 hb4 rfl (by decide) _ _ _ rfl (HM7.out.alloc _).r8 ⟨w7.heap.size, 0, none⟩ 1 1 [.bool false] rfl rfl (cell_one_new _ _ _) (one_bool _) (by unfold maxLen; omega) (by omega) (by simp; omega) ?_; intro v8 w8 ho8 hg8 _; have HM8 := hide ((HM7.out.alloc _).app8 ho8 hg8); obtain ⟨g8, d8, hv8, _⟩ := owns_some ho8 (by omega); clear ho8 hg8; subst hv8; have q4 := HM8.out.op p2; have t7 : w8.cell? ⟨g7, N, none⟩ = some (.int .i64 0) := by { have h := HM8.out.cell7 (j := N) (by omega); rwa [upd_same] at h }; have f7 := HM8.out.free7 N; have HM9 := hide (HM8.out.set7 N (-1)); have q5 := HM9.out.op p2; have t8 := HM9.out.cell8 (j := N) (by omega); have f8 := HM9.out.free8 N; have HM10 := hide (HM9.out.set8 N false)))
                  go_roundw
                  case rel => exact ⟨k2 + 1, N + 1, some bm, _, _, _, d6, d7, d8, _, _, _, _, by omega, by omega, by go_num, rfl, rfl, rfl, rfl, HM10, HT4, (fun h => by cases h), len_upd HLEN.out p3⟩
                  case measure => simp [intOf]; omega
                · rw [hm] at p2 q2
                  have HT4 : Hid (Tal (countD D (K k2) (M k2) c) (N + 1) (upd nm N (K k2)) (upd (upd nt N 0) N (1)) (upd (upd lm N false) N true) (k2 + 1)) := by
                    show Tal _ _ _ _ _ _
                    rw [hm, hce]
                    exact HT.out.fresh HNS.out true
                  clear hce
                  go_wp2_with (first
                    | (at_builtin; refine wpList_append_own _ rfl (.tmp 70) (.tmp 76) 28 rfl wk.heap.size 9 i9 (.string .empty) 1 16 Try.underlying28 hi9 hz9 hs9 hb9 rfl (by decide) _ _ _ rfl (HM2.out.alloc _).r6 ⟨wc.heap.size, 0, none⟩ 1 1 [.string (K k2)] rfl rfl (cell_one_new _ _ _) (one_string _) (by unfold maxLen; omega) (by omega) (by simp; omega) ?_; intro v6 w6 ho6 hg6 _; have HM6 := hide ((HM2.out.alloc _).app6 ho6 hg6); have hz6 := HM6.out.below.size; obtain ⟨g6, d6, hv6, _⟩ := owns_some ho6 (by omega); clear ho6 hg6; subst hv6)
                    | (at_builtin; refine wpList_append_own _ rfl (.tmp 78) (.tmp 79) 29 rfl wk.heap.size 3 i3 (.int .i64 0) 1 8 Try.underlying29 hi3 hz3 hs3 hb3 rfl (by decide) _ _ _ rfl (HM6.out.alloc _).r7 ⟨w6.heap.size, 0, none⟩ 1 1 [.int .i64 0] rfl rfl (cell_one_new _ _ _) (ints_oneCell .i64 [0]) (by unfold maxLen; omega) (by omega) (by simp; omega) ?_; intro v7 w7 ho7 hg7 _; have HM7 := hide ((HM6.out.alloc _).app7 ho7 hg7); have hz7 := HM7.out.below.size; obtain ⟨g7, d7, hv7, _⟩ := owns_some ho7 (by omega); clear ho7 hg7; subst hv7)
                    | (at_builtin; refine wpList_append_own _ rfl (.tmp 81) (.tmp 82) 30 rfl wk.heap.size 4 i4 (.bool false) 1 1 Try.underlying30 hi4 hz4 hs4 hb4 rfl (by decide) _ _ _ rfl (HM7.out.alloc _).r8 ⟨w7.heap.size, 0, none⟩ 1 1 [.bool false] rfl rfl (cell_one_new _ _ _) (one_bool _) (by unfold maxLen; omega) (by omega) (by simp; omega) ?_; intro v8 w8 ho8 hg8 _; have HM8 := hide ((HM7.out.alloc _).app8 ho8 hg8); obtain ⟨g8, d8, hv8, _⟩ := owns_some ho8 (by omega); clear ho8 hg8; subst hv8; have q4 := HM8.out.op p2; have t7 : w8.cell? ⟨g7, N, none⟩ = some (.int .i64 0) := by { have h := HM8.out.cell7 (j := N) (by omega); rwa [upd_same] at h }; have f7 := HM8.out.free7 N; have HM9 := hide (HM8.out.set7 N (1)); have q5 := HM9.out.op p2; have t8 := HM9.out.cell8 (j := N) (by omega); have f8 := HM9.out.free8 N; have HM10 := hide (HM9.out.set8 N true)))
                  go_roundw
                  case rel => exact ⟨k2 + 1, N + 1, some bm, _, _, _, d6, d7, d8, _, _, _, _, by omega, by omega, by go_num, rfl, rfl, rfl, rfl, HM10, HT4, (fun h => by cases h), len_upd HLEN.out p3⟩
                  case measure => simp [intOf]; omega
          · have hfin : Hid (Below w.heap.size w wr) := HBC.out.trans (HM.out.below.mono HBC.out.size)
            clear HOC HBC
            cases r5 with
            | none =>
              have hN0 : N = 0 := HR.out rfl
              subst hN0
              have hl0 := fun (w : World) (ty : TypeId) => Maps.len_nil (P := Try.prog) (w := w) Try.underlying27 ty
              go_wp2
              refine wp_loop_rounds 1 ?_
              rw [rounds_succ]
              go_wp2
              go_ret
              exact ⟨rfl, hfin.out⟩
            | some bm =>
              have HOW : Hid (Owned wr bm k2 D) := by
                rcases HM.out.map with ⟨h, _⟩ | ⟨bm', h, _, ho⟩
                · cases h
                · cases h; exact ho
              go_wp2
              go_loop [11, 12] (fun p i => ∃ j : Nat, j ≤ N ∧ i = .int .i64 j ∧ p = .int .i64 ((cnt j (fun j => nt j != 0 || lm j) : Nat) : Int)) (fun _ i => N - (intOf i).toNat)
              case atStart => exact ⟨0, Nat.zero_le _, rfl, rfl⟩
              case round =>
                obtain ⟨j, hj, rfl, rfl⟩ := hrel
                by_cases hjN : j < N
                · obtain ⟨g6, rfl⟩ := row_none HM.out.r6 (by omega)
                  obtain ⟨g7, rfl⟩ := row_none HM.out.r7 (by omega)
                  obtain ⟨g8, rfl⟩ := row_none HM.out.r8 (by omega)
                  have t6 := HM.out.cell6 hjN
                  have t7 := HM.out.cell7 hjN
                  have t8 := HM.out.cell8 hjN
                  have hlen : Hid ((nm j).size ≤ maxLen) := HLEN.out j hjN
                  have HAT := hide (HT.out.at_ j hjN)
                  have HHAS := hide (HT.out.has_ j hjN)
                  have hcl := cnt_le (fun j => nt j != 0 || lm j) j
                  have HCN : Hid (cnt (j + 1) (fun j => nt j != 0 || lm j) = cnt j (fun j => nt j != 0 || lm j) + if (nt j != 0 || lm j) then 1 else 0) := rfl
                  obtain ⟨q, hq⟩ : ∃ q, nt j = q := ⟨_, rfl⟩
                  obtain ⟨l, hlq⟩ : ∃ l, lm j = l := ⟨_, rfl⟩
                  obtain ⟨m, hm⟩ : ∃ m, cnt j (fun j => nt j != 0 || lm j) = m := ⟨_, rfl⟩
                  obtain ⟨s, hs⟩ : ∃ s, nm j = s := ⟨_, rfl⟩
                  rw [hq, hlq, hs] at HHAS
                  rw [hq, hs] at HAT
                  rw [hs] at hlen t6
                  rw [hq] at t7
                  rw [hlq] at t8
                  rw [hm, hq, hlq] at HCN
                  rw [hm] at hcl
                  rw [hm]
                  have hkey := keyOf_string_mk Try.underlying9 hlen.out
                  clear hq hlq hm hs hlen
                  by_cases hq0 : q = 0
                  · subst hq0
                    cases l
                    · have hb : Maps.has D (kl s) = false := HHAS.out
                      have HB := hide hb
                      clear hb HHAS
                      go_wp2_with (at_lookup; refine wpList_lookup_own_ok_int _ rfl _ _ 27 rfl 9 3 .i64 law Try.underlying27 Try.underlying3 (zero3 _) bm k2 D rfl HOW.out _ _ rfl hkey ?_; intro c hat hwc; have hcc : 0 = c := num_inj (HAT.out.symm.trans hat); subst hcc; clear hat hwc; rw [show Maps.has D (Lit.string s.data.toList) = false from HB.out])
                      go_round
                      case rel => exact ⟨j + 1, by omega, by go_num, by rw [HCN.out]; rfl⟩
                      case measure => simp [intOf]; omega
                    · have hb : Maps.has D (kl s) = true := HHAS.out
                      have HB := hide hb
                      clear hb HHAS
                      go_wp2_with (at_lookup; refine wpList_lookup_own_ok_int _ rfl _ _ 27 rfl 9 3 .i64 law Try.underlying27 Try.underlying3 (zero3 _) bm k2 D rfl HOW.out _ _ rfl hkey ?_; intro c hat hwc; have hcc : 0 = c := num_inj (HAT.out.symm.trans hat); subst hcc; clear hat hwc; rw [show Maps.has D (Lit.string s.data.toList) = true from HB.out])
                      go_round
                      case rel => exact ⟨j + 1, by omega, by go_num, by rw [HCN.out]; rfl⟩
                      case measure => simp [intOf]; omega
                  · have hb : Maps.has D (kl s) = true := by rw [HHAS.out]; simp [hq0]
                    have HB := hide hb
                    have hqb : (q != 0) = true := by simpa using hq0
                    have HCN2 : Hid (cnt (j + 1) (fun j => nt j != 0 || lm j) = m + 1) := by
                      show _ = _
                      rw [HCN.out, hqb]; rfl
                    clear hb HHAS HCN hq0
                    go_wp2_with (at_lookup; refine wpList_lookup_own_ok_int _ rfl _ _ 27 rfl 9 3 .i64 law Try.underlying27 Try.underlying3 (zero3 _) bm k2 D rfl HOW.out _ _ rfl hkey ?_; intro c hat hwc; have hcc : q = c := num_inj (HAT.out.symm.trans hat); subst hcc; clear hat hwc; rw [show Maps.has D (Lit.string s.data.toList) = true from HB.out])
                    go_round
                    case rel => exact ⟨j + 1, by omega, by go_num, by rw [HCN2.out]; go_num⟩
                    case measure => simp [intOf]; omega
                · obtain rfl : j = N := by omega
                  have HSZ := hide HT.out.size
                  go_wp2_with (at_len; refine wpList_len_own _ rfl _ 27 rfl 9 3 Try.underlying27 _ bm k2 D rfl HOW.out ?_)
                  go_ret
                  exact ⟨ret_bool (by rw [HSZ.out]; simp), hfin.out⟩
end Go.Proofs.Qxb6600847a
