/-
  The walk of FnHyphenMembership.
-/
import Derived.Test.Qxb6602610aSt
import Derived.Deep.CutRange
import Derived.Deep.CutBlock
namespace Go.Proofs.Qxb6602610a
open Go.RowKit Go.Deep Plain

def SumSt (N : Nat) (Q : World → Prop) : Ending → World → Prop := fun e w' => Q w' ∧ ∃ r : Int, e = .returned (.int .i64 r) ∧ 0 ≤ r ∧ r ≤ 4194304 ∧ (r ≤ 1048576 → N ≤ 65536)

set_option maxHeartbeats 8000000 in
set_option maxRecDepth 100000 in
theorem hyph_walk (fM fm fp : Int) (fa : Option Addr) (fN fc : Nat) (fb : ByteArray) (fn : Int) (fw : Bool) (tM tm tp : Int) (ta : Option Addr) (tN tc : Nat) (tb : ByteArray) (tn : Int) (tw : Bool) (xM xm xp : Int) (xa : Option Addr) (xN xc : Nat) (xb : ByteArray) (F T X : Nat → ByteArray) (w : World)
    (n1 : fN ≤ 9223372036854775807) (n2 : tN ≤ 9223372036854775807) (n3 : xN ≤ 9223372036854775807) (hF : Strs w fa fN F) (hT : Strs w ta tN T) (hX : Strs w xa xN X) (b1 : fb.size ≤ maxLen) (b2 : tb.size ≤ maxLen) (b3 : xb.size ≤ maxLen)
    (e1 : fa = none → fN = 0 ∧ fc = 0) (e2 : ta = none → tN = 0 ∧ tc = 0) (e3 : xa = none → xN = 0 ∧ xc = 0) (k1 : 0 ≤ tM) (k2 : 0 ≤ tm) (k3 : 0 ≤ tp) (k4 : 0 ≤ xM) (k5 : 0 ≤ xm) (k6 : 0 ≤ xp) (k7 : tn ≤ 9223372036854775807)
    (j1 : tM ≤ 18446744073709551615) (j2 : tm ≤ 18446744073709551615) (j3 : tp ≤ 18446744073709551615) :
    Calls Try.prog 3 #[part fM fm fp fa fN fc fb fn fw, part tM tm tp ta tN tc tb tn tw, ver xM xm xp xa xN xc xb] w fun e w' => e = .returned (.bool true) ∧ Below w.heap.size w w' := by
  have hB := below3 w (partO fM fm fp fa fN fc fb fn fw) (partO tM tm tp ta tN tc tb tn tw) (verO xM xm xp xa xN xc xb)
  have HB := hide hB
  have HF := hide (hF.later hB)
  have HT := hide (hT.later hB)
  have HX := hide (hX.later hB)
  have AF := hide (Apart.of hF)
  have AT := hide (Apart.of hT)
  have AX := hide (Apart.of hX)
  have HBX := hide (Bx.start (fM := fM) (fm := fm) (fp := fp) (fa := fa) (fN := fN) (fc := fc) (fb := fb) (fn := fn) (fw := fw) (tM := tM) (tm := tm) (tp := tp) (ta := ta) (tN := tN) (tc := tc) (tb := tb) (tn := tn) (tw := tw) (xM := xM) (xm := xm) (xp := xp) (xa := xa) (xN := xN) (xc := xc) (xb := xb) w)
  clear hF hT hX hB
  go_enter Try.func3, Try.ntmps3
  go_wp2_with (go_at_call 4; refine (zzbytes_any fM fm fp fa fN fc fb fn fw tM tm tp ta tN tc tb tn tw xM xm xp xa xN xc xb F T X _ n1 n2 n3 (by exact HF.out) (by exact HT.out) (by exact HX.out) b1 b2 b3).mono ?_; rintro e w1 ⟨hb1, r, rfl⟩; have HB1 := hide hb1; clear hb1; cases r)
  · go_ret
    exact ⟨rfl, HB.out.trans (HB1.out.mono (by simp <;> omega))⟩
  · have hS1 : St w w1 fM fm fp fa fN fc fb fn fw tM tm tp ta tN tc tb tn tw xM xm xp xa xN xc xb F T X := ⟨HBX.out.later HB1.out, HF.out.later HB1.out, HT.out.later HB1.out, HX.out.later HB1.out, HB.out.trans (HB1.out.mono (by simp <;> omega)), AF.out, AT.out, AX.out⟩
    have S1 := hide hS1
    clear hS1 HBX HB1 HF HT HX HB AF AT AX
    have P5f := hide (fun w' (h : St w w' fM fm fp fa fN fc fb fn fw tM tm tp ta tN tc tb tn tw xM xm xp xa xN xc xb F T X) => (partBytes_any fM fm fp fa fN fc fb fn fw F w' n1 h.sF b1).mono (R' := SumSt fN (fun w'' => St w w'' fM fm fp fa fN fc fb fn fw tM tm tp ta tN tc tb tn tw xM xm xp xa xN xc xb F T X)) fun e w'' ⟨hb, h1⟩ => ⟨h.later hb, h1⟩)
    have P5t := hide (fun w' (h : St w w' fM fm fp fa fN fc fb fn fw tM tm tp ta tN tc tb tn tw xM xm xp xa xN xc xb F T X) => (partBytes_any tM tm tp ta tN tc tb tn tw T w' n2 h.sT b2).mono (R' := SumSt tN (fun w'' => St w w'' fM fm fp fa fN fc fb fn fw tM tm tp ta tN tc tb tn tw xM xm xp xa xN xc xb F T X)) fun e w'' ⟨hb, h1⟩ => ⟨h.later hb, h1⟩)
    have P6x := hide (fun w' (h : St w w' fM fm fp fa fN fc fb fn fw tM tm tp ta tN tc tb tn tw xM xm xp xa xN xc xb F T X) => (verBytes_any xM xm xp xa xN xc xb X w' n3 h.sX b3).mono (R' := SumSt xN (fun w'' => St w w'' fM fm fp fa fN fc fb fn fw tM tm tp ta tN tc tb tn tw xM xm xp xa xN xc xb F T X)) fun e w'' ⟨hb, h1⟩ => ⟨h.later hb, h1⟩)
    obtain ⟨p0, p1, p2, p3, p4, p5, p6, _⟩ := part_cells S1.out.bx.1
    obtain ⟨q0, q1, q2, q3, q4, q5, q6, _⟩ := part_cells S1.out.bx.2.1
    obtain ⟨v0, v1, v2, v3, v4, _⟩ := ver_cells S1.out.bx.2.2
    go_cut [27] from 14 to 27 (fun s27 wx => ∃ big : Bool, s27 = .bool big ∧ Hid (big = false → fN ≤ 65536 ∧ tN ≤ 65536 ∧ xN ≤ 65536) ∧ Hid (St w wx fM fm fp fa fN fc fb fn fw tM tm tp ta tN tc tb tn tw xM xm xp xa xN xc xb F T X))
    case first =>
      go_region_with (first
        | (go_at_call_of 5 (Value.slice fa fN fc); refine (P5f.out _ (by first | exact ST.out | exact SX.out | exact S1.out | exact S1.out.drew)).mono ?_; rintro e wF ⟨hSF, rF, rfl, f1, f2, f3⟩; have SF := hide hSF; clear hSF; obtain ⟨p0, p1, p2, p3, p4, p5, p6, _⟩ := part_cells SF.out.bx.1; obtain ⟨q0, q1, q2, q3, q4, q5, q6, _⟩ := part_cells SF.out.bx.2.1; obtain ⟨v0, v1, v2, v3, v4, _⟩ := ver_cells SF.out.bx.2.2)
        | (go_at_call_of 5 (Value.slice ta tN tc); refine (P5t.out _ (by first | exact SF.out | exact SX.out | exact S1.out | exact S1.out.drew)).mono ?_; rintro e wT ⟨hST, rT, rfl, t1, t2, t3⟩; have ST := hide hST; clear hST; obtain ⟨p0, p1, p2, p3, p4, p5, p6, _⟩ := part_cells ST.out.bx.1; obtain ⟨q0, q1, q2, q3, q4, q5, q6, _⟩ := part_cells ST.out.bx.2.1; obtain ⟨v0, v1, v2, v3, v4, _⟩ := ver_cells ST.out.bx.2.2)
        | (go_at_call 6; refine (P6x.out _ (by first | exact SF.out | exact ST.out | exact S1.out | exact S1.out.drew)).mono ?_; rintro e wX ⟨hSX, rX, rfl, x1, x2, x3⟩; have SX := hide hSX; clear hSX; obtain ⟨p0, p1, p2, p3, p4, p5, p6, _⟩ := part_cells SX.out.bx.1; obtain ⟨q0, q1, q2, q3, q4, q5, q6, _⟩ := part_cells SX.out.bx.2.1; obtain ⟨v0, v1, v2, v3, v4, _⟩ := ver_cells SX.out.bx.2.2))
      all_goals (go_wp2_with fail; go_meet)
      all_goals exact ⟨_, rfl, hide (fun hb => sum_fine f1 f2 f3 t1 t2 t3 x1 x2 x3 hb), (by first | exact SX | exact ST | exact SF)⟩
    case rest =>
      obtain ⟨big, rfl, HZ, S2⟩ := hcut
      clear p0 p1 p2 p3 p4 p5 p6 q0 q1 q2 q3 q4 q5 q6 v0 v1 v2 v3 v4 P5f P5t P6x S1
      cases big
      case true =>
        go_wp2_with fail
        go_ret
        exact ⟨rfl, S2.out.below⟩
      case false =>
        obtain ⟨z1, z2, z3⟩ := HZ.out rfl
        obtain ⟨q0, q1, q2, q3, q4, q5, q6, _⟩ := part_cells S2.out.bx.2.1
        clear HZ
        go_upto_region 5 with fail
        go_cut [35] from 28 to 35 (fun s35 wx => ∃ b : Bool, s35 = .bool b ∧ Hid (b = false → tn = 1 → tM < 18446744073709551615) ∧ wc = wx)
        case first =>
          by_cases h1 : tn = 1
          · have d1 : (tn == 1) = true := beq_iff_eq.2 h1
            clear h1
            go_wp2_with fail
            go_meet
            exact ⟨_, rfl, hide fun h _ => by have := beq_eq_false_iff_ne.1 h; omega, rfl⟩
          · have d1 : (tn == 1) = false := beq_eq_false_iff_ne.2 h1
            have H1 := hide h1
            clear h1
            go_wp2_with fail
            go_meet
            exact ⟨_, rfl, hide fun _ h => absurd h H1.out, rfl⟩
        case rest =>
          obtain ⟨b, rfl, F1, rfl⟩ := hcut
          cases b
          case true =>
            go_wp2_with fail
            go_ret
            exact ⟨rfl, S2.out.below⟩
          case false =>
            go_upto_region 7 with fail
            go_cut [43] from 36 to 43 (fun s35 wx => ∃ b : Bool, s35 = .bool b ∧ Hid (b = false → tn = 2 → tm < 18446744073709551615) ∧ wc = wx)
            case first =>
              by_cases h1 : tn = 2
              · have d1 : (tn == 2) = true := beq_iff_eq.2 h1
                clear h1
                go_wp2_with fail
                go_meet
                exact ⟨_, rfl, hide fun h _ => by have := beq_eq_false_iff_ne.1 h; omega, rfl⟩
              · have d1 : (tn == 2) = false := beq_eq_false_iff_ne.2 h1
                have H1 := hide h1
                clear h1
                go_wp2_with fail
                go_meet
                exact ⟨_, rfl, hide fun _ h => absurd h H1.out, rfl⟩
            case rest =>
              obtain ⟨b, rfl, F2, rfl⟩ := hcut
              cases b
              case true =>
                go_wp2_with fail
                go_ret
                exact ⟨rfl, S2.out.below⟩
              case false =>
                go_upto_region 9 with fail
                go_cut [51] from 44 to 51 (fun s35 wx => ∃ b : Bool, s35 = .bool b ∧ Hid (b = false → 4 ≤ tn → tp < 18446744073709551615) ∧ wc = wx)
                case first =>
                  by_cases h1 : 4 ≤ tn
                  · have d1 : decide (4 ≤ tn) = true := decide_eq_true h1
                    clear h1
                    go_wp2_with fail
                    go_meet
                    exact ⟨_, rfl, hide fun h _ => by have := beq_eq_false_iff_ne.1 h; omega, rfl⟩
                  · have d1 : decide (4 ≤ tn) = false := decide_eq_false h1
                    have H1 := hide h1
                    clear h1
                    go_wp2_with fail
                    go_meet
                    exact ⟨_, rfl, hide fun _ h => by have := H1.out; omega, rfl⟩
                case rest =>
                  obtain ⟨b, rfl, F3, rfl⟩ := hcut
                  cases b
                  case true =>
                    go_wp2_with fail
                    go_ret
                    exact ⟨rfl, S2.out.below⟩
                  case false =>
                    have HFine : Hid (Fine tn tM tm tp) := ⟨F1.out rfl, F2.out rfl, F3.out rfl⟩
                    clear F1 F2 F3 q0 q1 q2 q3 q4 q5 q6
                    obtain ⟨c, hc⟩ : ∃ c, cmpM fM fm fp fN F xM xm xp xN X = c := ⟨_, rfl⟩
                    obtain ⟨u, hu⟩ : ∃ u, upper tn xM xm xp xN X tM tm tp tN T = u := ⟨_, rfl⟩
                    have hIN := fun (w0 : World) (lo hi : Option Addr) (hinc : Bool) (fa' : Option Addr) (fc' : Nat) (ta' : Option Addr) (tc' : Nat) (xa' : Option Addr) (xc' : Nat) (w' : World) => in_any (w0 := w0) (tM := tM) (tm := tm) (tp := tp) (ta := ta') (tN := tN) (tc := tc') (tb := tb) (tn := tn) (lo := lo) (hi := hi) (hinc := hinc) fM fm fp fa' fN fc' fb xM xm xp xa' xN xc' xb F T X w'
                    have hTOP := fun ta' tc' xa' xc' w' h1 h2 => top_any tM tm tp ta' tN tc' tb tn tw xM xm xp xa' xN xc' xb X T w' h1 h2 z3 z2 k1 k2 k3 k4 k5 k6 HFine.out
                    have hCMP := fun fa' fc' xa' xc' w' h1 h2 => compareModel_any fM fm fp xM xm xp fa' xa' fN xN fc' xc' F X w' z1 z3 h1 h2
                    rw [hc] at hCMP
                    simp only [hc, hu] at hIN
                    rw [hu] at hTOP
                    clear hc hu
                    have HIN := hide hIN
                    have HTOP := hide hTOP
                    have HCMP := hide hCMP
                    clear hIN hTOP hCMP
                    obtain ⟨p0, p1, p2, p3, p4, p5, p6, p7⟩ := part_cells S2.out.bx.1
                    go_upto_region 11 with fail
                    go_cut [54] from 52 to 55 (fun s54 wx => ∃ a4 c4, s54 = .slice a4 fN c4 ∧ Hid (St w wx fM fm fp a4 fN c4 fb fn fw tM tm tp ta tN tc tb tn tw xM xm xp xa xN xc xb F T X))
                    case first =>
                      go_wp2_with (go_at_call 7; refine (clone_new _ _ _ F _ z1 e1 S2.out.sF).mono ?_; rintro e w4 ⟨a4, c4, rfl, hs4, hb4, hf4⟩; have S4 := hide (S2.out.setF hb4 (c' := c4) hs4 hf4); have S4' := hide (S2.out.later hb4); clear hs4 hb4 hf4; obtain ⟨p0, p1, p2, p3, p4, p5, p6, p7⟩ := part_cells S4'.out.bx.1)
                      go_meet
                      exact ⟨a4, c4, rfl, S4⟩
                    case rest =>
                      obtain ⟨a4, c4, rfl, S4⟩ := hcut
                      clear p0 p1 p2 p3 p4 p5 p6 p7 S2
                      obtain ⟨q0, q1, q2, q3, q4, q5, q6, q7⟩ := part_cells S4.out.bx.2.1
                      go_upto_region 12 with fail
                      go_cut [58] from 56 to 59 (fun s58 wx => ∃ a5 c5, s58 = .slice a5 tN c5 ∧ Hid (St w wx fM fm fp a4 fN c4 fb fn fw tM tm tp a5 tN c5 tb tn tw xM xm xp xa xN xc xb F T X))
                      case first =>
                        go_wp2_with (go_at_call 7; refine (clone_new _ _ _ T _ z2 e2 S4.out.sT).mono ?_; rintro e w5 ⟨a5, c5, rfl, hs4, hb4, hf4⟩; have S5 := hide (S4.out.setT hb4 (c' := c5) hs4 hf4); have S5' := hide (S4.out.later hb4); clear hs4 hb4 hf4; obtain ⟨q0, q1, q2, q3, q4, q5, q6, q7⟩ := part_cells S5'.out.bx.2.1)
                        go_meet
                        exact ⟨a5, c5, rfl, S5⟩
                      case rest =>
                        obtain ⟨a5, c5, rfl, S5⟩ := hcut
                        clear q0 q1 q2 q3 q4 q5 q6 q7 S4
                        obtain ⟨v0, v1, v2, v3, v4, v5⟩ := ver_cells S5.out.bx.2.2
                        go_upto_region 13 with fail
                        go_cut [62] from 60 to 63 (fun s62 wx => ∃ a6 c6, s62 = .slice a6 xN c6 ∧ Hid (St w wx fM fm fp a4 fN c4 fb fn fw tM tm tp a5 tN c5 tb tn tw xM xm xp a6 xN c6 xb F T X))
                        case first =>
                          go_wp2_with (go_at_call 7; refine (clone_new _ _ _ X _ z3 e3 S5.out.sX).mono ?_; rintro e w6 ⟨a6, c6, rfl, hs4, hb4, hf4⟩; have S6 := hide (S5.out.setX hb4 (c' := c6) hs4 hf4); have S6' := hide (S5.out.later hb4); clear hs4 hb4 hf4; obtain ⟨v0, v1, v2, v3, v4, v5⟩ := ver_cells S6'.out.bx.2.2)
                          go_meet
                          exact ⟨a6, c6, rfl, S6⟩
                        case rest =>
                          obtain ⟨a6, c6, rfl, S6⟩ := hcut
                          clear v0 v1 v2 v3 v4 v5 S5
                          obtain ⟨p0, p1, p2, p3, p4, p5, p6, _⟩ := part_cells S6.out.bx.1
                          obtain ⟨q0, q1, q2, q3, q4, q5, q6, _⟩ := part_cells S6.out.bx.2.1
                          obtain ⟨v0, v1, v2, v3, v4, _⟩ := ver_cells S6.out.bx.2.2
                          go_upto_region 15 with (go_at_call 8; refine (zzhyphen_any _ _ _ _ _ _ _ _ _ _ _ _ _ _ _ _ _ _ _ k7 k1 k2 k3 HFine.out).mono ?_; rintro e w7 ⟨lo, hi, hinc, rfl, hy⟩; have HY := hide hy; have S7 := hide (S6.out.later hy.1); clear hy; obtain ⟨p0, p1, p2, p3, p4, p5, p6, _⟩ := part_cells S7.out.bx.1; obtain ⟨q0, q1, q2, q3, q4, q5, q6, _⟩ := part_cells S7.out.bx.2.1; obtain ⟨v0, v1, v2, v3, v4, _⟩ := ver_cells S7.out.bx.2.2)
                          go_upto_region 16 with (go_at_call 9; refine (HIN.out _ _ _ _ _ _ _ _ _ _ _ HY.out S7.out.sF S7.out.sT S7.out.sX z1 z2 z3).mono ?_; rintro e w8 ⟨rfl, hb8⟩; have S8 := hide (S7.out.later hb8); clear hb8; obtain ⟨p0, p1, p2, p3, p4, p5, p6, _⟩ := part_cells S8.out.bx.1; obtain ⟨q0, q1, q2, q3, q4, q5, q6, _⟩ := part_cells S8.out.bx.2.1; obtain ⟨v0, v1, v2, v3, v4, _⟩ := ver_cells S8.out.bx.2.2)
                          have hcc : decide (c ≤ 0) = true ∨ decide (c ≤ 0) = false := by cases decide (c ≤ 0); exact .inr rfl; exact .inl rfl
                          rcases hcc with d | d
                          · go_wp2_with (first
                              | (go_at_call 10; refine (HCMP.out _ _ _ _ _ S8.out.sF S8.out.sX).mono ?_; rintro e w9 ⟨rfl, q9, hq9⟩; have S9 : Hid (St w w9 fM fm fp a4 fN c4 fb fn fw tM tm tp a5 tN c5 tb tn tw xM xm xp a6 xN c6 xb F T X) := (by rw [hq9]; exact S8.out.drewN q9); clear hq9; obtain ⟨p0, p1, p2, p3, p4, p5, p6, _⟩ := part_cells S9.out.bx.1; obtain ⟨q0, q1, q2, q3, q4, q5, q6, _⟩ := part_cells S9.out.bx.2.1; obtain ⟨v0, v1, v2, v3, v4, _⟩ := ver_cells S9.out.bx.2.2)
                              | (go_at_call 11; refine (HTOP.out _ _ _ _ _ S9.out.sX S9.out.sT).mono ?_; rintro e w10 ⟨rfl, hb10⟩; have B10 := hide (S9.out.later hb10).below; clear hb10))
                            go_ret
                            exact ⟨ret_bool (by cases u <;> rfl), B10.out⟩
                          · go_wp2_with (go_at_call 10; refine (HCMP.out _ _ _ _ _ S8.out.sF S8.out.sX).mono ?_; rintro e w9 ⟨rfl, q9, hq9⟩; have S9 : Hid (St w w9 fM fm fp a4 fN c4 fb fn fw tM tm tp a5 tN c5 tb tn tw xM xm xp a6 xN c6 xb F T X) := (by rw [hq9]; exact S8.out.drewN q9); clear hq9)
                            go_ret
                            exact ⟨ret_bool (by cases u <;> rfl), S9.out.below⟩
end Go.Proofs.Qxb6602610a
