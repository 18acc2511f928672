/-
  The walk of FnCompareMatchesPrecedenceModel.
-/
import Derived.Test.Qxb6602610aDoorVer
namespace Go.Proofs.Qxb6602610aDoor
open Go.RowKit Go.Deep Plain

theorem four_fine {r1 r2 r3 r4 : Int} {p q : Prop} (a1 : 0 ≤ r1) (_b1 : r1 ≤ 2097152) (c1 : r1 ≤ 1048576 → p) (a2 : 0 ≤ r2) (_b2 : r2 ≤ 2097152) (c2 : r2 ≤ 1048576 → q) (a3 : 0 ≤ r3) (_b3 : r3 ≤ 2097152) (a4 : 0 ≤ r4) (_b4 : r4 ≤ 2097152)
    (h : decide (1048576 < r1 + r2 + r3 + r4) = false) : p ∧ q := by
  have h' := of_decide_eq_false h
  exact ⟨c1 (by omega), c2 (by omega)⟩

set_option maxHeartbeats 8000000 in
set_option maxRecDepth 100000 in
theorem prec_law (v1 v2 v3 : Int) (va : Option Addr) (vN vc : Nat) (vb : ByteArray) (w1 w2 w3 : Int) (wa : Option Addr) (wN wc : Nat) (wb : ByteArray) (V W : Nat → ByteArray) (w : World)
    (h1 : vN ≤ 9223372036854775807) (h2 : wN ≤ 9223372036854775807) (e1 : va = none → vN = 0 ∧ vc = 0) (e2 : wa = none → wN = 0 ∧ wc = 0) (hV : Strs w va vN V) (hW : Strs w wa wN W) (b1 : vb.size ≤ maxLen) (b2 : wb.size ≤ maxLen) (hE : Errs w) :
    Calls Tryd.prog 3 #[.int .u64 v1, .int .u64 v2, .int .u64 v3, .slice va vN vc, .string vb, .int .u64 w1, .int .u64 w2, .int .u64 w3, .slice wa wN wc, .string wb] w fun e w' => e = .returned (.bool true) ∧ Below w.heap.size w w' := by
  have H8 := hide (zzbytes8_any v1 v2 v3 va vN vc vb w1 w2 w3 wa wN wc wb V W w h1 h2 hV hW b1 b2)
  have HV := hide hV
  have HW := hide hW
  have HE := hide hE
  clear hV hW hE
  go_enter Tryd.func3, Tryd.ntmps3
  go_upto_region 3 with (go_at_call 8; refine H8.out.mono ?_; rintro e w' ⟨rfl, r, rfl⟩; cases r)
  · go_ret
    exact ⟨rfl, Below.refl _ _⟩
  · clear H8
    have H9v := hide (preBytes_str va vN vc V w h1 HV.out)
    have H9w := hide (preBytes_str wa wN wc W w h2 HW.out)
    have H10v := hide (strBytes_any vb w b1)
    have H10w := hide (strBytes_any wb w b2)
    go_cut [48] from 37 to 48 (fun s48 wx => ∃ big : Bool, s48 = .bool big ∧ Hid (big = false → (vN ≤ 65536 ∧ Short vN V) ∧ (wN ≤ 65536 ∧ Short wN W)) ∧ w = wx)
    case first =>
      go_wp2_with (first
        | (go_at_call_of 9 (Value.slice va vN vc); refine H9v.out.mono ?_; rintro e w' ⟨rfl, r1, rfl, f1, f2, f3⟩)
        | (go_at_call_of 9 (Value.slice wa wN wc); refine H9w.out.mono ?_; rintro e w' ⟨rfl, r2, rfl, g1, g2, g3⟩)
        | (go_at_call_of 10 (Value.string vb); refine H10v.out.mono ?_; rintro e w' ⟨rfl, r3, rfl, i1, i2, _⟩)
        | (go_at_call_of 10 (Value.string wb); refine H10w.out.mono ?_; rintro e w' ⟨rfl, r4, rfl, j1, j2, _⟩))
      go_meet
      exact ⟨_, rfl, hide (fun hb => four_fine f1 f2 f3 g1 g2 g3 i1 i2 j1 j2 hb), rfl⟩
    case rest =>
      obtain ⟨big, rfl, HZ, rfl⟩ := hcut
      clear H9v H9w H10v H10w
      cases big
      case true =>
        go_wp2_with fail
        go_ret
        exact ⟨rfl, Below.refl _ _⟩
      case false =>
        obtain ⟨⟨z1, s1⟩, z2, s2⟩ := HZ.out rfl
        clear HZ
        obtain ⟨c, hc⟩ : ∃ c, cmpM v1 v2 v3 vN V w1 w2 w3 wN W = c := ⟨_, rfl⟩
        have hvc := fun va' vc' wa' wc' w' hV hW hE => vcompare_any v1 v2 v3 va' vN vc' vb w1 w2 w3 wa' wN wc' wb V W w' hV hW z1 z2 s1 s2 hE
        have hmd := fun va' vc' wa' wc' w' hV hW => compareModel_any v1 v2 v3 w1 w2 w3 va' wa' vN wN vc' wc' V W w' z1 z2 hV hW
        rw [hc] at hvc hmd
        have HVC := hide hvc
        have HMD := hide hmd
        clear hvc hmd hc s1 s2
        go_upto_region 6 with (go_at_call 11; refine (clone_any _ _ _ V _ z1 e1 HV.out).mono ?_; rintro e w4 ⟨a4, c4, rfl, hs4, hb4⟩; have HV4 := hide hs4; have HW4 := hide (HW.out.later hb4); have HE4 := hide (HE.out.later hb4); have HB4 := hide hb4; clear hs4 hb4)
        go_upto_region 7 with (go_at_call 11; refine (clone_any _ _ _ W _ z2 e2 HW4.out).mono ?_; rintro e w5 ⟨a5, c5, rfl, hs5, hb5⟩; have HW5 := hide hs5; have HV5 := hide (HV4.out.later hb5); have HE5 := hide (HE4.out.later hb5); have HB5 := hide (HB4.out.trans (hb5.mono HB4.out.size)); clear hs5 hb5)
        have hN : Below w5.heap.size w5 ((w5.alloc (verO v1 v2 v3 a4 vN c4 vb)).alloc (verO w1 w2 w3 a5 wN c5 wb)) := ((Below.refl _ _).alloc (Nat.le_refl _) _).alloc (by simp) _
        have HN := hide hN
        have HV6 := hide (HV5.out.later hN)
        have HW6 := hide (HW5.out.later hN)
        have HE6 := hide (HE5.out.later hN)
        clear hN
        go_wp2_with (first
          | (go_at_call 12; refine (HVC.out a4 c4 a5 c5 _ (by exact HV6.out) (by exact HW6.out) (by exact HE6.out)).mono ?_; rintro e w6 ⟨rfl, hb6⟩; have HB6 := hide ((HB5.out.trans (HN.out.mono HB5.out.size)).trans (hb6.mono (HB5.out.trans (HN.out.mono HB5.out.size)).size)); have HV7 := hide (HV6.out.later hb6); have HW7 := hide (HW6.out.later hb6); clear hb6)
          | (go_at_call 13; refine (HMD.out a4 c4 a5 c5 _ (by exact HV7.out) (by exact HW7.out)).mono ?_; rintro e w7 ⟨rfl, q, rfl⟩))
        go_ret
        exact ⟨ret_bool (by simp), HB6.out.trans ⟨rfl, rfl, rfl, Nat.le_refl _, fun _ _ => rfl⟩⟩

end Go.Proofs.Qxb6602610aDoor
