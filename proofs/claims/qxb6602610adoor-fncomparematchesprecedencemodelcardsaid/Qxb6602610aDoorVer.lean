/-
  Version.Compare: the model's own answer.
-/
import Derived.Test.Qxb6602610aDoorSum
import Derived.Deep.RegionWith
import Derived.Deep.CutRange
import Derived.Deep.CutBlock
namespace Go.Proofs.Qxb6602610aDoor
open Go.RowKit Go.Deep Plain

abbrev ver (M m p : Int) (a : Option Addr) (N c : Nat) (b : ByteArray) : Value := .agg #[.int .u64 M, .int .u64 m, .int .u64 p, .slice a N c, .string b]
abbrev verO (M m p : Int) (a : Option Addr) (N c : Nat) (b : ByteArray) : Obj := .cells #[.int .u64 M, .int .u64 m, .int .u64 p, .slice a N c, .string b] 29

/-- WHAT HOLDS BETWEEN TWO CALLS: the two boxed versions, the two lists, the two errors; nothing that was there has turned. -/
structure VSt (w0 w : World) (v1 v2 v3 : Int) (va : Option Addr) (vN vc : Nat) (vb : ByteArray) (w1 w2 w3 : Int) (wa : Option Addr) (wN wc : Nat) (wb : ByteArray) (V W : Nat → ByteArray) : Prop where
  b1 : w.heap[w0.heap.size]? = some (verO v1 v2 v3 va vN vc vb)
  b2 : w.heap[w0.heap.size + 1]? = some (verO w1 w2 w3 wa wN wc wb)
  sV : Strs w va vN V
  sW : Strs w wa wN W
  err : Errs w
  below : Below w0.heap.size w0 w

theorem heap_lt {w : World} {g : Nat} {o : Obj} (h : w.heap[g]? = some o) : g < w.heap.size := (Array.getElem?_eq_some_iff.1 h).1

section
variable {w0 w w' : World} {v1 v2 v3 : Int} {va : Option Addr} {vN vc : Nat} {vb : ByteArray} {w1 w2 w3 : Int} {wa : Option Addr} {wN wc : Nat} {wb : ByteArray} {V W : Nat → ByteArray}
theorem VSt.later (h : VSt w0 w v1 v2 v3 va vN vc vb w1 w2 w3 wa wN wc wb V W) (hb : Below w.heap.size w w') : VSt w0 w' v1 v2 v3 va vN vc vb w1 w2 w3 wa wN wc wb V W :=
  ⟨(hb.block _ (heap_lt h.b1)).trans h.b1, (hb.block _ (heap_lt h.b2)).trans h.b2, h.sV.later hb, h.sW.later hb, h.err.later hb, h.below.trans (hb.mono h.below.size)⟩
theorem VSt.drew (h : VSt w0 w v1 v2 v3 va vN vc vb w1 w2 w3 wa wN wc wb V W) : VSt w0 w.drew v1 v2 v3 va vN vc vb w1 w2 w3 wa wN wc wb V W := ⟨h.b1, h.b2, h.sV, h.sW, h.err, h.below.drew⟩
theorem VSt.alloc (h : VSt w0 w v1 v2 v3 va vN vc vb w1 w2 w3 wa wN wc wb V W) (o : Obj) : VSt w0 (w.alloc o) v1 v2 v3 va vN vc vb w1 w2 w3 wa wN wc wb V W := h.later ((Below.refl _ _).alloc (Nat.le_refl _) o)
theorem VSt.start (hV : Strs w va vN V) (hW : Strs w wa wN W) (hE : Errs w) : VSt w ((w.alloc (verO v1 v2 v3 va vN vc vb)).alloc (verO w1 w2 w3 wa wN wc wb)) v1 v2 v3 va vN vc vb w1 w2 w3 wa wN wc wb V W := by
  have hB : Below w.heap.size w ((w.alloc (verO v1 v2 v3 va vN vc vb)).alloc (verO w1 w2 w3 wa wN wc wb)) := ((Below.refl _ _).alloc (Nat.le_refl _) _).alloc (by simp) _
  refine ⟨?_, ?_, hV.later hB, hW.later hB, hE.later hB, hB⟩
  · rw [Below.heap_alloc _ _ _ (by simp), blk_alloc_new]
  · have := blk_alloc_new (w.alloc (verO v1 v2 v3 va vN vc vb)) (verO w1 w2 w3 wa wN wc wb)
    simpa using this

theorem ver_cells {g : Nat} (h : w.heap[g]? = some (verO v1 v2 v3 va vN vc vb)) :
    w.cell? ⟨g, 0, none⟩ = some (.int .u64 v1) ∧ w.cell? ⟨g, 1, none⟩ = some (.int .u64 v2) ∧ w.cell? ⟨g, 2, none⟩ = some (.int .u64 v3) ∧ w.cell? ⟨g, 3, none⟩ = some (.slice va vN vc) ∧ w.cell? ⟨g, 4, none⟩ = some (.string vb) := by
  have hc := fun j => cell_of_row w g j _ 29 _ h
  exact ⟨hc 0, hc 1, hc 2, hc 3, hc 4⟩

/-! ### the three numbers -/
/-- The first k pairs are alike. -/
def Alike (k : Nat) (v1 v2 v3 w1 w2 w3 : Int) : Prop := (1 ≤ k → v1 = w1) ∧ (2 ≤ k → v2 = w2) ∧ (3 ≤ k → v3 = w3)
theorem cmp_first (h : sgn v1 w1 ≠ 0) : cmpM v1 v2 v3 vN V w1 w2 w3 wN W = sgn v1 w1 := by unfold cmpM; rw [if_neg h]
theorem cmp_second (e1 : v1 = w1) (h : sgn v2 w2 ≠ 0) : cmpM v1 v2 v3 vN V w1 w2 w3 wN W = sgn v2 w2 := by unfold cmpM; rw [if_pos (by rw [e1]; exact sgn_self _), if_neg h]
theorem cmp_third (e1 : v1 = w1) (e2 : v2 = w2) (h : sgn v3 w3 ≠ 0) : cmpM v1 v2 v3 vN V w1 w2 w3 wN W = sgn v3 w3 := by unfold cmpM; rw [if_pos (by rw [e1]; exact sgn_self _), if_pos (by rw [e2]; exact sgn_self _), if_neg h]
theorem cmp_pre (e1 : v1 = w1) (e2 : v2 = w2) (e3 : v3 = w3) : cmpM v1 v2 v3 vN V w1 w2 w3 wN W = preM vN V wN W := by unfold cmpM; rw [if_pos (by rw [e1]; exact sgn_self _), if_pos (by rw [e2]; exact sgn_self _), if_pos (by rw [e3]; exact sgn_self _)]
end

theorem kind_lt {N i : Nat} (h : i < N) : kind N i = 1 := by unfold kind; rw [if_neg (by omega), if_pos h]
theorem kind_ge {N i : Nat} (h0 : N ≠ 0) (h : ¬ i < N) : kind N i = 0 := by unfold kind; rw [if_neg h0, if_neg h]
theorem kind_zero (i : Nat) : kind 0 i = 2 := rfl

theorem preM_start (N M : Nat) (f g : Nat → ByteArray) : preGo N M f g (N + 1 - 0) 0 = preM N f M g := rfl

set_option maxHeartbeats 8000000 in
set_option maxRecDepth 100000 in
theorem vcompare_any (v1 v2 v3 : Int) (va : Option Addr) (vN vc : Nat) (vb : ByteArray) (w1 w2 w3 : Int) (wa : Option Addr) (wN wc : Nat) (wb : ByteArray) (V W : Nat → ByteArray) (w : World)
    (hV : Strs w va vN V) (hW : Strs w wa wN W) (h1 : vN ≤ 65536) (h2 : wN ≤ 65536) (s1 : Short vN V) (s2 : Short wN W) (hE : Errs w) :
    Calls Tryd.prog 12 #[ver v1 v2 v3 va vN vc vb, ver w1 w2 w3 wa wN wc wb] w (Tells w (cmpM v1 v2 v3 vN V w1 w2 w3 wN W)) := by
  have HS := hide (VSt.start (v1 := v1) (v2 := v2) (v3 := v3) (va := va) (vN := vN) (vc := vc) (vb := vb) (w1 := w1) (w2 := w2) (w3 := w3) (wa := wa) (wN := wN) (wc := wc) (wb := wb) (V := V) (W := W) hV hW hE)
  obtain ⟨r, hr⟩ : ∃ r, cmpM v1 v2 v3 vN V w1 w2 w3 wN W = r := ⟨_, rfl⟩
  rw [hr]
  have HR := hide hr
  have S1 := hide s1
  have S2 := hide s2
  clear hV hW hE hr s1 s2
  have i0 : ∀ w, (Instr.index 38 (.agg #[.int .u64 v1, .int .u64 w1, .int .u64 v2, .int .u64 w2, .int .u64 v3, .int .u64 w3]) (.int .i64 0)).run Tryd.prog w = .ok (.agg #[.int .u64 v1, .int .u64 w1]) w := fun _ => by kernel_rfl
  have i1 : ∀ w, (Instr.index 38 (.agg #[.int .u64 v1, .int .u64 w1, .int .u64 v2, .int .u64 w2, .int .u64 v3, .int .u64 w3]) (.int .i64 1)).run Tryd.prog w = .ok (.agg #[.int .u64 v2, .int .u64 w2]) w := fun _ => by kernel_rfl
  have i2 : ∀ w, (Instr.index 38 (.agg #[.int .u64 v1, .int .u64 w1, .int .u64 v2, .int .u64 w2, .int .u64 v3, .int .u64 w3]) (.int .i64 2)).run Tryd.prog w = .ok (.agg #[.int .u64 v3, .int .u64 w3]) w := fun _ => by kernel_rfl
  go_enter Tryd.func12, Tryd.ntmps12
  go_wp2
  go_loopg [25] 3 (fun g i wr => ∃ k : Nat, k ≤ 3 ∧ g = 3 - k ∧ i = .int .i64 k ∧ Hid (Alike k v1 v2 v3 w1 w2 w3) ∧ Hid (VSt w wr v1 v2 v3 va vN vc vb w1 w2 w3 wa wN wc wb V W))
  case atStart => exact ⟨0, Nat.zero_le _, rfl, rfl, ⟨fun h => absurd h (by omega), fun h => absurd h (by omega), fun h => absurd h (by omega)⟩, HS⟩
  case round =>
    obtain ⟨k, hk, rfl, rfl, HA, HT⟩ := hrel
    clear HS
    obtain rfl | rfl | rfl | rfl : k = 0 ∨ k = 1 ∨ k = 2 ∨ k = 3 := by omega
    · rcases sgn_cases v1 w1 with ⟨a1, a2⟩ | ⟨a1, a2⟩ | ⟨a1, a2⟩
      · have d1 : (v1 != w1) = true := bne_iff_ne.2 (by omega)
        have HK : Hid (-1 = r) := by show _ = _; rw [← HR.out, cmp_first (by omega), a2]
        clear a2
        go_wp2
        go_ret
        exact ⟨ret_int HK.out, (HT.out.alloc _).below⟩
      · have d1 : (v1 != w1) = false := bne_eq_false_iff_eq.2 (by omega)
        have HK := hide a1
        clear a1 a2
        go_wp2
        go_roundg 2
        case measure => omega
        case rel => exact ⟨1, by omega, rfl, by go_num, ⟨fun _ => HK.out, fun h => absurd h (by omega), fun h => absurd h (by omega)⟩, HT.out.alloc _⟩
      · have d1 : (v1 != w1) = true := bne_iff_ne.2 (by omega)
        have d2 : ¬ v1 < w1 := by omega
        have HK : Hid (1 = r) := by show _ = _; rw [← HR.out, cmp_first (by omega), a2]
        clear a2 a1
        go_wp2
        go_ret
        exact ⟨ret_int HK.out, (HT.out.alloc _).below⟩
    · rcases sgn_cases v2 w2 with ⟨a1, a2⟩ | ⟨a1, a2⟩ | ⟨a1, a2⟩
      · have d1 : (v2 != w2) = true := bne_iff_ne.2 (by omega)
        have HK : Hid (-1 = r) := by show _ = _; rw [← HR.out, cmp_second (HA.out.1 (by omega)) (by omega), a2]
        clear a2
        go_wp2
        go_ret
        exact ⟨ret_int HK.out, (HT.out.alloc _).below⟩
      · have d1 : (v2 != w2) = false := bne_eq_false_iff_eq.2 (by omega)
        have HK := hide a1
        clear a1 a2
        go_wp2
        go_roundg 1
        case measure => omega
        case rel => exact ⟨2, by omega, rfl, by go_num, ⟨fun _ => HA.out.1 (by omega), fun _ => HK.out, fun h => absurd h (by omega)⟩, HT.out.alloc _⟩
      · have d1 : (v2 != w2) = true := bne_iff_ne.2 (by omega)
        have d2 : ¬ v2 < w2 := by omega
        have HK : Hid (1 = r) := by show _ = _; rw [← HR.out, cmp_second (HA.out.1 (by omega)) (by omega), a2]
        clear a2 a1
        go_wp2
        go_ret
        exact ⟨ret_int HK.out, (HT.out.alloc _).below⟩
    · rcases sgn_cases v3 w3 with ⟨a1, a2⟩ | ⟨a1, a2⟩ | ⟨a1, a2⟩
      · have d1 : (v3 != w3) = true := bne_iff_ne.2 (by omega)
        have HK : Hid (-1 = r) := by show _ = _; rw [← HR.out, cmp_third (HA.out.1 (by omega)) (HA.out.2.1 (by omega)) (by omega), a2]
        clear a2
        go_wp2
        go_ret
        exact ⟨ret_int HK.out, (HT.out.alloc _).below⟩
      · have d1 : (v3 != w3) = false := bne_eq_false_iff_eq.2 (by omega)
        have HK := hide a1
        clear a1 a2
        go_wp2
        go_roundg 0
        case measure => omega
        case rel => exact ⟨3, by omega, rfl, by go_num, ⟨fun _ => HA.out.1 (by omega), fun _ => HA.out.2.1 (by omega), fun _ => HK.out⟩, HT.out.alloc _⟩
      · have d1 : (v3 != w3) = true := bne_iff_ne.2 (by omega)
        have d2 : ¬ v3 < w3 := by omega
        have HK : Hid (1 = r) := by show _ = _; rw [← HR.out, cmp_third (HA.out.1 (by omega)) (HA.out.2.1 (by omega)) (by omega), a2]
        clear a2 a1
        go_wp2
        go_ret
        exact ⟨ret_int HK.out, (HT.out.alloc _).below⟩
    · have HP : Hid (preM vN V wN W = r) := by show _ = _; rw [← HR.out, cmp_pre (HA.out.1 (by omega)) (HA.out.2.1 (by omega)) (HA.out.2.2 (by omega))]
      clear HA HR
      obtain ⟨p0, p1, p2, p3, p4⟩ := ver_cells HT.out.b1
      obtain ⟨q0, q1, q2, q3, q4⟩ := ver_cells HT.out.b2
      by_cases z1 : vN = 0
      · have e1 : ((vN : Int) == 0) = true := beq_iff_eq.2 (by omega)
        by_cases z2 : wN = 0
        · have e2 : ((wN : Int) == 0) = true := beq_iff_eq.2 (by omega)
          have HK : Hid (0 = r) := by show _ = _; rw [← HP.out, z1, z2, preM_none]; rfl
          clear z1 z2
          go_wp2
          go_ret
          exact ⟨ret_int HK.out, HT.out.below⟩
        · have e2 : ((wN : Int) == 0) = false := beq_eq_false_iff_ne.2 (by omega)
          have HK : Hid (1 = r) := by
            show _ = _
            rw [← HP.out, z1, ← pre_sgn (Nat.le_refl 0) (preM_start 0 wN V W) (fun h => by have := h.1; rw [kind_zero] at this; omega), kind_zero, kind_lt (by omega)]
            rfl
          clear z1 z2
          go_wp2
          go_ret
          exact ⟨ret_int HK.out, HT.out.below⟩
      · have e1 : ((vN : Int) == 0) = false := beq_eq_false_iff_ne.2 (by omega)
        by_cases z2 : wN = 0
        · have e2 : ((wN : Int) == 0) = true := beq_iff_eq.2 (by omega)
          have HK : Hid (-1 = r) := by show _ = _; rw [← HP.out, z2, preM_none, if_neg z1]
          clear z1 z2
          go_wp2
          go_ret
          exact ⟨ret_int HK.out, HT.out.below⟩
        · have e2 : ((wN : Int) == 0) = false := beq_eq_false_iff_ne.2 (by omega)
          have Z1 := hide z1
          have Z2 := hide z2
          clear z1 z2
          go_wp2
          clear p0 p1 p2 p3 p4 q0 q1 q2 q3 q4 e1 e2
          go_loopg [7] vN (fun g i wr => ∃ k : Nat, k ≤ vN ∧ k ≤ wN ∧ g = vN - k ∧ i = .int .i64 k ∧ Hid (preGo vN wN V W (vN + 1 - k) k = preM vN V wN W) ∧ Hid (VSt w wr v1 v2 v3 va vN vc vb w1 w2 w3 wa wN wc wb V W))
          case atStart => exact ⟨0, Nat.zero_le _, Nat.zero_le _, rfl, rfl, preM_start vN wN V W, HT⟩
          case round =>
            obtain ⟨k, hk1, hk2, rfl, rfl, HG, HU⟩ := hrel
            clear HT
            obtain ⟨p0, p1, p2, p3, p4⟩ := ver_cells HU.out.b1
            obtain ⟨q0, q1, q2, q3, q4⟩ := ver_cells HU.out.b2
            by_cases hlt : k < vN
            · have g1 : (k : Int) < (vN : Int) := by omega
              by_cases hlt2 : k < wN
              · have g2 : (k : Int) < (wN : Int) := by omega
                obtain ⟨b, off, e, hc⟩ := HU.out.sV (by omega)
                obtain ⟨b', off', e', hc'⟩ := HU.out.sW (by omega)
                subst e e'
                have c1 := (hc k hlt).1
                have c2 := (hc' k hlt2).1
                clear hc hc'
                obtain ⟨c, hcc⟩ : ∃ c, ident (V k) (W k) = c := ⟨_, rfl⟩
                have hid := fun w' (h : Errs w') => compareIdentifier_any (V k) (W k) w' (S1.out k hlt) (S2.out k hlt2) h
                rw [hcc] at hid
                have HID := hide hid
                have hg := pre_ident hk1 HG.out ⟨kind_lt hlt, kind_lt hlt2⟩
                rw [hcc] at hg
                have HG2 := hide hg
                clear hid hg hcc HG
                go_upto_region 18 with fail
                go_cut [8] from 74 to 84 (fun s8 wx => s8 = .int .i64 c ∧ Hid (VSt w wx v1 v2 v3 (some ⟨b, off, none⟩) vN vc vb w1 w2 w3 (some ⟨b', off', none⟩) wN wc wb V W))
                case first =>
                  go_region_with (go_at_call 21; refine (HID.out _ ?_).mono ?_; (first | exact HU.out.err | exact HU.out.drew.err); rintro e w2 ⟨rfl, hb2⟩; have HU2 := hide (HU.out.drew.later hb2); clear hb2)
                  all_goals (go_wp2_with fail; go_meet; exact ⟨rfl, HU2⟩)
                case rest =>
                  obtain ⟨rfl, HU2⟩ := hcut
                  clear p0 p1 p2 p3 p4 q0 q1 q2 q3 q4 c1 c2
                  by_cases hz : c = 0
                  · subst hz
                    have HG3 : Hid (preGo vN wN V W (vN + 1 - (k + 1)) (k + 1) = preM vN V wN W) := HG2.out
                    clear HG2
                    go_wp2
                    go_roundg (vN - (k + 1))
                    case measure => omega
                    case rel => exact ⟨k + 1, by omega, by omega, rfl, by go_num, HG3, HU2⟩
                  · have d1 : (c != 0) = true := bne_iff_ne.2 hz
                    have HK : Hid (c = r) := by have := HG2.out; rw [if_neg hz] at this; exact this.trans HP.out
                    clear hz HG2
                    go_wp2
                    go_ret
                    exact ⟨ret_int HK.out, HU2.out.below⟩
              · have g2 : ¬ (k : Int) < (wN : Int) := by omega
                have g3 : ¬ (vN : Int) < (wN : Int) := by omega
                have g4 : (wN : Int) < (vN : Int) := by omega
                have HK : Hid (1 = r) := by
                  show _ = _
                  rw [← HP.out, ← pre_sgn hk1 HG.out (fun h => by have := h.2; rw [kind_ge Z2.out hlt2] at this; omega), kind_lt hlt, kind_ge Z2.out hlt2]
                  rfl
                clear HG
                go_wp2
                go_ret
                exact ⟨ret_int HK.out, HU.out.below⟩
            · have g1 : ¬ (k : Int) < (vN : Int) := by omega
              by_cases hlt2 : k < wN
              · have g3 : (vN : Int) < (wN : Int) := by omega
                have HK : Hid (-1 = r) := by
                  show _ = _
                  rw [← HP.out, ← pre_sgn hk1 HG.out (fun h => by have := h.1; rw [kind_ge Z1.out hlt] at this; omega), kind_ge Z1.out hlt, kind_lt hlt2]
                  rfl
                clear HG
                go_wp2
                go_ret
                exact ⟨ret_int HK.out, HU.out.below⟩
              · have g3 : ¬ (vN : Int) < (wN : Int) := by omega
                have g4 : ¬ (wN : Int) < (vN : Int) := by omega
                have HK : Hid (0 = r) := by
                  show _ = _
                  rw [← HP.out, ← pre_sgn hk1 HG.out (fun h => by have := h.1; rw [kind_ge Z1.out hlt] at this; omega), kind_ge Z1.out hlt, kind_ge Z2.out hlt2]
                  rfl
                clear HG
                go_wp2
                go_ret
                exact ⟨ret_int HK.out, HU.out.below⟩

end Go.Proofs.Qxb6602610aDoor
