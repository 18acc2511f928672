/-
  Contracts of the small functions on FnCountedMatchesTally's road.
-/
import Derived.Test.Qxb6600847aChecked
import Derived.Test.Qxb6600847aPlain
import Derived.WalkKit
import Derived.WalkSpells
import Derived.Below
import Derived.Deep.OwnRows
import Derived.Deep.LoopGhost
import Derived.Lib.SliceRun
import Derived.Maps.OwnOps
import Derived.Maps.OwnSet
namespace Go.Proofs.Qxb6600847a
open Go.RowKit Go.Deep Go.Maps Go.WideMaps Plain

theorem hide {p : Prop} (h : p) : Hid p := h

theorem law : Keyed Try.prog 9 := string_keyed Try.underlying9
theorem zero3 (w : World) : (zeroValue 3).run Try.prog w = .ok (.int .i64 0) w := by kernel_rfl

abbrev Owned (w : World) (bm n : Nat) (D : DataW Unit) : Prop := w.ownsMap Try.prog 9 (plainElem (H := Unit) Try.prog 3) bm n D

/-- The map that came in: nil, or a block of its own. -/
def MapAt (w : World) (base : Nat) (mv : Value) (n : Nat) (D : DataW Unit) : Prop := (mv = .map none ∧ D = .map []) ∨ ∃ bm, mv = .map (some bm) ∧ base ≤ bm ∧ Owned w bm n D

/-- What 'counted' leaves: a map in its own block bm (new, or the one that came in), all else as it was. -/
def CountPost (w : World) (n : Nat) (D : DataW Unit) (base : Nat) : Ending → World → Prop := fun e w' =>
  ∃ bm, e = .returned (.map (some bm)) ∧ Owned w' bm n D ∧ w.grownBy w' (some bm) ∧ base ≤ bm ∧ ∀ (g : Nat) cs t fr, w.heap[g]? = some (.cells cs t fr) → g ≠ bm

theorem neq_of_map {w : World} {bm n : Nat} {D : DataW Unit} (h : Owned w bm n D) (g : Nat) (cs : Array Value) (t : TypeId) (fr : Nat × Nat) (hg : w.heap[g]? = some (.cells cs t fr)) : g ≠ bm := by
  rintro rfl
  obtain ⟨es, c, hb, _⟩ := h
  rw [hb] at hg
  cases hg

set_option maxHeartbeats 800000 in
theorem counted_own (bm n : Nat) (D : DataW Unit) (s : ByteArray) (more : Bool) (c : Int) (w : World) (base : Nat) (hbase : base ≤ bm) (hown : Owned w bm n D) (hn : n ≤ 10000) (hs : s.size ≤ maxLen)
    (hat : D.atKey (kl s) (num 0) = num c) (hc1 : -10000 ≤ c) (hc2 : c ≤ 10000) :
    Calls Try.prog 11 #[.map (some bm), .string s, .bool more] w (CountPost w (n + 1) (countD D s more c) base) := by
  have hq := fun (w : World) => run_eql_map_nil (P := Try.prog) w 27 9 3 (some bm) Try.underlying27
  have hkey := keyOf_string_mk Try.underlying9 hs
  have HO : Hid (Owned w bm n D) := hown
  have HAT : Hid (D.atKey (kl s) (num 0) = num c) := hat
  have hne := neq_of_map hown
  have HNE : Hid (∀ (g : Nat) cs t fr, w.heap[g]? = some (.cells cs t fr) → g ≠ bm) := hne
  clear hne hat hown
  have tok1 : True := trivial
  cases more
  · by_cases hz : c - 1 = 0
    · have h1 : c = 1 := by omega
      subst h1
      clear hz
      go_enter Try.func11, Try.ntmps11
      go_wp2_with (first
        | (at_lookup; have _t := tok1; refine wpList_lookup_own_int _ rfl _ _ 27 rfl 9 3 .i64 law Try.underlying27 Try.underlying3 (zero3 _) bm n _ rfl HO.out _ _ rfl hkey ?_; intro c' hat' hwc; have hcc : 1 = c' := num_inj (HAT.out.symm.trans hat'); subst hcc; clear tok1 hat' hwc)
        | (at_mapUpdate; refine wpList_mapUpdate_own _ rfl _ _ _ 27 rfl 9 3 law Try.underlying27 _ bm n _ rfl HO.out (by unfold maxLen; omega) _ _ _ rfl rfl hkey _ [] (plainElem_int Try.underlying3 (by decide)) ?_; intro w1 hown1 hgrow1; have HO1 : Hid (Owned w1 bm (n + 1) (D.put (kl s) (num (0)))) := hown1; have HG1 : Hid (w.grownBy w1 (some bm)) := hgrow1; clear hown1 hgrow1)
        | (at_lookup; refine wpList_lookup_own_int _ rfl _ _ 27 rfl 9 3 .i64 law Try.underlying27 Try.underlying3 (zero3 _) bm (n + 1) _ rfl HO1.out _ _ rfl hkey ?_; intro c2 hat2 hwc; have hcc : 0 = c2 := num_inj ((atKey_put_same (HO.out.isMap) (kl_key s) _ _).symm.trans hat2); subst hcc; clear hat2 hwc)
        | (at_delete; refine wpList_delete_own _ rfl _ _ 27 9 rfl 3 law Try.underlying27 _ bm (n + 1) _ rfl HO1.out _ _ rfl hkey ?_; intro w2 hown2 hturn2; have HO2 : Hid (Owned w2 bm (n + 1) ((D.put (kl s) (num 0)).del (kl s))) := hown2; have HG2 : Hid (w1.grownBy w2 (some bm)) := hturn2.grown; clear hown2 hturn2))
      go_ret
      exact ⟨bm, rfl, HO2.out, HG1.out.trans HG2.out, hbase, HNE.out⟩
    · have h1 : (c - 1 == 0) = false := by simpa using hz
      have HZ : Hid (¬ c - 1 = 0) := hz
      clear hz
      go_enter Try.func11, Try.ntmps11
      go_wp2_with (first
        | (at_lookup; have _t := tok1; refine wpList_lookup_own_int _ rfl _ _ 27 rfl 9 3 .i64 law Try.underlying27 Try.underlying3 (zero3 _) bm n _ rfl HO.out _ _ rfl hkey ?_; intro c' hat' hwc; have hcc : c = c' := num_inj (HAT.out.symm.trans hat'); subst hcc; clear tok1 hat' hwc)
        | (at_mapUpdate; refine wpList_mapUpdate_own _ rfl _ _ _ 27 rfl 9 3 law Try.underlying27 _ bm n _ rfl HO.out (by unfold maxLen; omega) _ _ _ rfl rfl hkey _ [] (plainElem_int Try.underlying3 (WalkArith.wf_i64 (by omega))) ?_; intro w1 hown1 hgrow1; have HO1 : Hid (Owned w1 bm (n + 1) (D.put (kl s) (num (c - 1)))) := hown1; have HG1 : Hid (w.grownBy w1 (some bm)) := hgrow1; clear hown1 hgrow1)
        | (at_lookup; refine wpList_lookup_own_int _ rfl _ _ 27 rfl 9 3 .i64 law Try.underlying27 Try.underlying3 (zero3 _) bm (n + 1) _ rfl HO1.out _ _ rfl hkey ?_; intro c2 hat2 hwc; have hcc : c - 1 = c2 := num_inj ((atKey_put_same (HO.out.isMap) (kl_key s) _ _).symm.trans hat2); subst hcc; clear hat2 hwc))
      go_ret
      exact ⟨bm, rfl, by unfold countD; rw [if_neg (by decide), if_neg HZ.out]; exact HO1.out, HG1.out, hbase, HNE.out⟩
  · go_enter Try.func11, Try.ntmps11
    go_wp2_with (first
      | (at_lookup; have _t := tok1; refine wpList_lookup_own_int _ rfl _ _ 27 rfl 9 3 .i64 law Try.underlying27 Try.underlying3 (zero3 _) bm n _ rfl HO.out _ _ rfl hkey ?_; intro c' hat' hwc; have hcc : c = c' := num_inj (HAT.out.symm.trans hat'); subst hcc; clear tok1 hat' hwc)
      | (at_mapUpdate; refine wpList_mapUpdate_own _ rfl _ _ _ 27 rfl 9 3 law Try.underlying27 _ bm n _ rfl HO.out (by unfold maxLen; omega) _ _ _ rfl rfl hkey _ [] (plainElem_int Try.underlying3 (WalkArith.wf_i64 (by omega))) ?_; intro w1 hown1 hgrow1; have HO1 : Hid (Owned w1 bm (n + 1) (D.put (kl s) (num (c + 1)))) := hown1; have HG1 : Hid (w.grownBy w1 (some bm)) := hgrow1; clear hown1 hgrow1))
    go_ret
    exact ⟨bm, rfl, HO1.out, HG1.out, hbase, HNE.out⟩

set_option maxHeartbeats 800000 in
theorem counted_nil (s : ByteArray) (more : Bool) (w : World) (base : Nat) (hbase : base ≤ w.heap.size) (hs : s.size ≤ maxLen) :
    Calls Try.prog 11 #[.map none, .string s, .bool more] w (CountPost w 1 (countD (.map []) s more 0) base) := by
  have hq := fun (w : World) => run_eql_map_nil (P := Try.prog) w 27 9 3 none Try.underlying27
  have hmm := @run_makeMap Try.prog
  have hkey := keyOf_string_mk Try.underlying9 hs
  have HO : Hid (Owned (w.alloc (.map #[] 0)) w.heap.size 0 (.map [])) := World.ownsMap_made w _ _ _
  have HAT : Hid ((DataW.map [] : DataW Unit).atKey (kl s) (num 0) = num 0) := rfl
  have HNE : Hid (∀ (g : Nat) cs t fr, w.heap[g]? = some (.cells cs t fr) → g ≠ w.heap.size) := fun g cs t fr h => by
    have := (Array.getElem?_eq_some_iff.1 h).1
    omega
  have HA : Hid (w.grownBy (w.alloc (.map #[] 0)) (some w.heap.size)) := World.grownBy_alloc _ _ _
  have tok1 : True := trivial
  cases more
  · go_enter Try.func11, Try.ntmps11
    go_wp2_with (first
      | (at_lookup; have _t := tok1; refine wpList_lookup_own_int _ rfl _ _ 27 rfl 9 3 .i64 law Try.underlying27 Try.underlying3 (zero3 _) w.heap.size 0 _ rfl HO.out _ _ rfl hkey ?_; intro c' hat' hwc; have hcc : 0 = c' := num_inj (HAT.out.symm.trans hat'); subst hcc; clear tok1 hat' hwc)
      | (at_mapUpdate; refine wpList_mapUpdate_own _ rfl _ _ _ 27 rfl 9 3 law Try.underlying27 _ w.heap.size 0 _ rfl HO.out (by unfold maxLen; omega) _ _ _ rfl rfl hkey _ [] (plainElem_int Try.underlying3 (by decide)) ?_; intro w1 hown1 hgrow1; have HO1 : Hid (Owned w1 w.heap.size (0 + 1) ((DataW.map [] : DataW Unit).put (kl s) (num (-1)))) := hown1; have HG1 : Hid ((w.alloc (.map #[] 0)).grownBy w1 (some w.heap.size)) := hgrow1; clear hown1 hgrow1)
      | (at_lookup; refine wpList_lookup_own_int _ rfl _ _ 27 rfl 9 3 .i64 law Try.underlying27 Try.underlying3 (zero3 _) w.heap.size (0 + 1) _ rfl HO1.out _ _ rfl hkey ?_; intro c2 hat2 hwc; have hcc : -1 = c2 := num_inj ((atKey_put_same (HO.out.isMap) (kl_key s) _ _).symm.trans hat2); subst hcc; clear hat2 hwc))
    go_ret
    exact ⟨_, rfl, HO1.out, HA.out.trans HG1.out, hbase, HNE.out⟩
  · go_enter Try.func11, Try.ntmps11
    go_wp2_with (first
      | (at_lookup; have _t := tok1; refine wpList_lookup_own_int _ rfl _ _ 27 rfl 9 3 .i64 law Try.underlying27 Try.underlying3 (zero3 _) w.heap.size 0 _ rfl HO.out _ _ rfl hkey ?_; intro c' hat' hwc; have hcc : 0 = c' := num_inj (HAT.out.symm.trans hat'); subst hcc; clear tok1 hat' hwc)
      | (at_mapUpdate; refine wpList_mapUpdate_own _ rfl _ _ _ 27 rfl 9 3 law Try.underlying27 _ w.heap.size 0 _ rfl HO.out (by unfold maxLen; omega) _ _ _ rfl rfl hkey _ [] (plainElem_int Try.underlying3 (by decide)) ?_; intro w1 hown1 hgrow1; have HO1 : Hid (Owned w1 w.heap.size (0 + 1) ((DataW.map [] : DataW Unit).put (kl s) (num (1)))) := hown1; have HG1 : Hid ((w.alloc (.map #[] 0)).grownBy w1 (some w.heap.size)) := hgrow1; clear hown1 hgrow1))
    go_ret
    exact ⟨_, rfl, HO1.out, HA.out.trans HG1.out, hbase, HNE.out⟩

theorem counted_any (mv : Value) (n : Nat) (D : DataW Unit) (s : ByteArray) (more : Bool) (c : Int) (w : World) (base : Nat) (hbase : base ≤ w.heap.size) (hm : MapAt w base mv n D) (hn : n ≤ 10000) (hs : s.size ≤ maxLen)
    (hat : D.atKey (kl s) (num 0) = num c) (hc1 : -10000 ≤ c) (hc2 : c ≤ 10000) :
    Calls Try.prog 11 #[mv, .string s, .bool more] w (CountPost w (n + 1) (countD D s more c) base) := by
  rcases hm with ⟨rfl, rfl⟩ | ⟨bm, rfl, hb, hown⟩
  · have hc : (0 : Int) = c := num_inj hat
    subst hc
    exact (counted_nil s more w base hbase hs).mono fun e w' ⟨bm, he, ho, hg, hb, hne⟩ => ⟨bm, he, ho.mono (by omega), hg, hb, hne⟩
  · exact counted_own bm n D s more c w base hb hown hn hs hat hc1 hc2

set_option maxHeartbeats 400000 in
theorem zzcounted_any (mv : Value) (n : Nat) (D : DataW Unit) (s : ByteArray) (more : Bool) (c : Int) (w : World) (base : Nat) (hbase : base ≤ w.heap.size) (hm : MapAt w base mv n D) (hn : n ≤ 10000) (hs : s.size ≤ maxLen)
    (hat : D.atKey (kl s) (num 0) = num c) (hc1 : -10000 ≤ c) (hc2 : c ≤ 10000) :
    Calls Try.prog 7 #[mv, .string s, .bool more] w (CountPost w (n + 1) (countD D s more c) base) := by
  have H := hide (counted_any mv n D s more c w base hbase hm hn hs hat hc1 hc2)
  clear hm hat
  go_enter Try.func7, Try.ntmps7
  go_wp2_with (go_at_call 11; refine H.out.mono ?_; rintro e w' ⟨bm, rfl, ho, hg, hb, hne⟩; have HO := hide ho; have HG := hide hg; have HN := hide hne; clear ho hg hne)
  go_ret
  exact ⟨bm, rfl, HO.out, HG.out, hb, HN.out⟩

theorem bytes_eq {x s : ByteArray} (h : (x.toList == s.toList) = true) : x = s := by
  rw [ByteArray.toList_eq, ByteArray.toList_eq] at h
  exact kl_inj (congrArg Lit.string (by simpa using h))

theorem bytes_ne {x s : ByteArray} (h : (x.toList == s.toList) = false) : x ≠ s := by
  rintro rfl
  simp at h

/-- A slice of N strings that reads as nm, its spare untold. -/
def Strs (w : World) (ao : Option Addr) (N : Nat) (nm : Nat → ByteArray) : Prop :=
  0 < N → ∃ b off, ao = some ⟨b, off, none⟩ ∧ ∀ i, i < N → w.cell? ⟨b, off + i, none⟩ = some (.string (nm i))

/-- What b1FindKey tells: a place of the key, or -1 where it has none. -/
def FindPost (w : World) (N : Nat) (nm : Nat → ByteArray) (s : ByteArray) : Ending → World → Prop := fun e w' =>
  w = w' ∧ ((∃ j, j < N ∧ nm j = s ∧ e = .returned (.int .i64 (j : Int))) ∨ ((∀ j, j < N → nm j ≠ s) ∧ e = .returned (.int .i64 (-1))))

set_option maxHeartbeats 400000 in
theorem find_any (a : Option Addr) (N cap : Nat) (nm : Nat → ByteArray) (s : ByteArray) (w : World) (hN : N ≤ 10000) (hS : Strs w a N nm) :
    Calls Try.prog 8 #[.slice a N cap, .string s] w (FindPost w N nm s) := by
  go_enter Try.func8, Try.ntmps8
  go_wp2
  go_loop [5] (fun i => ∃ k : Nat, k ≤ N ∧ i = .int .i64 k ∧ Hid (∀ j, j < k → nm j ≠ s)) (fun i => N - (intOf i).toNat)
  case atStart => exact ⟨0, Nat.zero_le _, rfl, fun j hj => absurd hj (Nat.not_lt_zero _)⟩
  case round =>
    obtain ⟨k, hk, rfl, HA⟩ := hrel
    by_cases hlt : k < N
    · obtain ⟨b, off, e, hc⟩ := hS (by omega)
      subst e
      have hck := hc k hlt
      clear hc hS
      obtain ⟨x, hx⟩ : ∃ x, nm k = x := ⟨_, rfl⟩
      rw [hx] at hck
      have HX := hide hx
      clear hx
      go_wp2
      · have he : x = s := bytes_eq (by assumption)
        go_ret
        exact ⟨rfl, .inl ⟨k, hlt, HX.out.trans he, rfl⟩⟩
      · have he : x ≠ s := bytes_ne (by assumption)
        go_round
        case rel => exact ⟨k + 1, by omega, by go_num, fun j hj => by
          by_cases e : j = k
          · subst e; rw [HX.out]; exact he
          · exact HA.out j (by omega)⟩
        case measure => simp [intOf]; omega
    · obtain rfl : k = N := by omega
      go_wp2
      go_ret
      exact ⟨rfl, .inr ⟨HA.out, rfl⟩⟩

/-- The script that came in: n pairs of a key and whether it counts one more. -/
def Ops (w : World) (ao : Option Addr) (n : Nat) (K : Nat → ByteArray) (M : Nat → Bool) : Prop :=
  0 < n → ∃ b off, ao = some ⟨b, off, none⟩ ∧ ∀ i, i < n → w.cell? ⟨b, off + i * 2, none⟩ = some (.string (K i)) ∧ w.cell? ⟨b, off + i * 2 + 1, none⟩ = some (.bool (M i)) ∧ (K i).size ≤ maxLen

/-- A Bool is told, nothing turns. -/
def Says (w : World) : Ending → World → Prop := fun e w' => w = w' ∧ ∃ r : Bool, e = .returned (.bool r)

set_option maxHeartbeats 400000 in
theorem bytes_any (a : Option Addr) (n cap : Nat) (K : Nat → ByteArray) (M : Nat → Bool) (w : World) (hn : n ≤ 9223372036854775807) (hO : Ops w a n K M) : Calls Try.prog 5 #[.slice a n cap] w (Says w) := by
  by_cases hbig : n ≤ 1048576
  · go_enter Try.func5, Try.ntmps5
    go_wp2
    go_loop [3, 4] (fun z i => ∃ (k : Nat) (t : Int), k ≤ n ∧ i = .int .i64 k ∧ z = .int .i64 t ∧ 0 ≤ t ∧ t ≤ 1048576) (fun _ i => n - (intOf i).toNat)
    case atStart => exact ⟨0, n, Nat.zero_le _, rfl, rfl, by omega, by omega⟩
    case round =>
      obtain ⟨k, t, hk, rfl, rfl, ht0, ht1⟩ := hrel
      by_cases hlt : k < n
      · obtain ⟨b, off, e, hc⟩ := hO (by omega)
        subst e
        obtain ⟨c1, _, c3⟩ := hc k hlt
        clear hc hO
        unfold maxLen at c3
        go_wp2
        · go_ret
          exact ⟨rfl, _, rfl⟩
        · go_ret
          exact ⟨rfl, _, rfl⟩
        · have hle : t + ↑(K k).size ≤ 1048576 := by assumption
          go_round
          case rel => exact ⟨k + 1, t + ↑(K k).size, by omega, by go_num, rfl, by omega, hle⟩
          case measure => simp [intOf]; omega
      · go_wp2
        go_ret
        exact ⟨rfl, _, rfl⟩
  · have hb : (1048576 : Int) < (n : Int) := by omega
    clear hO
    go_enter Try.func5, Try.ntmps5
    go_wp2
    go_ret
    exact ⟨rfl, _, rfl⟩

theorem Try.info25 : (Try.prog.info? 25).map (fun i => (i.zero, i.size, i.bytes)) = some (some (.agg #[.string .empty, .bool false]), 2, 24) := by kernel_rfl

/-- 'make([]CountOpB1, n)'. -/
theorem make_ops (n : Nat) (hn : n ≤ 10000) (w : World) : (Instr.makeSlice 22 (.int .i64 (n : Int)) (.int .i64 (n : Int))).run Try.prog w = .ok (.slice (some ⟨w.heap.size, 0, none⟩) n n) (w.alloc (.cells (madeCells #[.string .empty, .bool false] (n * 2)) 25)) := by
  obtain ⟨i, hi, hz, hs, hb⟩ := info_parts Try.info25
  have := run_make (P := Try.prog) w 22 25 i _ Try.underlying22 hi hz .i64 .i64 n n (by omega) (Int.le_refl _) (by rw [hb]; omega) (by omega)
  rw [hs] at this
  simp only [Int.toNat_natCast] at this
  exact this

theorem clone_nil (w : World) : Calls Try.prog 6 #[.slice none 0 0] w fun e w' => e = .returned (.slice none 0 0) ∧ w' = w := by
  have hn := fun (w : World) => Lib.run_eql_slice_nil (P := Try.prog) w 22 25 none 0 0 0 0 Try.underlying22
  go_enter Try.func6, Try.ntmps6
  go_wp2
  go_ret
  exact ⟨rfl, rfl⟩

/-- Cell j of the copy behind k rounds. -/
def cellOf (K : Nat → ByteArray) (M : Nat → Bool) (k j : Nat) : Value :=
  if j % 2 = 0 then .string (if j / 2 < k then K (j / 2) else .empty) else .bool (if j / 2 < k then M (j / 2) else false)

structure Copied (w wr : World) (n k : Nat) (K : Nat → ByteArray) (M : Nat → Bool) : Prop where
  below : Below w.heap.size w wr
  size : wr.heap.size = w.heap.size + 1
  row : wr.rowIs w.heap.size 25 (n * 2) (cellOf K M k)

theorem Copied.start (w : World) (n : Nat) (K : Nat → ByteArray) (M : Nat → Bool) : Copied w (w.alloc (.cells (madeCells #[.string .empty, .bool false] (n * 2)) 25)) n 0 K M := by
  refine ⟨(Below.refl _ _).alloc (Nat.le_refl _) _, by simp, ⟨_, blk_alloc_new _ _, size_madeCells _ _, fun j hj => ?_⟩⟩
  have h2 : j % 2 = 0 ∨ j % 2 = 1 := by omega
  rcases h2 with h | h <;> simp [madeCells, hj, cellOf, h]

theorem Copied.step {w wr : World} {n k : Nat} {K : Nat → ByteArray} {M : Nat → Bool} (h : Copied w wr n k K M) :
    Copied w ((wr.setCell ⟨w.heap.size, k * 2, none⟩ (.string (K k))).setCell ⟨w.heap.size, k * 2 + 1, none⟩ (.bool (M k))) n (k + 1) K M := by
  refine ⟨(h.below.setCell (Nat.le_refl _) _).setCell (Nat.le_refl _) _, by simp [h.size], ((h.row.set (k * 2) _).set (k * 2 + 1) _).congr (fun j _ => ?_)⟩
  by_cases e1 : j = k * 2 + 1
  · subst e1
    rw [if_pos rfl]
    unfold cellOf
    rw [if_neg (by omega), show (k * 2 + 1) / 2 = k from by omega, if_pos (by omega)]
  · rw [if_neg e1]
    by_cases e2 : j = k * 2
    · subst e2
      rw [if_pos rfl]
      unfold cellOf
      rw [if_pos (by omega), show k * 2 / 2 = k from by omega, if_pos (by omega)]
    · rw [if_neg e2]
      unfold cellOf
      by_cases h2 : j % 2 = 0
      · rw [if_pos h2, if_pos h2]
        by_cases h3 : j / 2 < k
        · rw [if_pos h3, if_pos (by omega)]
        · rw [if_neg h3, if_neg (by omega)]
      · rw [if_neg h2, if_neg h2]
        by_cases h3 : j / 2 < k
        · rw [if_pos h3, if_pos (by omega)]
        · rw [if_neg h3, if_neg (by omega)]

set_option maxHeartbeats 400000 in
theorem clone_some (x : Addr) (n cap : Nat) (K : Nat → ByteArray) (M : Nat → Bool) (w : World) (hn : n ≤ 10000) (hO : Ops w (some x) n K M) :
    Calls Try.prog 6 #[.slice (some x) n cap] w fun e w' => e = .returned (.slice (some ⟨w.heap.size, 0, none⟩) n n) ∧ Copied w w' n n K M := by
  have hq := fun (w : World) => Lib.run_eql_slice_nil (P := Try.prog) w 22 25 (some x) n cap 0 0 Try.underlying22
  have hmk := make_ops n hn
  go_enter Try.func6, Try.ntmps6
  go_wp2
  clear hmk hq
  go_loopg [4] n (fun g i wr => ∃ k : Nat, k ≤ n ∧ g = n - k ∧ i = .int .i64 k ∧ Copied w wr n k K M)
  case atStart => exact ⟨0, Nat.zero_le _, rfl, rfl, Copied.start w n K M⟩
  case round =>
    obtain ⟨k, hk, rfl, rfl, hC⟩ := hrel
    by_cases hlt : k < n
    · obtain ⟨b, off, hx, hc⟩ := hO (by omega)
      cases hx
      obtain ⟨c1, c2, _⟩ := hc k hlt
      have hcz : (k : Int) < (n : Int) := by omega
      have hb : b < w.heap.size := World.block_lt_of_cell? _ _ c1
      have g0 : wr.cell? ⟨b, off + k * 2, none⟩ = some (.string (K k)) := by rw [hC.below.cell (p := ⟨b, off + k * 2, none⟩) hb]; exact c1
      have g1 : wr.cell? ⟨b, off + k * 2 + 1, none⟩ = some (.bool (M k)) := by rw [hC.below.cell (p := ⟨b, off + k * 2 + 1, none⟩) hb]; exact c2
      have t4 := hC.row.cell (i := k * 2) (by omega)
      have t5 := hC.row.cell (i := k * 2 + 1) (by omega)
      have t6 : wr.frozen? ⟨w.heap.size, k * 2, none⟩ = false := hC.row.frozen _
      have t7 : wr.frozen? ⟨w.heap.size, k * 2 + 1, none⟩ = false := hC.row.frozen _
      clear c1 c2
      go_wp2
      go_roundg (n - (k + 1))
      case measure => omega
      case rel => exact ⟨k + 1, by omega, rfl, by go_num, hC.step⟩
    · obtain rfl : k = n := by omega
      go_wp2
      go_ret
      exact ⟨rfl, hC⟩

/-- THE COPY OF THE SCRIPT, WHATEVER CAME IN. -/
theorem clone_any (a : Option Addr) (n cap : Nat) (K : Nat → ByteArray) (M : Nat → Bool) (w : World) (hn : n ≤ 10000) (hnil : a = none → n = 0 ∧ cap = 0) (hO : Ops w a n K M) :
    Calls Try.prog 6 #[.slice a n cap] w fun e w' => ∃ a' cap', e = .returned (.slice a' n cap') ∧ Ops w' a' n K M ∧ Below w.heap.size w w' := by
  cases a with
  | none =>
    obtain ⟨rfl, rfl⟩ := hnil rfl
    exact (clone_nil w).mono fun e w' ⟨he, hw⟩ => ⟨none, 0, he, fun h => absurd h (Nat.lt_irrefl _), by rw [hw]; exact Below.refl _ _⟩
  | some x =>
    exact (clone_some x n cap K M w hn hO).mono fun e w' ⟨he, hC⟩ => ⟨_, n, he, fun hp => ⟨_, 0, rfl, fun i hi => by
      refine ⟨?_, ?_, ?_⟩
      · rw [Nat.zero_add, hC.row.cell (i := i * 2) (by omega)]
        unfold cellOf
        rw [if_pos (by omega), show i * 2 / 2 = i from by omega, if_pos hi]
      · rw [Nat.zero_add, hC.row.cell (i := i * 2 + 1) (by omega)]
        unfold cellOf
        rw [if_neg (by omega), show (i * 2 + 1) / 2 = i from by omega, if_pos hi]
      · obtain ⟨_, _, _, hc⟩ := hO hp
        exact (hc i hi).2.2⟩, hC.below⟩

end Go.Proofs.Qxb6600847a
