/- Rows of elements of several cells: copy, and what an insertion leaves. No condition. -/
import Derived.Test.YtkmieonfhcmimaaGreatDoorXc
import Derived.Laws.CopyRow
import Derived.Laws.IdiomCopy
import Derived.Test.YtkmieonfhcmimaaGreatDoorQf
import Derived.Shelf.Spec.SlicesInsertGrow
import Derived.Test.YtkmieonfhcmimaaGreatDoorHh
import Derived.Lib.AppendZerosOnto
import Derived.Lib.Walk
import Derived.Test.YtkmieonfhcmimaaGreatDoorHb
namespace Go.Proofs.YtkmieonfhcmimaaGreatDoor
open Go Go.RowKit
theorem run_copy_rowS {P : Program} (w : World) (dT sT ty elem : TypeId) (g o dLen dCap : Nat) (a : Addr) (sLen sCap k s : Nat) (cur : Array Value) (t : TypeId) (cs : List Value)
    (hu : P.underlying dT = some (.slice elem)) (hs : (P.info? elem).map (·.size) = some s)
    (hg : w.heap[g]? = some (.cells cur t (0, 0))) (hk : Nat.min sLen dLen = k) (hn : cs.length = k * s)
    (hsrc : ∀ j v, cs[j]? = some v → w.cell? (a.add j) = some v) (hfit : o + cs.length ≤ cur.size) (h1 : ∀ v ∈ cs, v.oneCell' = true) :
    (Builtin.copy_ #[dT, sT] ty #[.slice (some ⟨g, o, none⟩) dLen dCap, .slice (some a) sLen sCap]).run P w =
      .ok (goInt k) (w.setRow g (cur.toList.take o ++ cs ++ cur.toList.drop (o + cs.length)).toArray) := by
  have hl := run_loadCells_list (P := P) w a cs hsrc
  rw [hn] at hl
  have hst := run_storeCells_at P g o t cs 0 cur w hg (by simpa using hfit) h1
  cases hq : P.info? elem with
  | none => simp [hq] at hs
  | some i =>
    have hi : i.size = s := by simpa [hq] using hs
    simp [Builtin.copy_, run_underlying hu, Builtin.lenOf, Builtin.firstCells, sizeOf, typeInfo, hq, hi, hk, hl, hst]
section
variable (L xs X : List Value) (m i d : Nat)
/-- The tail moved up, then the new one laid. -/
def shifted (L xs X : List Value) (i d : Nat) : List Value :=
  let R := L.take (i + d) ++ xs.drop i ++ L.drop (i + d + (xs.drop i).length)
  R.take i ++ X ++ R.drop (i + X.length)
theorem shifted_take (hx : xs.length = m) (hL : L.take m = xs) (hi : i ≤ m) (hd : X.length = d) (hm : m + d ≤ L.length) : (shifted L xs X i d).take (m + d) = xs.take i ++ X ++ xs.drop i := by
  have h1 : (L.take (i + d) ++ xs.drop i ++ L.drop (i + d + (xs.drop i).length)).take i = xs.take i := by
    rw [List.append_assoc, List.take_append_of_le_length (by simp; omega), List.take_take, Nat.min_eq_left (by omega), ← hL, List.take_take, Nat.min_eq_left hi]
  have h2 : (L.take (i + d) ++ xs.drop i ++ L.drop (i + d + (xs.drop i).length)).drop (i + d) = xs.drop i ++ L.drop (i + d + (xs.drop i).length) := by
    rw [List.append_assoc, List.drop_append_of_le_length (by simp; omega), List.drop_of_length_le (by simp; omega), List.nil_append]
  unfold shifted
  simp only
  rw [hd, h1, h2, ← List.append_assoc, List.take_append_of_le_length (by simp; omega), List.take_of_length_le (by simp; omega)]
theorem shifted_length (hx : xs.length = m) (hi : i ≤ m) (hd : X.length = d) (hm : m + d ≤ L.length) : (shifted L xs X i d).length = L.length := by
  unfold shifted
  simp
  omega
/-- The new one laid, then the tail. -/
def laidIn (L xs X : List Value) (i : Nat) : List Value :=
  let R := L.take i ++ X ++ L.drop (i + X.length)
  R.take (i + X.length) ++ xs.drop i ++ R.drop (i + X.length + (xs.drop i).length)
theorem laidIn_take (hx : xs.length = m) (hL : L.take i = xs.take i) (hi : i ≤ m) (hd : X.length = d) (hm : m + d ≤ L.length) : (laidIn L xs X i).take (m + d) = xs.take i ++ X ++ xs.drop i := by
  have h1 : (L.take i ++ X ++ L.drop (i + X.length)).take (i + X.length) = xs.take i ++ X := by
    rw [List.take_append_of_le_length (by simp; omega), List.take_of_length_le (by simp; omega), hL]
  unfold laidIn
  simp only
  rw [h1, List.take_append_of_le_length (by simp; omega), List.take_of_length_le (by simp; omega)]
theorem laidIn_length (hx : xs.length = m) (hi : i ≤ m) (hd : X.length = d) (hm : m + d ≤ L.length) : (laidIn L xs X i).length = L.length := by
  unfold laidIn
  simp
  omega
end
theorem grown_row {a w : World} {g : Nat} (h : a.grownBy w (some g)) (cs : Array Value) : a.grownBy (w.setRow g cs) (some g) :=
  ⟨h.os, h.tape, h.output, by simpa [World.setRow] using h.size, fun k hk hne => by
    have : g ≠ k := fun e => hne (by rw [e])
    simp only [World.setRow, Array.getElem?_modify]
    rw [if_neg this]
    exact h.block k hk hne⟩
theorem own_block {w : World} {base : Nat} {e : TypeId} {g n c s : Nat} {xs : List Value} (h : w.ownsRow base e s (.slice (some ⟨g, 0, none⟩) n c) n xs) :
    base ≤ g ∧ n ≤ c ∧ c ≤ maxLen ∧ xs.length = n * s ∧ ∃ cur : Array Value, w.heap[g]? = some (.cells cur e (0, 0)) ∧ cur.size = c * s ∧ cur.toList.take (n * s) = xs := by
  obtain ⟨hl, h | ⟨g', cap, cur, hv, hbg, hh, hnc, hm, hs, ht⟩⟩ := h
  · cases h.1
  · injection hv with e1 e2 e3
    injection e1 with e1
    injection e1 with e1
    subst e1 e3
    exact ⟨hbg, hnc, hm, hl, cur, hh, hs, ht⟩
theorem cell_setRow {w : World} {g : Nat} {t : TypeId} {cs : Array Value} (h : w.heap[g]? = some (.cells cs t (0, 0))) (ds : Array Value) (j : Nat) : (w.setRow g ds).cell? ⟨g, j, none⟩ = ds[j]? := by
  have hb : Blk w g t cs := h
  exact (hb.row ds).cell j
theorem cell_setRow_far (w : World) {g : Nat} (ds : Array Value) {a : Addr} (h : a.block ≠ g) : (w.setRow g ds).cell? a = w.cell? a := by
  unfold World.setRow World.cell?
  simp only [Array.getElem?_modify]
  rw [if_neg (fun e => h e.symm)]
end Go.Proofs.YtkmieonfhcmimaaGreatDoor

/- slices.Insert at peers. No condition. -/
namespace Go.Proofs.YtkmieonfhcmimaaGreatDoor
open Go Go.RowKit
attribute [local go_sem ↓] Go.wp_at_zero Go.wp_at_succ
theorem iinfo_two : (Tryz.prog.info? 44).map (·.size) = some 2 := by kernel_rfl
/-- A row with one element more, in place or in a new block. -/
def OutInsI (base : Nat) (n : Nat) (A : Option Addr) (c : Nat) (l : List Value) (w : World) (e : Ending) (w' : World) : Prop :=
  ∃ v, e = .returned v ∧ w'.ownsRow base 44 2 v (n + 1) l ∧ w.grownBy w' (Value.slice A n c).ownBlock
set_option maxRecDepth 100000 in
set_option maxHeartbeats 4000000 in
theorem ins_shift {base : Nat} (g n c i vb : Nat) (x0 x1 : Value) (xs : List Value) (w : World) (ho : w.ownsRow base 44 2 (.slice (some ⟨g, 0, none⟩) n c) n xs) (hb : Blk w vb 44 #[x0, x1]) (hne : vb ≠ g) (hi : i < n) (hc : n + 1 ≤ c)
    (h1 : ∀ u ∈ xs, u.oneCell' = true) (hx : ∀ u ∈ [x0, x1], u.oneCell' = true) :
    Calls Tryz.prog 41 #[.slice (some ⟨g, 0, none⟩) n c, .int .i64 i, .slice (some ⟨vb, 0, none⟩) 1 1] w (OutInsI base n (some ⟨g, 0, none⟩) c (xs.take (i * 2) ++ [x0, x1] ++ xs.drop (i * 2)) w) := by
  obtain ⟨hbg, hnc, hcm, hxl, cur, hh, hcs, htk⟩ := own_block ho
  have hcl : cur.toList.length = c * 2 := by simpa using hcs
  have hxc : ∀ j v, xs[j]? = some v → w.cell? ⟨g, j, none⟩ = some v := fun j v hj => by
    rw [cell_of_row w g j cur _ (0, 0) hh, ← Array.getElem?_toList]
    have hlt := (List.getElem?_eq_some_iff.1 hj).1
    rw [← htk, List.getElem?_take_of_lt (by omega)] at hj
    exact hj
  have hsa : w.shape? vb = some (44, 2) := by
    unfold Blk at hb
    simp [World.shape?, hb]
  have hsb : w.shape? g = some (44, c * 2) := by simp [World.shape?, hh, hcs]
  have hov : ∀ lb cb, (callFunc 64 #[.slice (some ⟨vb, 0, none⟩) 1 1, .slice (some ⟨g, (i + 1) * 2, none⟩) lb cb]).run Tryz.prog w = .ok (.value (.bool false)) w := fun lb cb => by
    rw [run_callFunc_extern Tryz.func64 (by kernel_rfl) (by kernel_rfl) (by kernel_rfl) (e := Extern.SlicesOverlaps.overlaps #[26, 26] #[4]) (by kernel_rfl),
      Lib.run_overlaps_apart w 26 4 44 Tryz.underlying26 2 (fun _ => by kernel_rfl) ⟨vb, 0, none⟩ ⟨g, (i + 1) * 2, none⟩ 1 1 lb cb hne 44 44 2 (c * 2) hsa hsb (by omega) (hb.frozen 0) (hb.frozen 2)]
    rfl
  have hdl : (xs.drop (i * 2)).length = (n - i) * 2 := by rw [List.length_drop, hxl]; omega
  obtain ⟨R1, hR1⟩ : ∃ R1 : Array Value, R1 = (cur.toList.take ((i + 1) * 2) ++ xs.drop (i * 2) ++ cur.toList.drop ((i + 1) * 2 + (xs.drop (i * 2)).length)).toArray := ⟨_, rfl⟩
  have hR1s : R1.size = c * 2 := by rw [hR1]; simp; omega
  have hcp1 : ∀ ty dc sc, (Builtin.copy_ #[26, 26] ty #[.slice (some ⟨g, (i + 1) * 2, none⟩) (n - i) dc, .slice (some ⟨g, i * 2, none⟩) (n + 1 - i) sc]).run Tryz.prog w.drew = .ok (goInt (n - i : Nat)) (w.drew.setRow g R1) := fun ty dc sc => by
    rw [hR1]
    exact run_copy_rowS w.drew _ _ ty 44 g ((i + 1) * 2) (n - i) dc ⟨g, i * 2, none⟩ (n + 1 - i) sc (n - i) 2 cur _ (xs.drop (i * 2)) Tryz.underlying26 iinfo_two hh (by simp only [Nat.min_def]; split <;> omega) hdl
      (fun j v hj => by
        rw [List.getElem?_drop] at hj
        rw [Addr.add_lit]
        exact hxc _ v hj) (by rw [hdl]; omega) (fun v hv => h1 v (List.mem_of_mem_drop hv))
  have hh1 : (w.drew.setRow g R1).heap[g]? = some (.cells R1 44 (0, 0)) := (show Blk w.drew g 44 cur from hh).row R1
  obtain ⟨R2, hR2⟩ : ∃ R2 : Array Value, R2 = (R1.toList.take (i * 2) ++ [x0, x1] ++ R1.toList.drop (i * 2 + [x0, x1].length)).toArray := ⟨_, rfl⟩
  have hcp2 : ∀ (W : World), W.heap = (w.drew.setRow g R1).heap → ∀ ty dc, (Builtin.copy_ #[26, 26] ty #[.slice (some ⟨g, i * 2, none⟩) (n + 1 - i) dc, .slice (some ⟨vb, 0, none⟩) 1 1]).run Tryz.prog W = .ok (goInt (1 : Nat)) (W.setRow g R2) := fun W hW ty dc => by
    rw [hR2]
    exact run_copy_rowS W _ _ ty 44 g (i * 2) (n + 1 - i) dc ⟨vb, 0, none⟩ 1 1 1 2 R1 _ [x0, x1] Tryz.underlying26 iinfo_two (by rw [hW]; exact hh1) (by simp only [Nat.min_def]; split <;> omega) rfl
      (fun j v hj => by
        rw [Addr.add_lit]
        have h2 : (w.drew.setRow g R1).cell? ⟨vb, 0 + j, none⟩ = some v := by
          rw [cell_setRow_far _ _ (show vb ≠ g from hne), Nat.zero_add]
          exact (hb.cell j).trans (by simpa using hj)
        have h3 : W.cell? ⟨vb, 0 + j, none⟩ = (w.drew.setRow g R1).cell? ⟨vb, 0 + j, none⟩ := by simp only [World.cell?, hW]
        exact h3.trans h2) (by simp; omega) hx
  have hfin : (R2.toList).take ((n + 1) * 2) = xs.take (i * 2) ++ [x0, x1] ++ xs.drop (i * 2) := by
    have := shifted_take cur.toList xs [x0, x1] (n * 2) (i * 2) 2 hxl htk (by omega) rfl (by omega)
    rw [hR2, hR1]
    rw [show (n + 1) * 2 = n * 2 + 2 by omega, show (i + 1) * 2 = i * 2 + 2 by omega]
    simpa [shifted] using this
  have hR2s : R2.size = c * 2 := by rw [hR2]; simp; omega
  have HFIN := Lib.hid (show ∀ W : World, W.heap = (w.drew.setRow g R1).heap → W.os = w.os ∧ W.tape = w.tape ∧ W.output = w.output → (W.setRow g R2).ownsRow base 44 2 (.slice (some ⟨g, 0, none⟩) (n + 1) c) (n + 1) (xs.take (i * 2) ++ [x0, x1] ++ xs.drop (i * 2)) ∧ w.grownBy (W.setRow g R2) (some g) from fun W hW ho => by
    have hk : Blk W g 44 R1 := by unfold Blk; rw [hW]; exact hh1
    refine ⟨⟨by simp; omega, .inr ⟨g, c, R2, rfl, hbg, hk.row R2, hc, hcm, hR2s, hfin⟩⟩, grown_row ⟨ho.1, ho.2.1, ho.2.2, by rw [hW]; simp only [World.setRow, Array.size_modify]; exact Nat.le_refl _, fun k hk hne => ?_⟩ R2⟩
    have : g ≠ k := fun e => hne (by rw [e])
    rw [hW]
    simp only [World.setRow, Array.getElem?_modify]
    rw [if_neg this]
    rfl)
  clear hfin hR2s hR1s
  have hw1 : IntKind.i64.wrap ((i : Int) + 1) = (i : Int) + 1 := by unfold maxLen at hcm; rw [IntKind.wrap_i64]; omega
  have hw2 : IntKind.i64.wrap ((n : Int) + 1) = (n : Int) + 1 := by unfold maxLen at hcm; rw [IntKind.wrap_i64]; omega
  have hz2 : ¬ ((i : Int) = (n : Int)) := by omega
  have hz3 : decide ((c : Int) < (n : Int) + 1) = false := by simp; omega
  have hb1 : (0 : Int) ≤ (i : Int) + 1 := by omega
  have htn : ((i : Int) + 1).toNat = i + 1 := by omega
  have hin : i ≤ n := by omega
  have hb3 : (i : Int) ≤ (n : Int) + 1 := by omega
  have mixed : Tryz.prog.follows Departure.mixedOrders = true := by kernel_rfl
  have hb2 : ¬ (c = i + 1) := by omega
  have hb4 : ¬ (c = i) := by omega
  have hc63 : c ≤ 9223372036854775807 := by unfold maxLen at hcm; omega
  clear hR1 hR2
  go_enter Tryz.func41, Tryz.ntmps41
  go_wp2_with (simp only [hov])
  go_region_law_o (refine step_copy_runI rfl _ _ 26 26 rfl _ _ (by simp [Act.eval, Act.put]) (by simp [Act.eval, Act.put]) (hcp1 _ _ _) ?_)
  go_wp2_with (at_builtin; refine wpList_copy_runI _ rfl _ _ 26 26 rfl _ _ rfl rfl (hcp2 _ rfl _ _) ?_)
  go_ret
  exact ⟨_, rfl, HFIN.out _ rfl ⟨rfl, rfl, rfl⟩⟩
set_option maxRecDepth 100000 in
set_option maxHeartbeats 4000000 in
theorem ins_grow {base : Nat} (g n c i vb : Nat) (x0 x1 : Value) (xs : List Value) (w : World) (ho : w.ownsRow base 44 2 (.slice (some ⟨g, 0, none⟩) n c) n xs) (hb : Blk w vb 44 #[x0, x1]) (hi : i < n) (hc : c < n + 1) (hn : n ≤ 1000) (hbw : base ≤ w.heap.size)
    (h1 : ∀ u ∈ xs, u.oneCell' = true) (hx : ∀ u ∈ [x0, x1], u.oneCell' = true) :
    Calls Tryz.prog 41 #[.slice (some ⟨g, 0, none⟩) n c, .int .i64 i, .slice (some ⟨vb, 0, none⟩) 1 1] w (OutInsI base n (some ⟨g, 0, none⟩) c (xs.take (i * 2) ++ [x0, x1] ++ xs.drop (i * 2)) w) := by
  obtain ⟨hbg, hnc, hcm, hxl, cur, hh, hcs, htk⟩ := own_block ho
  obtain ⟨i0, hi0, hz0, hzs, hzb⟩ := info_parts iinfo_info
  have mixed : Tryz.prog.follows Departure.mixedOrders = true := by kernel_rfl
  have hxc : ∀ j v, xs[j]? = some v → w.cell? ⟨g, j, none⟩ = some v := fun j v hj => by
    rw [cell_of_row w g j cur _ (0, 0) hh, ← Array.getElem?_toList]
    have hlt := (List.getElem?_eq_some_iff.1 hj).1
    rw [← htk, List.getElem?_take_of_lt (by omega)] at hj
    exact hj
  have hgw : g < w.heap.size := (Array.getElem?_eq_some_iff.1 hh).1
  have hvw : vb < w.heap.size := hb.lt
  have hdl : (xs.drop (i * 2)).length = (n - i) * 2 := by rw [List.length_drop, hxl]; omega
  have htl : (xs.take (i * 2)).length = i * 2 := by rw [List.length_take, hxl]; omega
  have hik : i + (n + 1 - i) = n + 1 := by omega
  have hkk : (n : Int) + 1 - (i : Int) = ((n + 1 - i : Nat) : Int) := by omega
  have hold : (Builtin.firstCells i0.size i (.slice (some ⟨g, 0, none⟩) i c)).run Tryz.prog w.drew = .ok (xs.take (i * 2)).toArray w.drew := by
    rw [hzs]
    exact run_firstCells_some w.drew 2 i ⟨g, 0, none⟩ i c (xs.take (i * 2)) htl (fun j v hj => by
      rw [Addr.add_lit, Nat.zero_add]
      rw [List.getElem?_take] at hj
      split at hj
      · exact hxc j v hj
      · cases hj)
  have hG : grownCap w (n + 1) c 44 ≤ maxLen := grownCap_le_maxLen w (n + 1) c 44 (by unfold maxLen; omega)
  have hGn : n + 1 ≤ grownCap w (n + 1) c 44 := grownCap_ge w _ _ _
  have hrz : ∀ ty, (Builtin.append_ #[26, 3] ty #[.slice (some ⟨g, 0, none⟩) i c, .int .i64 ((n : Int) + 1 - (i : Int))]).run Tryz.prog w =
      .ok (.slice (some ⟨w.heap.size, 0, none⟩) (n + 1) (grownCap w (n + 1) c 44)) (w.drew.alloc (.cells ((xs.take (i * 2)).toArray ++ Builtin.zeroCells (Value.agg #[.slice none 0 0, .slice none 0 0]).cells (n + 1 - i) ++ Builtin.zeroCells (Value.agg #[.slice none 0 0, .slice none 0 0]).cells (grownCap w (n + 1) c 44 - (n + 1))) 44)) := fun ty => by
    have h := Lib.run_append_grow_zeros w 26 3 ty 44 i0 _ .i64 .i64 Tryz.underlying26 Tryz.underlying3 hi0 hz0 (some ⟨g, 0, none⟩) i c (xs.take (i * 2)) hold (n + 1 - i) (by omega) (by omega) (by omega) (by omega) (by rw [hzb]; omega) (by rw [hzb, hik]; exact growslice_fits (by omega) (by omega))
    rw [hik] at h
    rw [hkk]
    exact h
  generalize grownCap w (n + 1) c 44 = G at *
  obtain ⟨ROW, hROW⟩ : ∃ ROW : Array Value, ROW = (xs.take (i * 2)).toArray ++ Builtin.zeroCells (Value.agg #[.slice none 0 0, .slice none 0 0]).cells (n + 1 - i) ++ Builtin.zeroCells (Value.agg #[.slice none 0 0, .slice none 0 0]).cells (G - (n + 1)) := ⟨_, rfl⟩
  rw [← hROW] at hrz
  have hRl : ROW.size = G * 2 := by
    rw [hROW]
    simp [size_zeroCells, Value.cells]
    omega
  have hRt : ROW.toList.take (i * 2) = xs.take (i * 2) := by
    rw [hROW]
    simp only [Array.toList_append, List.append_assoc]
    rw [List.take_append_of_le_length (by simp; omega), List.take_of_length_le (by simp; omega)]
  obtain ⟨W1, hW1⟩ : ∃ W1, W1 = w.drew.alloc (.cells ROW 44) := ⟨_, rfl⟩
  rw [← hW1] at hrz
  have hN : W1.heap[w.heap.size]? = some (.cells ROW 44 (0, 0)) := by rw [hW1]; exact heap_alloc_new w.drew _
  have hOg : ∀ b, b < w.heap.size → W1.heap[b]? = w.heap[b]? := fun b hb => by rw [hW1]; exact Below.heap_alloc w.drew _ b hb
  obtain ⟨R1, hR1⟩ : ∃ R1 : Array Value, R1 = (ROW.toList.take (i * 2) ++ [x0, x1] ++ ROW.toList.drop (i * 2 + [x0, x1].length)).toArray := ⟨_, rfl⟩
  have hR1s : R1.size = G * 2 := by rw [hR1]; simp; omega
  have hcpA : ∀ (W : World), W.heap = W1.heap → ∀ ty dc, (Builtin.copy_ #[26, 26] ty #[.slice (some ⟨w.heap.size, i * 2, none⟩) (n + 1 - i) dc, .slice (some ⟨vb, 0, none⟩) 1 1]).run Tryz.prog W = .ok (goInt (1 : Nat)) (W.setRow w.heap.size R1) := fun W hW ty dc => by
    rw [hR1]
    exact run_copy_rowS W _ _ ty 44 w.heap.size (i * 2) (n + 1 - i) dc ⟨vb, 0, none⟩ 1 1 1 2 ROW _ [x0, x1] Tryz.underlying26 iinfo_two (by rw [hW]; exact hN) (by simp only [Nat.min_def]; split <;> omega) rfl
      (fun j v hj => by
        rw [Addr.add_lit, Nat.zero_add]
        have h2 : w.cell? ⟨vb, j, none⟩ = some v := (hb.cell j).trans (by simpa using hj)
        have h3 : W.cell? ⟨vb, j, none⟩ = w.cell? ⟨vb, j, none⟩ := World.cell?_of_block (show W.heap[vb]? = w.heap[vb]? by rw [hW]; exact hOg vb hvw)
        exact h3.trans h2) (by simp; omega) hx
  obtain ⟨R2, hR2⟩ : ∃ R2 : Array Value, R2 = (R1.toList.take ((i + 1) * 2) ++ xs.drop (i * 2) ++ R1.toList.drop ((i + 1) * 2 + (xs.drop (i * 2)).length)).toArray := ⟨_, rfl⟩
  have hR2s : R2.size = G * 2 := by rw [hR2]; simp; omega
  have hh1 : (W1.setRow w.heap.size R1).heap[w.heap.size]? = some (.cells R1 44 (0, 0)) := (show Blk W1 w.heap.size 44 ROW from hN).row R1
  have hOg1 : ∀ b, b < w.heap.size → (W1.setRow w.heap.size R1).heap[b]? = w.heap[b]? := fun b hb => by
    simp only [World.setRow, Array.getElem?_modify]
    rw [if_neg (by omega)]
    exact hOg b hb
  have hcpB : ∀ (W : World), W.heap = (W1.setRow w.heap.size R1).heap → ∀ ty dc sc, (Builtin.copy_ #[26, 26] ty #[.slice (some ⟨w.heap.size, (i + 1) * 2, none⟩) (n - i) dc, .slice (some ⟨g, i * 2, none⟩) (n - i) sc]).run Tryz.prog W = .ok (goInt (n - i : Nat)) (W.setRow w.heap.size R2) := fun W hW ty dc sc => by
    rw [hR2]
    exact run_copy_rowS W _ _ ty 44 w.heap.size ((i + 1) * 2) (n - i) dc ⟨g, i * 2, none⟩ (n - i) sc (n - i) 2 R1 _ (xs.drop (i * 2)) Tryz.underlying26 iinfo_two (by rw [hW]; exact hh1) (by simp only [Nat.min_def]; split <;> omega) hdl
      (fun j v hj => by
        rw [List.getElem?_drop] at hj
        rw [Addr.add_lit]
        have h3 : W.cell? ⟨g, i * 2 + j, none⟩ = w.cell? ⟨g, i * 2 + j, none⟩ := World.cell?_of_block (show W.heap[g]? = w.heap[g]? by rw [hW]; exact hOg1 g hgw)
        exact h3.trans (hxc _ v hj)) (by rw [hdl]; omega) (fun v hv => h1 v (List.mem_of_mem_drop hv))
  have hfin : (R2.toList).take ((n + 1) * 2) = xs.take (i * 2) ++ [x0, x1] ++ xs.drop (i * 2) := by
    have := laidIn_take ROW.toList xs [x0, x1] (n * 2) (i * 2) 2 hxl hRt (by omega) rfl (by simp; omega)
    rw [hR2, hR1]
    rw [show (n + 1) * 2 = n * 2 + 2 by omega, show (i + 1) * 2 = i * 2 + 2 by omega]
    simpa [laidIn] using this
  have HFIN := Lib.hid (show ∀ W : World, W.heap = (W1.setRow w.heap.size R1).heap → W.os = w.os ∧ W.tape = w.tape ∧ W.output = w.output → (W.setRow w.heap.size R2).ownsRow base 44 2 (.slice (some ⟨w.heap.size, 0, none⟩) (n + 1) G) (n + 1) (xs.take (i * 2) ++ [x0, x1] ++ xs.drop (i * 2)) ∧ w.grownBy (W.setRow w.heap.size R2) (some g) from fun W hW ho => by
    have hk : Blk W w.heap.size 44 R1 := by unfold Blk; rw [hW]; exact hh1
    refine ⟨⟨by simp; omega, .inr ⟨w.heap.size, G, R2, rfl, hbw, hk.row R2, hGn, hG, hR2s, hfin⟩⟩, ⟨ho.1, ho.2.1, ho.2.2, ?_, fun k hk hne => ?_⟩⟩
    · simp only [World.setRow, Array.size_modify]
      rw [hW]
      simp only [World.setRow, Array.size_modify]
      rw [hW1, World.size_alloc]
      exact Nat.le_succ _
    · simp only [World.setRow, Array.getElem?_modify]
      rw [if_neg (by omega), hW]
      exact hOg1 k hk)
  have hG63 : G ≤ 9223372036854775807 := by unfold maxLen at hG; omega
  have hc63 : c ≤ 9223372036854775807 := by omega
  have hz2 : ¬ ((i : Int) = (n : Int)) := by omega
  have hz3 : (c : Int) < (n : Int) + 1 := by omega
  have hw1 : IntKind.i64.wrap ((i : Int) + 1) = (i : Int) + 1 := by rw [IntKind.wrap_i64]; omega
  have hw2 : IntKind.i64.wrap ((n : Int) + 1) = (n : Int) + 1 := by rw [IntKind.wrap_i64]; omega
  have hb1 : (0 : Int) ≤ (i : Int) + 1 := by omega
  have hin : i ≤ n := by omega
  have htn : ((i : Int) + 1).toNat = i + 1 := by omega
  have hb3 : (i : Int) ≤ (n : Int) := by omega
  have hGi : ¬ (G = i) := by omega
  have hGim : ¬ (G = i + 1) := by omega
  have hci : ¬ (c = i) := by omega
  subst hW1
  have hE : ((w.alloc (.cells ROW 44)).drew).heap = (w.drew.alloc (.cells ROW 44)).heap := rfl
  have hF : (((w.alloc (.cells ROW 44)).drew.setRow w.heap.size R1).drew).heap = ((w.drew.alloc (.cells ROW 44)).setRow w.heap.size R1).heap := rfl
  clear hkk hik hold hROW hfin hR1 hR2 hN hh1
  go_enter Tryz.func41, Tryz.ntmps41
  go_wp2_with (first
    | (at_builtin; refine Lib.wpList_append_run _ rfl _ _ _ _ rfl _ _ rfl rfl _ _ (hrz _) ?_)
    | (at_builtin; refine wpList_copy_runI _ rfl _ _ 26 26 rfl _ _ rfl rfl (hcpA _ hE _ _) ?_))
  go_region_law_o (refine step_copy_runI rfl _ _ 26 26 rfl (.slice (some ⟨w.heap.size, (i + 1) * 2, none⟩) (n - i) (G - (i + 1))) (.slice (some ⟨g, i * 2, none⟩) (n - i) (c - i)) (by simp [Act.eval, Act.put]) (by simp [Act.eval, Act.put]) (hcpB _ hF 3 (G - (i + 1)) (c - i)) ?_)
  go_wp2
  go_ret
  exact ⟨_, rfl, HFIN.out _ hF ⟨rfl, rfl, rfl⟩⟩
set_option maxRecDepth 100000 in
set_option maxHeartbeats 4000000 in
theorem ins_any {base : Nat} (A : Option Addr) (n c i vb : Nat) (x0 x1 : Value) (xs : List Value) (w : World) (ho : w.ownsRow base 44 2 (.slice A n c) n xs) (hb : Blk w vb 44 #[x0, x1]) (hne : (Value.slice A n c).ownBlock ≠ some vb) (hi : i ≤ n) (hn : n ≤ 1000) (hbw : base ≤ w.heap.size)
    (h1 : ∀ u ∈ xs, u.oneCell' = true) (hx : ∀ u ∈ [x0, x1], u.oneCell' = true) :
    Calls Tryz.prog 41 #[.slice A n c, .int .i64 i, .slice (some ⟨vb, 0, none⟩) 1 1] w (OutInsI base n A c (xs.take (i * 2) ++ [x0, x1] ++ xs.drop (i * 2)) w) := by
  by_cases hin : i = n
  · subst hin
    obtain ⟨i0, hi0, hz0, hz1, hz2⟩ := info_parts iinfo_info
    have hxl : xs.length = i * 2 := ho.1
    have HO := Lib.hid ho
    have HR := Lib.hid (show Reads w (vb + 1) 2 (some ⟨vb, 0, none⟩) 1 [x0, x1] from ⟨rfl, fun _ => ⟨_, rfl, Nat.lt_succ_self _, fun j u hu => by
      rw [Addr.add_lit, Nat.zero_add]
      exact (hb.cell j).trans (by simpa using hu)⟩⟩)
    have hic : i ≤ c ∧ c ≤ maxLen := by
      rcases ho.2 with ⟨hv, h0⟩ | ⟨g, cap, cur, hv, _, _, hle, hmx, _⟩
      · injection hv with _ e1 e2
        subst e2
        exact ⟨by omega, by simp [maxLen]⟩
      · injection hv with _ _ e2
        subst e2
        exact ⟨hle, hmx⟩
    have htd : xs.take (i * 2) ++ [x0, x1] ++ xs.drop (i * 2) = xs ++ [x0, x1] := by rw [List.take_of_length_le (by omega), List.drop_of_length_le (by omega), List.append_nil]
    rw [htd]
    obtain ⟨hic1, hic2⟩ := hic
    unfold maxLen at hic2
    have HX := Lib.hid hx
    have hA : A = none ∧ i = 0 ∧ c = 0 ∨ ∃ g, A = some ⟨g, 0, none⟩ := by
      rcases ho.2 with ⟨hv, h0⟩ | ⟨g, cap, cur, hv, _⟩
      · injection hv with e1 e2 e3
        exact .inl ⟨e1, h0, e3⟩
      · injection hv with e1
        exact .inr ⟨g, e1⟩
    clear ho hb hne h1 hx htd hxl
    rcases hA with ⟨rfl, rfl, rfl⟩ | ⟨g, rfl⟩
    · go_enter Tryz.func41, Tryz.ntmps41
      go_wp2_with (at_builtin; go_loud (refine wpList_append_any _ rfl _ _ _ rfl base 44 i0 _ 2 48 Tryz.underlying26 hi0 hz0 hz1 hz2 rfl (by decide) _ _ _ rfl HO.out _ _ 1 1 _ rfl HR.out HX.out ?c1 ?c2 ?c3 ?_))
      case c1 => unfold maxLen; omega
      case c2 => omega
      case c3 => exact hbw
      intro v' w' hown hgrow _hat
      have HF := Lib.hid (⟨_, rfl, hown, hgrow⟩ : OutInsI base 0 none 0 (xs ++ [x0, x1]) w (.returned v') w')
      clear hown hgrow _hat
      go_wp2_with fail
      go_ret
      exact HF.out
    · by_cases hci : c = i
      · subst hci
        go_enter Tryz.func41, Tryz.ntmps41
        go_wp2_with (at_builtin; go_loud (refine wpList_append_any _ rfl _ _ _ rfl base 44 i0 _ 2 48 Tryz.underlying26 hi0 hz0 hz1 hz2 rfl (by decide) _ _ _ rfl HO.out _ _ 1 1 _ rfl HR.out HX.out ?c1 ?c2 ?c3 ?_))
        case c1 => unfold maxLen; omega
        case c2 => omega
        case c3 => exact hbw
        intro v' w' hown hgrow _hat
        have HF := Lib.hid (⟨_, rfl, hown, hgrow⟩ : OutInsI base c (some ⟨g, 0, none⟩) c (xs ++ [x0, x1]) w (.returned v') w')
        clear hown hgrow _hat
        go_wp2_with fail
        go_ret
        exact HF.out
      · have hci2 : ¬ (i = c) := fun e => hci e.symm
        go_enter Tryz.func41, Tryz.ntmps41
        go_wp2_with (at_builtin; go_loud (refine wpList_append_any _ rfl _ _ _ rfl base 44 i0 _ 2 48 Tryz.underlying26 hi0 hz0 hz1 hz2 rfl (by decide) _ _ _ rfl HO.out _ _ 1 1 _ rfl HR.out HX.out ?c1 ?c2 ?c3 ?_))
        case c1 => unfold maxLen; omega
        case c2 => omega
        case c3 => exact hbw
        intro v' w' hown hgrow _hat
        have HF := Lib.hid (⟨_, rfl, hown, hgrow⟩ : OutInsI base i (some ⟨g, 0, none⟩) c (xs ++ [x0, x1]) w (.returned v') w')
        clear hown hgrow _hat
        go_wp2_with fail
        go_ret
        exact HF.out
  · have hlt : i < n := by omega
    rcases A with _ | ad
    · exfalso
      rcases ho.2 with ⟨hv, h0⟩ | ⟨g, cap, cur, hv, _⟩
      · omega
      · cases hv
    obtain ⟨g, rfl⟩ : ∃ g, ad = ⟨g, 0, none⟩ := by
      rcases ho.2 with ⟨hv, h0⟩ | ⟨g, cap, cur, hv, _⟩
      · cases hv
      · injection hv with e1
        injection e1 with e1
        exact ⟨g, e1⟩
    by_cases hc : n + 1 ≤ c
    · exact ins_shift g n c i vb x0 x1 xs w ho hb (fun e => hne (by rw [e]; rfl)) hlt hc h1 hx
    · exact ins_grow g n c i vb x0 x1 xs w ho hb hlt (by omega) hn hbw h1 hx
end Go.Proofs.YtkmieonfhcmimaaGreatDoor

/- slices.Concat at slices of parts, at byte strings, at peers. No condition. -/
namespace Go.Proofs.YtkmieonfhcmimaaGreatDoor
open Go Go.RowKit
attribute [local go_sem ↓] Go.wp_at_zero Go.wp_at_succ
theorem hops_info : (Tryz.prog.info? 31).map (fun i => (i.zero, i.size, i.bytes)) = some (some (.slice none 0 0), 1, 24) := by kernel_rfl
/-- A slice, as a part of what is joined. -/
structure Seg where
  A : Option Addr
  n : Nat
  c : Nat
  xs : List Value
def Seg.v (p : Seg) : Value := .slice p.A p.n p.c
def segSize (ps : List Seg) : Nat := (ps.map (·.n)).sum
def segAll (ps : List Seg) : List Value := ps.flatMap (·.xs)
theorem segSize_take (ps : List Seg) (k : Nat) (h : k < ps.length) : segSize (ps.take (k + 1)) = segSize (ps.take k) + (ps[k]).n := by
  unfold segSize
  rw [List.take_succ_eq_append_getElem h, List.map_append, List.sum_append]
  simp
theorem segSize_le (ps : List Seg) (k : Nat) : segSize (ps.take k) ≤ segSize ps := by
  unfold segSize
  rw [show (ps.map (·.n)).sum = ((ps.take k ++ ps.drop k).map (·.n)).sum by rw [List.take_append_drop]]
  rw [List.map_append, List.sum_append]
  omega
theorem segAll_take (ps : List Seg) (k : Nat) (h : k < ps.length) : segAll (ps.take (k + 1)) = segAll (ps.take k) ++ (ps[k]).xs := by
  unfold segAll
  rw [List.take_succ_eq_append_getElem h, List.flatMap_append]
  simp
/-- A row in memory of the call's own. -/
def OwnS (t : TypeId) (size n : Nat) (l : List Value) (w : World) (e : Ending) (w' : World) : Prop := ∃ v, e = .returned v ∧ w'.ownsRow w.heap.size t size v n l ∧ Below w.heap.size w w'
set_option maxRecDepth 100000 in
set_option maxHeartbeats 1000000 in
theorem grow_nilH (n : Nat) (w : World) (hn : n ≤ 100000) : Calls Tryz.prog 36 #[.slice none 0 0, .int .i64 n] w (OwnS 31 1 0 [] w) := by
  obtain ⟨i0, hi0, hz0, hz1, hz2⟩ := info_parts hops_info
  by_cases h0 : n = 0
  · subst h0
    go_enter Tryz.func36, Tryz.ntmps36
    go_wp2
    go_ret
    exact ⟨_, rfl, World.ownsRow_nil _ _ _ _, Below.refl _ _⟩
  have hpos : 0 < n := by omega
  have hrz : ∀ ty, (Builtin.append_ #[22, 3] ty #[.slice none 0 0, .int .i64 (n : Int)]).run Tryz.prog w =
      .ok (.slice (some ⟨w.heap.size, 0, none⟩) n (grownCap w n 0 31)) (w.drew.alloc (.cells (Builtin.zeroCells (.slice none 0 0 : Value).cells n ++ Builtin.zeroCells (.slice none 0 0 : Value).cells (grownCap w n 0 31 - n)) 31)) := fun ty => by
    have h := Lib.run_append_grow_zeros (P := Tryz.prog) w 22 3 ty 31 i0 (.slice none 0 0) .i64 .i64 Tryz.underlying22 Tryz.underlying3 hi0 hz0 none 0 0 [] (run_firstCells_none w.drew i0.size 0 0 0) n (by omega) (by omega) (by omega) (by omega) (by rw [hz2]; omega) (growslice_fits (by omega) (by rw [hz2]; omega))
    simpa using h
  have hle : n ≤ grownCap w n 0 31 := grownCap_ge w _ _ _
  have hmx : grownCap w n 0 31 ≤ maxLen := grownCap_le_maxLen w n 0 31 (by unfold maxLen; omega)
  obtain ⟨G, hG⟩ : ∃ G, G = grownCap w n 0 31 := ⟨_, rfl⟩
  rw [← hG] at hrz hle hmx
  have hGG := Lib.hid hmx
  clear hG hmx
  go_enter Tryz.func36, Tryz.ntmps36
  go_wp2_with (at_builtin; refine Lib.wpList_append_run _ rfl _ _ _ _ rfl _ _ rfl rfl _ _ (hrz _) ?_)
  all_goals go_ret
  refine ⟨_, rfl, ⟨rfl, .inr ⟨w.heap.size, G, _, rfl, Nat.le_refl _, heap_alloc_new w _, Nat.zero_le _, hGG.out, ?_, by simp⟩⟩, ((Below.refl _ w).alloc (Nat.le_refl _) _).drew⟩
  rw [Array.size_append, size_zeroCells, size_zeroCells]
  simp
  omega
set_option maxRecDepth 100000 in
set_option maxHeartbeats 2000000 in
theorem concatH (ps : List Seg) (g c : Nat) (w : World) (hr : ∀ k (h : k < ps.length), w.cell? ⟨g, k, none⟩ = some (ps[k]).v) (hg : g < w.heap.size) (hc : ps.length ≤ 100) (hp : ∀ p ∈ ps, Reads w w.heap.size 1 p.A p.n p.xs ∧ ∀ u ∈ p.xs, u.oneCell' = true) (hs : segSize ps ≤ 100000) :
    Calls Tryz.prog 17 #[.slice (some ⟨g, 0, none⟩) ps.length c] w (OwnS 31 1 (segSize ps) (segAll ps) w) := by
  obtain ⟨i0, hi0, hz0, hz1, hz2⟩ := info_parts hops_info
  have HR := Lib.hid hr
  have HP := Lib.hid hp
  have HS := Lib.hid hs
  clear hr hp hs
  go_enter Tryz.func17, Tryz.ntmps17
  go_wp2_with fail
  go_loop [3, 11] (fun t i => ∃ k : Nat, k ≤ ps.length ∧ i = .int .i64 k ∧ t = .int .i64 (segSize (ps.take k))) (fun _ i => ps.length - (intOf i).toNat)
  case atStart => exact ⟨0, by omega, rfl, rfl⟩
  case round =>
    obtain ⟨k, hk, rfl, rfl⟩ := hrel
    by_cases hlt : k < ps.length
    · have hcell := HR.out k hlt
      have hb := segSize_le ps (k + 1)
      have h1 := segSize_take ps k hlt
      have h2 := HS.out
      have HB : Hid (segSize (ps.take (k + 1)) = segSize (ps.take k) + (ps[k]).n) := h1
      have hb2 : segSize (ps.take k) + (ps[k]).n ≤ 100000 := by omega
      clear h1 hb h2
      obtain ⟨q, hq⟩ : ∃ q, q = ps[k] := ⟨_, rfl⟩
      rw [← hq] at hcell HB hb2
      clear hq
      unfold Seg.v at hcell
      go_wp2_with fail
      go_round
      case rel => exact ⟨k + 1, by omega, by go_num, by rw [HB.out]; go_num⟩
      case measure => simp [intOf]; omega
    · have hkk : k = ps.length := by omega
      subst hkk
      have hS := HS.out
      rw [List.take_length]
      go_wp2_with fail
      refine (grow_nilH _ _ hS).mono ?_
      rintro e w1 ⟨v, rfl, hown, hb⟩
      have HO := Lib.hid hown
      have hz := hb.size
      clear hown
      go_wp2_with fail
      go_loopw [6, 27] (fun v i wr => ∃ k : Nat, k ≤ ps.length ∧ i = .int .i64 k ∧ wr.ownsRow w.heap.size 31 1 v (segSize (ps.take k)) (segAll (ps.take k)) ∧ Below w.heap.size w wr) (fun _ i _ => ps.length - (intOf i).toNat)
      case atStart => exact ⟨0, by omega, rfl, HO.out, hb⟩
      case round =>
        obtain ⟨k, hk, rfl, hown, hbr⟩ := hrel
        have HO2 := Lib.hid hown
        have HBR := Lib.hid hbr
        have hzr := hbr.size
        clear hown hbr HO hb hz hS
        by_cases hlt : k < ps.length
        · have hb := segSize_le ps (k + 1)
          have h1 := segSize_take ps k hlt
          have h2 := HS.out
          have h3 := segAll_take ps k hlt
          have hq1 := HP.out _ (List.getElem_mem hlt)
          have hcell := (HBR.out.cell (p := ⟨g, k, none⟩) hg).trans (HR.out k hlt)
          have hb2 : segSize (ps.take k) + (ps[k]).n ≤ 100000 := by omega
          have HB : Hid (segSize (ps.take (k + 1)) = segSize (ps.take k) + (ps[k]).n) := h1
          have HC : Hid (segAll (ps.take (k + 1)) = segAll (ps.take k) ++ (ps[k]).xs) := h3
          clear h1 hb h2 h3
          obtain ⟨q, hq⟩ : ∃ q, q = ps[k] := ⟨_, rfl⟩
          rw [← hq] at hcell HB hb2 HC hq1
          have HQ := Lib.hid (hq1.1.below HBR.out)
          have HQ1 := Lib.hid hq1.2
          clear hq hq1
          unfold Seg.v at hcell
          go_wp2_with (at_builtin; refine wpList_append_any _ rfl (.tmp 31) (.tmp 32) _ rfl w.heap.size 31 i0 _ 1 24 Tryz.underlying22 hi0 hz0 hz1 hz2 rfl (by decide) _ _ _ rfl HO2.out _ q.A q.n q.c q.xs rfl HQ.out HQ1.out ?c1 ?c2 ?c3 ?_)
          case c1 => unfold maxLen; omega
          case c2 => omega
          case c3 => exact hzr
          intro v2 w2 hown2 hgrow2 _hat
          have HO3 := Lib.hid hown2
          have HG := Lib.hid hgrow2
          clear hown2 hgrow2 _hat
          go_wp2_with fail
          go_roundw
          case rel => exact ⟨k + 1, by omega, by go_num, by rw [HB.out, HC.out]; exact HO3.out, HBR.out.grown HG.out hzr (fun j hj => (HO2.out.lt j hj).1)⟩
          case measure => simp [intOf]; omega
        · have hkk : k = ps.length := by omega
          subst hkk
          go_wp2_with fail
          go_ret
          have ho := HO2.out
          rw [List.take_length] at ho
          exact ⟨_, rfl, ho, HBR.out⟩
set_option maxRecDepth 100000 in
set_option maxHeartbeats 1000000 in
theorem grow_nilB (n : Nat) (w : World) (hn : n ≤ 100000) : Calls Tryz.prog 63 #[.slice none 0 0, .int .i64 n] w (OwnS 32 1 0 [] w) := by
  obtain ⟨i0, hi0, hz0, hz1, hz2⟩ := info_parts aslice_info
  by_cases h0 : n = 0
  · subst h0
    go_enter Tryz.func63, Tryz.ntmps63
    go_wp2
    go_ret
    exact ⟨_, rfl, World.ownsRow_nil _ _ _ _, Below.refl _ _⟩
  have hpos : 0 < n := by omega
  have hrz : ∀ ty, (Builtin.append_ #[29, 3] ty #[.slice none 0 0, .int .i64 (n : Int)]).run Tryz.prog w =
      .ok (.slice (some ⟨w.heap.size, 0, none⟩) n (grownCap w n 0 32)) (w.drew.alloc (.cells (Builtin.zeroCells (.slice none 0 0 : Value).cells n ++ Builtin.zeroCells (.slice none 0 0 : Value).cells (grownCap w n 0 32 - n)) 32)) := fun ty => by
    have h := Lib.run_append_grow_zeros (P := Tryz.prog) w 29 3 ty 32 i0 (.slice none 0 0) .i64 .i64 Tryz.underlying29 Tryz.underlying3 hi0 hz0 none 0 0 [] (run_firstCells_none w.drew i0.size 0 0 0) n (by omega) (by omega) (by omega) (by omega) (by rw [hz2]; omega) (growslice_fits (by omega) (by rw [hz2]; omega))
    simpa using h
  have hle : n ≤ grownCap w n 0 32 := grownCap_ge w _ _ _
  have hmx : grownCap w n 0 32 ≤ maxLen := grownCap_le_maxLen w n 0 32 (by unfold maxLen; omega)
  obtain ⟨G, hG⟩ : ∃ G, G = grownCap w n 0 32 := ⟨_, rfl⟩
  rw [← hG] at hrz hle hmx
  have hGG := Lib.hid hmx
  clear hG hmx
  go_enter Tryz.func63, Tryz.ntmps63
  go_wp2_with (at_builtin; refine Lib.wpList_append_run _ rfl _ _ _ _ rfl _ _ rfl rfl _ _ (hrz _) ?_)
  all_goals go_ret
  refine ⟨_, rfl, ⟨rfl, .inr ⟨w.heap.size, G, _, rfl, Nat.le_refl _, heap_alloc_new w _, Nat.zero_le _, hGG.out, ?_, by simp⟩⟩, ((Below.refl _ w).alloc (Nat.le_refl _) _).drew⟩
  rw [Array.size_append, size_zeroCells, size_zeroCells]
  simp
  omega
set_option maxRecDepth 100000 in
set_option maxHeartbeats 2000000 in
theorem concatB (ps : List Seg) (g c : Nat) (w : World) (hr : ∀ k (h : k < ps.length), w.cell? ⟨g, k, none⟩ = some (ps[k]).v) (hg : g < w.heap.size) (hc : ps.length ≤ 100) (hp : ∀ p ∈ ps, Reads w w.heap.size 1 p.A p.n p.xs ∧ ∀ u ∈ p.xs, u.oneCell' = true) (hs : segSize ps ≤ 100000) :
    Calls Tryz.prog 40 #[.slice (some ⟨g, 0, none⟩) ps.length c] w (OwnS 32 1 (segSize ps) (segAll ps) w) := by
  obtain ⟨i0, hi0, hz0, hz1, hz2⟩ := info_parts aslice_info
  have HR := Lib.hid hr
  have HP := Lib.hid hp
  have HS := Lib.hid hs
  clear hr hp hs
  go_enter Tryz.func40, Tryz.ntmps40
  go_wp2_with fail
  go_loop [3, 11] (fun t i => ∃ k : Nat, k ≤ ps.length ∧ i = .int .i64 k ∧ t = .int .i64 (segSize (ps.take k))) (fun _ i => ps.length - (intOf i).toNat)
  case atStart => exact ⟨0, by omega, rfl, rfl⟩
  case round =>
    obtain ⟨k, hk, rfl, rfl⟩ := hrel
    by_cases hlt : k < ps.length
    · have hcell := HR.out k hlt
      have hb := segSize_le ps (k + 1)
      have h1 := segSize_take ps k hlt
      have h2 := HS.out
      have HB : Hid (segSize (ps.take (k + 1)) = segSize (ps.take k) + (ps[k]).n) := h1
      have hb2 : segSize (ps.take k) + (ps[k]).n ≤ 100000 := by omega
      clear h1 hb h2
      obtain ⟨q, hq⟩ : ∃ q, q = ps[k] := ⟨_, rfl⟩
      rw [← hq] at hcell HB hb2
      clear hq
      unfold Seg.v at hcell
      go_wp2_with fail
      go_round
      case rel => exact ⟨k + 1, by omega, by go_num, by rw [HB.out]; go_num⟩
      case measure => simp [intOf]; omega
    · have hkk : k = ps.length := by omega
      subst hkk
      have hS := HS.out
      rw [List.take_length]
      go_wp2_with fail
      refine (grow_nilB _ _ hS).mono ?_
      rintro e w1 ⟨v, rfl, hown, hb⟩
      have HO := Lib.hid hown
      have hz := hb.size
      clear hown
      go_wp2_with fail
      go_loopw [6, 27] (fun v i wr => ∃ k : Nat, k ≤ ps.length ∧ i = .int .i64 k ∧ wr.ownsRow w.heap.size 32 1 v (segSize (ps.take k)) (segAll (ps.take k)) ∧ Below w.heap.size w wr) (fun _ i _ => ps.length - (intOf i).toNat)
      case atStart => exact ⟨0, by omega, rfl, HO.out, hb⟩
      case round =>
        obtain ⟨k, hk, rfl, hown, hbr⟩ := hrel
        have HO2 := Lib.hid hown
        have HBR := Lib.hid hbr
        have hzr := hbr.size
        clear hown hbr HO hb hz hS
        by_cases hlt : k < ps.length
        · have hb := segSize_le ps (k + 1)
          have h1 := segSize_take ps k hlt
          have h2 := HS.out
          have h3 := segAll_take ps k hlt
          have hq1 := HP.out _ (List.getElem_mem hlt)
          have hcell := (HBR.out.cell (p := ⟨g, k, none⟩) hg).trans (HR.out k hlt)
          have hb2 : segSize (ps.take k) + (ps[k]).n ≤ 100000 := by omega
          have HB : Hid (segSize (ps.take (k + 1)) = segSize (ps.take k) + (ps[k]).n) := h1
          have HC : Hid (segAll (ps.take (k + 1)) = segAll (ps.take k) ++ (ps[k]).xs) := h3
          clear h1 hb h2 h3
          obtain ⟨q, hq⟩ : ∃ q, q = ps[k] := ⟨_, rfl⟩
          rw [← hq] at hcell HB hb2 HC hq1
          have HQ := Lib.hid (hq1.1.below HBR.out)
          have HQ1 := Lib.hid hq1.2
          clear hq hq1
          unfold Seg.v at hcell
          go_wp2_with (at_builtin; refine wpList_append_any _ rfl (.tmp 31) (.tmp 32) _ rfl w.heap.size 32 i0 _ 1 24 Tryz.underlying29 hi0 hz0 hz1 hz2 rfl (by decide) _ _ _ rfl HO2.out _ q.A q.n q.c q.xs rfl HQ.out HQ1.out ?c1 ?c2 ?c3 ?_)
          case c1 => unfold maxLen; omega
          case c2 => omega
          case c3 => exact hzr
          intro v2 w2 hown2 hgrow2 _hat
          have HO3 := Lib.hid hown2
          have HG := Lib.hid hgrow2
          clear hown2 hgrow2 _hat
          go_wp2_with fail
          go_roundw
          case rel => exact ⟨k + 1, by omega, by go_num, by rw [HB.out, HC.out]; exact HO3.out, HBR.out.grown HG.out hzr (fun j hj => (HO2.out.lt j hj).1)⟩
          case measure => simp [intOf]; omega
        · have hkk : k = ps.length := by omega
          subst hkk
          go_wp2_with fail
          go_ret
          have ho := HO2.out
          rw [List.take_length] at ho
          exact ⟨_, rfl, ho, HBR.out⟩
set_option maxRecDepth 100000 in
set_option maxHeartbeats 1000000 in
theorem grow_nilI (n : Nat) (w : World) (hn : n ≤ 100000) : Calls Tryz.prog 62 #[.slice none 0 0, .int .i64 n] w (OwnS 44 2 0 [] w) := by
  obtain ⟨i0, hi0, hz0, hz1, hz2⟩ := info_parts iinfo_info
  by_cases h0 : n = 0
  · subst h0
    go_enter Tryz.func62, Tryz.ntmps62
    go_wp2
    go_ret
    exact ⟨_, rfl, World.ownsRow_nil _ _ _ _, Below.refl _ _⟩
  have hpos : 0 < n := by omega
  have hrz : ∀ ty, (Builtin.append_ #[26, 3] ty #[.slice none 0 0, .int .i64 (n : Int)]).run Tryz.prog w =
      .ok (.slice (some ⟨w.heap.size, 0, none⟩) n (grownCap w n 0 44)) (w.drew.alloc (.cells (Builtin.zeroCells (.agg #[.slice none 0 0, .slice none 0 0] : Value).cells n ++ Builtin.zeroCells (.agg #[.slice none 0 0, .slice none 0 0] : Value).cells (grownCap w n 0 44 - n)) 44)) := fun ty => by
    have h := Lib.run_append_grow_zeros (P := Tryz.prog) w 26 3 ty 44 i0 (.agg #[.slice none 0 0, .slice none 0 0]) .i64 .i64 Tryz.underlying26 Tryz.underlying3 hi0 hz0 none 0 0 [] (run_firstCells_none w.drew i0.size 0 0 0) n (by omega) (by omega) (by omega) (by omega) (by rw [hz2]; omega) (growslice_fits (by omega) (by rw [hz2]; omega))
    simpa using h
  have hle : n ≤ grownCap w n 0 44 := grownCap_ge w _ _ _
  have hmx : grownCap w n 0 44 ≤ maxLen := grownCap_le_maxLen w n 0 44 (by unfold maxLen; omega)
  obtain ⟨G, hG⟩ : ∃ G, G = grownCap w n 0 44 := ⟨_, rfl⟩
  rw [← hG] at hrz hle hmx
  have hGG := Lib.hid hmx
  clear hG hmx
  go_enter Tryz.func62, Tryz.ntmps62
  go_wp2_with (at_builtin; refine Lib.wpList_append_run _ rfl _ _ _ _ rfl _ _ rfl rfl _ _ (hrz _) ?_)
  all_goals go_ret
  refine ⟨_, rfl, ⟨rfl, .inr ⟨w.heap.size, G, _, rfl, Nat.le_refl _, heap_alloc_new w _, Nat.zero_le _, hGG.out, ?_, by simp⟩⟩, ((Below.refl _ w).alloc (Nat.le_refl _) _).drew⟩
  rw [Array.size_append, size_zeroCells, size_zeroCells]
  simp
  omega
set_option maxRecDepth 100000 in
set_option maxHeartbeats 2000000 in
theorem concatI (ps : List Seg) (g c : Nat) (w : World) (hr : ∀ k (h : k < ps.length), w.cell? ⟨g, k, none⟩ = some (ps[k]).v) (hg : g < w.heap.size) (hc : ps.length ≤ 100) (hp : ∀ p ∈ ps, Reads w w.heap.size 2 p.A p.n p.xs ∧ ∀ u ∈ p.xs, u.oneCell' = true) (hs : segSize ps ≤ 100000) :
    Calls Tryz.prog 37 #[.slice (some ⟨g, 0, none⟩) ps.length c] w (OwnS 44 2 (segSize ps) (segAll ps) w) := by
  obtain ⟨i0, hi0, hz0, hz1, hz2⟩ := info_parts iinfo_info
  have HR := Lib.hid hr
  have HP := Lib.hid hp
  have HS := Lib.hid hs
  clear hr hp hs
  go_enter Tryz.func37, Tryz.ntmps37
  go_wp2_with fail
  go_loop [3, 11] (fun t i => ∃ k : Nat, k ≤ ps.length ∧ i = .int .i64 k ∧ t = .int .i64 (segSize (ps.take k))) (fun _ i => ps.length - (intOf i).toNat)
  case atStart => exact ⟨0, by omega, rfl, rfl⟩
  case round =>
    obtain ⟨k, hk, rfl, rfl⟩ := hrel
    by_cases hlt : k < ps.length
    · have hcell := HR.out k hlt
      have hb := segSize_le ps (k + 1)
      have h1 := segSize_take ps k hlt
      have h2 := HS.out
      have HB : Hid (segSize (ps.take (k + 1)) = segSize (ps.take k) + (ps[k]).n) := h1
      have hb2 : segSize (ps.take k) + (ps[k]).n ≤ 100000 := by omega
      clear h1 hb h2
      obtain ⟨q, hq⟩ : ∃ q, q = ps[k] := ⟨_, rfl⟩
      rw [← hq] at hcell HB hb2
      clear hq
      unfold Seg.v at hcell
      go_wp2_with fail
      go_round
      case rel => exact ⟨k + 1, by omega, by go_num, by rw [HB.out]; go_num⟩
      case measure => simp [intOf]; omega
    · have hkk : k = ps.length := by omega
      subst hkk
      have hS := HS.out
      rw [List.take_length]
      go_wp2_with fail
      refine (grow_nilI _ _ hS).mono ?_
      rintro e w1 ⟨v, rfl, hown, hb⟩
      have HO := Lib.hid hown
      have hz := hb.size
      clear hown
      go_wp2_with fail
      go_loopw [6, 27] (fun v i wr => ∃ k : Nat, k ≤ ps.length ∧ i = .int .i64 k ∧ wr.ownsRow w.heap.size 44 2 v (segSize (ps.take k)) (segAll (ps.take k)) ∧ Below w.heap.size w wr) (fun _ i _ => ps.length - (intOf i).toNat)
      case atStart => exact ⟨0, by omega, rfl, HO.out, hb⟩
      case round =>
        obtain ⟨k, hk, rfl, hown, hbr⟩ := hrel
        have HO2 := Lib.hid hown
        have HBR := Lib.hid hbr
        have hzr := hbr.size
        clear hown hbr HO hb hz hS
        by_cases hlt : k < ps.length
        · have hb := segSize_le ps (k + 1)
          have h1 := segSize_take ps k hlt
          have h2 := HS.out
          have h3 := segAll_take ps k hlt
          have hq1 := HP.out _ (List.getElem_mem hlt)
          have hcell := (HBR.out.cell (p := ⟨g, k, none⟩) hg).trans (HR.out k hlt)
          have hb2 : segSize (ps.take k) + (ps[k]).n ≤ 100000 := by omega
          have HB : Hid (segSize (ps.take (k + 1)) = segSize (ps.take k) + (ps[k]).n) := h1
          have HC : Hid (segAll (ps.take (k + 1)) = segAll (ps.take k) ++ (ps[k]).xs) := h3
          clear h1 hb h2 h3
          obtain ⟨q, hq⟩ : ∃ q, q = ps[k] := ⟨_, rfl⟩
          rw [← hq] at hcell HB hb2 HC hq1
          have HQ := Lib.hid (hq1.1.below HBR.out)
          have HQ1 := Lib.hid hq1.2
          clear hq hq1
          unfold Seg.v at hcell
          go_wp2_with (at_builtin; refine wpList_append_any _ rfl (.tmp 31) (.tmp 32) _ rfl w.heap.size 44 i0 _ 2 48 Tryz.underlying26 hi0 hz0 hz1 hz2 rfl (by decide) _ _ _ rfl HO2.out _ q.A q.n q.c q.xs rfl HQ.out HQ1.out ?c1 ?c2 ?c3 ?_)
          case c1 => unfold maxLen; omega
          case c2 => omega
          case c3 => exact hzr
          intro v2 w2 hown2 hgrow2 _hat
          have HO3 := Lib.hid hown2
          have HG := Lib.hid hgrow2
          clear hown2 hgrow2 _hat
          go_wp2_with fail
          go_roundw
          case rel => exact ⟨k + 1, by omega, by go_num, by rw [HB.out, HC.out]; exact HO3.out, HBR.out.grown HG.out hzr (fun j hj => (HO2.out.lt j hj).1)⟩
          case measure => simp [intOf]; omega
        · have hkk : k = ps.length := by omega
          subst hkk
          go_wp2_with fail
          go_ret
          have ho := HO2.out
          rw [List.take_length] at ho
          exact ⟨_, rfl, ho, HBR.out⟩
end Go.Proofs.YtkmieonfhcmimaaGreatDoor

/- slices.BinarySearchFunc at peers with the closure of laws.addrMerged. No condition. -/
namespace Go.Proofs.YtkmieonfhcmimaaGreatDoor
open Go Go.RowKit Go.Sort
attribute [local go_sem ↓] Go.wp_at_zero Go.wp_at_succ
set_option maxRecDepth 100000 in
set_option maxHeartbeats 1000000 in
theorem mcmp (p q : Part) (A : Option Addr) (n c : Nat) (w : World) (hp : RB w w.heap.size p.A p.n p.c p.l) (hq : RB w w.heap.size q.A q.n q.c q.l) :
    Calls Tryz.prog 39 #[.agg #[.slice p.A p.n p.c, .slice A n c], .slice q.A q.n q.c] w fun e w' => e = .returned (.int .i64 (cmpB p.l q.l)) ∧ Below w.heap.size w w' := by
  have hb := (Below.refl _ w).alloc (Nat.le_refl _) (.cells #[.slice p.A p.n p.c, .slice A n c] 44)
  have HC := Lib.hid (cmp_bytes p.A q.A p.n p.c q.n q.c p.l q.l _ (hp.next hb) (hq.next hb))
  have HB := Lib.hid hb
  clear hb hp hq
  generalize cmpB p.l q.l = r at *
  go_enter Tryz.func39, Tryz.ntmps39
  go_wp2_with fail
  refine HC.out.mono ?_
  rintro e w' ⟨rfl, rfl⟩
  go_wp2_with fail
  go_ret
  exact ⟨rfl, HB.out⟩
theorem cells_get (xs : List Peer) : ∀ i (hi : i < xs.length), (xs.flatMap Who.cells)[i * 2]? = some (xs[i]).p.v ∧ (xs.flatMap Who.cells)[i * 2 + 1]? = some (.slice (xs[i]).A (xs[i]).n (xs[i]).c) := by
  induction xs with
  | nil => intro i hi; simp at hi
  | cons q xs ih =>
    intro i hi
    rcases i with _ | i
    · exact ⟨rfl, rfl⟩
    · have := ih i (by simpa using hi)
      rw [show (q :: xs).flatMap Who.cells = q.p.v :: .slice q.A q.n q.c :: xs.flatMap Who.cells from rfl, show (i + 1) * 2 = i * 2 + 1 + 1 by omega]
      simpa using this
theorem rises_lt {l : List (List UInt8)} (h : Rises l) {i j : Nat} (hi : i < l.length) (hj : j < l.length) (hij : i < j) : cmpB l[i] l[j] < 0 := List.pairwise_iff_getElem.1 h i j hi hj hij
/-- Where an ID stands among others that rise, or would stand. -/
structure Stands (ids : List (List UInt8)) (q : List UInt8) (k : Nat) : Prop where
  le : k ≤ ids.length
  lt : ∀ j (hj : j < ids.length), j < k → cmpB ids[j] q < 0
  ge : ∀ j (hj : j < ids.length), k ≤ j → ¬ cmpB ids[j] q < 0
theorem stands_lt {ids : List (List UInt8)} {q : List UInt8} (hr : Rises ids) {i h : Nat} (hh : h < ids.length) (hc : cmpB ids[h] q < 0) (_hlt : ∀ j (hj : j < ids.length), j < i → cmpB ids[j] q < 0) : ∀ j (hj : j < ids.length), j < h + 1 → cmpB ids[j] q < 0 := fun j hj hjh => by
  rcases Nat.lt_or_ge j h with h1 | h1
  · exact cmp_trans _ _ _ (rises_lt hr hj hh h1) hc
  · obtain rfl : j = h := by omega
    exact hc
theorem stands_ge {ids : List (List UInt8)} {q : List UInt8} (hr : Rises ids) {h : Nat} (hh : h < ids.length) (hc : ¬ cmpB ids[h] q < 0) : ∀ j (hj : j < ids.length), h ≤ j → ¬ cmpB ids[j] q < 0 := fun j hj hjh => by
  rcases Nat.lt_or_ge h j with h1 | h1
  · exact fun h2 => hc (cmp_trans _ _ _ (rises_lt hr hh hj h1) h2)
  · obtain rfl : j = h := by omega
    exact hc
/-- What the search returns. -/
def OutSearch (xs : List Peer) (l : List UInt8) (w : World) (e : Ending) (w' : World) : Prop :=
  ∃ (k : Nat) (f : Bool), e = .returned (.tuple #[.int .i64 k, .bool f]) ∧ Stands (xs.map (·.p.l)) l k ∧ (f = true ↔ ∃ hk : k < xs.length, (xs[k]).p.l = l) ∧ Below w.heap.size w w'
set_option maxRecDepth 100000 in
set_option maxHeartbeats 4000000 in
theorem bsearch (xs : List Peer) (A : Option Addr) (n c : Nat) (q : Part) (w : World) (h : Reads w w.heap.size 2 A n (xs.flatMap Who.cells)) (hp : ∀ x ∈ xs, RB w w.heap.size x.p.A x.p.n x.p.c x.p.l) (hq : RB w w.heap.size q.A q.n q.c q.l) (hr : Rises (xs.map (·.p.l))) (hl : xs.length = n) (hn : n ≤ 1000) :
    Calls Tryz.prog 38 #[.slice A n c, .slice q.A q.n q.c, .func (Fn.func 39) #[] #[]] w (OutSearch xs q.l w) := by
  have HH := Lib.hid h
  have HP := Lib.hid hp
  have HQ := Lib.hid hq
  have HR := Lib.hid hr
  have HL := Lib.hid hl
  clear h hp hq hr hl
  go_enter Tryz.func38, Tryz.ntmps38
  go_wp2_with fail
  go_loopw [9, 10] (fun v v2 wr => ∃ i j : Nat, v = .int .i64 i ∧ v2 = .int .i64 j ∧ i ≤ j ∧ j ≤ n ∧ (∀ m (hm : m < (xs.map (·.p.l)).length), m < i → cmpB (xs.map (·.p.l))[m] q.l < 0) ∧ (∀ m (hm : m < (xs.map (·.p.l)).length), j ≤ m → ¬ cmpB (xs.map (·.p.l))[m] q.l < 0) ∧ Below w.heap.size w wr) (fun v v2 _ => (intOf v2).toNat - (intOf v).toNat)
  case atStart => exact ⟨0, n, rfl, rfl, by omega, by omega, fun m _ h => absurd h (by omega), fun m hm h => by rw [List.length_map, HL.out] at hm; omega, Below.refl _ _⟩
  case round =>
    obtain ⟨i, j, rfl, rfl, hij, hjn, hlt, hge, hb⟩ := hrel
    have HLT := Lib.hid hlt
    have HGE := Lib.hid hge
    have HB := Lib.hid hb
    clear hlt hge hb
    by_cases hlt : i < j
    · obtain ⟨m, hm⟩ : ∃ m, m = (i + j) / 2 := ⟨_, rfl⟩
      have him : i ≤ m := by omega
      have hmj : m < j := by omega
      have hmn : m < n := by omega
      have hmx : m < xs.length := by rw [HL.out]; exact hmn
      obtain ⟨ad, rfl, hbk, hcell⟩ := (HH.out.below HB.out).2 (by omega)
      have hg := cells_get xs m hmx
      have c0 := hcell _ _ hg.1
      have c1 := hcell _ _ hg.2
      rw [add_succ _ _ 1 (by decide)] at c1
      have hbk2 : ad.block < wr.heap.size := Nat.lt_of_lt_of_le hbk HB.out.size
      have hid : (xs.map (·.p.l))[m]'(by simpa using hmx) = (xs[m]).p.l := by simp
      have HC := Lib.hid (mcmp (xs[m]).p q (xs[m]).A (xs[m]).n (xs[m]).c wr (((HP.out _ (List.getElem_mem hmx)).below HB.out).more HB.out.size) ((HQ.out.below HB.out).more HB.out.size))
      have HUP := Lib.hid (fun (hc : cmpB (xs[m]).p.l q.l < 0) => stands_lt HR.out (i := i) (show m < (xs.map (·.p.l)).length by simpa using hmx) (by rw [hid]; exact hc) HLT.out)
      have HDN := Lib.hid (fun (hc : ¬ cmpB (xs[m]).p.l q.l < 0) => stands_ge HR.out (show m < (xs.map (·.p.l)).length by simpa using hmx) (by rw [hid]; exact hc))
      generalize xs[m] = x at *
      unfold Part.v at c0
      obtain ⟨r, hrr⟩ : ∃ r, r = cmpB x.p.l q.l := ⟨_, rfl⟩
      rw [← hrr] at HC HUP HDN
      have hz1 : IntKind.i64.wrap ((i : Int) + (j : Int)) = (i : Int) + (j : Int) := by rw [IntKind.wrap_i64]; omega
      rw [hm] at c0 c1
      have HM := Lib.hid hm
      clear hcell hg hid hmx hm hrr
      go_wp2_with fail
      refine HC.out.mono ?_
      rintro e w3 ⟨rfl, hb3⟩
      have HB3 := Lib.hid (HB.out.trans (hb3.mono HB.out.size))
      clear hb3
      by_cases hc : r < 0
      · have hd : decide (r < 0) = true := by simpa using hc
        go_wp2_with fail
        go_roundw
        case rel => exact ⟨m + 1, j, by have := HM.out; congr 1; omega, rfl, by omega, by omega, HUP.out hc, fun m hm h => Int.not_lt.2 (HGE.out m hm h), HB3.out⟩
        case measure => have := HM.out; simp [intOf]; omega
      · have hd : decide (r < 0) = false := by simpa using hc
        go_wp2_with fail
        go_roundw
        case rel => exact ⟨i, m, rfl, by have := HM.out; congr 1; omega, by omega, by omega, HLT.out, fun m hm h => Int.not_lt.2 (HDN.out hc m hm h), HB3.out⟩
        case measure => have := HM.out; simp [intOf]; omega
    · obtain rfl : i = j := by omega
      have HST := Lib.hid (⟨by rw [List.length_map, HL.out]; exact hjn, HLT.out, HGE.out⟩ : Stands (xs.map (·.p.l)) q.l i)
      by_cases hin : i < n
      · have hmx : i < xs.length := by rw [HL.out]; exact hin
        obtain ⟨ad, rfl, hbk, hcell⟩ := (HH.out.below HB.out).2 (by omega)
        have hg := cells_get xs i hmx
        have c0 := hcell _ _ hg.1
        have c1 := hcell _ _ hg.2
        rw [add_succ _ _ 1 (by decide)] at c1
        have hbk2 : ad.block < wr.heap.size := Nat.lt_of_lt_of_le hbk HB.out.size
        have HC := Lib.hid (mcmp (xs[i]).p q (xs[i]).A (xs[i]).n (xs[i]).c wr (((HP.out _ (List.getElem_mem hmx)).below HB.out).more HB.out.size) ((HQ.out.below HB.out).more HB.out.size))
        have HEQ := Lib.hid (show (cmpB (xs[i]).p.l q.l == 0) = true ↔ ∃ hk : i < xs.length, (xs[i]).p.l = q.l from ⟨fun h => ⟨hmx, cmp_eq_zero _ _ (by simpa using h)⟩, fun ⟨_, h⟩ => by rw [h, cmp_refl]; rfl⟩)
        obtain ⟨x, hx⟩ : ∃ x, x = xs[i] := ⟨_, rfl⟩
        rw [← hx] at c0 c1 HC
        have HX := Lib.hid hx
        unfold Part.v at c0
        obtain ⟨r, hrr⟩ : ∃ r, r = cmpB x.p.l q.l := ⟨_, rfl⟩
        rw [← hrr] at HC
        have HRR := Lib.hid hrr
        clear hcell hg hrr hx
        go_wp2_with fail
        refine HC.out.mono ?_
        rintro e w3 ⟨rfl, hb3⟩
        have HB3 := Lib.hid (HB.out.trans (hb3.mono HB.out.size))
        clear hb3
        go_wp2_with fail
        go_ret2
        refine ⟨i, _, rfl, HST.out, ?_, HB3.out⟩
        rw [HRR.out, HX.out]
        exact HEQ.out
      · have HNO := Lib.hid (show (false = true) ↔ ∃ hk : i < xs.length, (xs[i]).p.l = q.l from ⟨fun h => by simp at h, fun ⟨hk, _⟩ => by rw [HL.out] at hk; omega⟩)
        go_wp2_with fail
        go_ret2
        exact ⟨i, false, rfl, HST.out, HNO.out, HB.out⟩
end Go.Proofs.YtkmieonfhcmimaaGreatDoor

/- Peers in memory of whatever make, and what merging lists of them gives. No condition. -/
namespace Go.Proofs.YtkmieonfhcmimaaGreatDoor
open Go Go.RowKit Go.Sort
/-- A slice of byte strings in a block of byte slices. -/
structure TL (w : World) (A : Option Addr) (n c : Nat) (ps : List Part) : Prop where
  reads : Reads w w.heap.size 1 A n (partCells ps)
  cap : n ≤ c
  max : c ≤ maxLen
  ty : ∀ ad, A = some ad → ∃ cs fr, w.heap[ad.block]? = some (.cells cs 32 fr)
  tbs : TBs w ps
theorem TL.below {w w' : World} {A : Option Addr} {n c : Nat} {ps : List Part} (h : TL w A n c ps) (hb : Below w.heap.size w w') : TL w' A n c ps :=
  ⟨h.reads.next hb, h.cap, h.max, fun ad e => by
    obtain ⟨cs, fr, hc⟩ := h.ty ad e
    exact ⟨cs, fr, (hb.block _ (heap_lt hc)).trans hc⟩, fun p hp => (h.tbs p hp).below hb⟩
theorem TL.grown {w w' : World} {A : Option Addr} {n c b m : Nat} {v : Value} {xs : List Value} {ps : List Part} (h : TL w A n c ps) (ho : w.ownsRow b 44 2 v m xs) (hg : w.grownBy w' v.ownBlock) : TL w' A n c ps := by
  have hne : ∀ ad, A = some ad → some ad.block ≠ v.ownBlock := fun ad e e2 => by
    obtain ⟨cs, fr, hc⟩ := h.ty ad e
    rcases ho.2 with ⟨rfl, _⟩ | ⟨g, cap, cur, rfl, _, hh, _⟩
    · simp [Value.ownBlock] at e2
    · simp [Value.ownBlock] at e2
      rw [e2, hh] at hc
      injection hc with hc
      injection hc with _ ht
      cases ht
  refine ⟨⟨h.reads.1, fun hn => ?_⟩, h.cap, h.max, fun ad e => ?_, fun p hp => (h.tbs p hp).grown ho (by decide) hg⟩
  · obtain ⟨ad, e, hlt, hc⟩ := h.reads.2 hn
    exact ⟨ad, e, Nat.lt_of_lt_of_le hlt hg.size, fun j u hu => (World.cell?_of_block (hg.block _ (by rw [block_of_add]; exact hlt) (by rw [block_of_add]; exact hne ad e))).trans (hc j u hu)⟩
  · obtain ⟨cs, fr, hc⟩ := h.ty ad e
    exact ⟨cs, fr, (hg.block _ (heap_lt hc) (hne ad e)).trans hc⟩
theorem TL.of_own {w : World} {b : Nat} {A : Option Addr} {n c : Nat} {ps : List Part} (h : w.ownsRow b 32 1 (.slice A n c) n (partCells ps)) (ht : TBs w ps) : TL w A n c ps := by
  have hl := LS.of_own h ht
  refine ⟨Reads.of_own h, hl.cap, hl.max, fun ad e => ?_, ht⟩
  rcases h.2 with ⟨hv, _⟩ | ⟨g, cap, cur, hv, _, hh, _⟩
  · injection hv with e1
    rw [e1] at e
    cases e
  · injection hv with e1
    rw [e1] at e
    injection e with e
    subst e
    exact ⟨_, _, hh⟩
theorem TL.ls {w : World} {A : Option Addr} {n c : Nat} {ps : List Part} (h : TL w A n c ps) : LS w w.heap.size A n c ps := by
  have hln : ps.length = n := by have := h.reads.1; rw [partCells_length] at this; omega
  refine ⟨hln, h.cap, h.max, fun i hi => ?_⟩
  obtain ⟨ad, e1, hlt, hc⟩ := h.reads.2 (by omega)
  exact ⟨ad, e1, hlt, hc i _ (by simp [partCells, hi]), (h.tbs _ (List.getElem_mem hi)).rb⟩
structure PeerT (w : World) (x : Peer) : Prop where
  tb : TB w x.p
  tl : TL w x.A x.n x.c x.x.1
  he : x.x.1.map (·.l) = x.x.2.map addrBytes
theorem PeerT.below {w w' : World} {x : Peer} (h : PeerT w x) (hb : Below w.heap.size w w') : PeerT w' x := ⟨h.tb.below hb, h.tl.below hb, h.he⟩
theorem PeerT.grown {w w' : World} {b m : Nat} {v : Value} {xs : List Value} {x : Peer} (h : PeerT w x) (ho : w.ownsRow b 44 2 v m xs) (hg : w.grownBy w' v.ownBlock) : PeerT w' x := ⟨h.tb.grown ho (by decide) hg, h.tl.grown ho hg, h.he⟩
theorem PeerT.len {w : World} {x : Peer} (h : PeerT w x) : x.x.1.length = x.n ∧ x.x.2.length = x.n := by
  have h1 := h.tl.ls.len
  have h2 := congrArg List.length h.he
  rw [List.length_map, List.length_map] at h2
  exact ⟨h1, by omega⟩
theorem PeerW.t {K : Nat} {w : World} {base : Nat} {x : Peer} (h : PeerW K w base x) : PeerT w x := ⟨h.tb, TL.of_own h.own h.tbs, h.he⟩
/-- The addresses that peers of one ID have, in their order. -/
def gath (zs : List Peer) (l : List UInt8) : List (List Hop) := zs.flatMap fun z => if z.p.l = l then z.x.2 else []
theorem gath_snoc (zs : List Peer) (z : Peer) (l : List UInt8) : gath (zs ++ [z]) l = gath zs l ++ (if z.p.l = l then z.x.2 else []) := by simp [gath]
theorem gath_append (a b : List Peer) (l : List UInt8) : gath (a ++ b) l = gath a l ++ gath b l := by simp [gath]
theorem gath_out {zs : List Peer} {l : List UInt8} (h : l ∉ zs.map (·.p.l)) : gath zs l = [] := by
  unfold gath
  rw [List.flatMap_eq_nil_iff]
  intro z hz
  rw [if_neg (fun e => h (List.mem_map.2 ⟨z, hz, e⟩))]
theorem gath_one : ∀ (zs : List Peer), Rises (zs.map (·.p.l)) → ∀ z ∈ zs, gath zs z.p.l = z.x.2
  | [], _, z, h => by simp at h
  | y :: zs, hr, z, h => by
    obtain ⟨h1, h2⟩ := List.pairwise_cons.1 hr
    have e : gath (y :: zs) z.p.l = (if y.p.l = z.p.l then y.x.2 else []) ++ gath zs z.p.l := by simp [gath]
    rw [e]
    rcases List.mem_cons.1 h with rfl | h
    · rw [if_pos rfl, gath_out (fun hm => cmp_irrefl _ (h1 _ hm)), List.append_nil]
    · have hne : y.p.l ≠ z.p.l := fun e => by
        have : cmpB y.p.l z.p.l < 0 := h1 z.p.l (List.mem_map.2 ⟨z, h, rfl⟩)
        rw [e] at this
        exact cmp_irrefl _ this
      rw [if_neg hne, List.nil_append]
      exact gath_one zs h2 z h
theorem gath_group {K : Nat} {w : World} {base : Nat} {A : Option Addr} {c : Nat} {ys : List Peer} {hss : List (List Hop)} (h : PeersOk K w base A c ys hss) (l : List UInt8) : gath ys l = groupH hss l := by
  by_cases hm : l ∈ ys.map (·.p.l)
  · obtain ⟨y, hy, rfl⟩ := List.mem_map.1 hm
    rw [gath_one ys h.rises y hy, h.addrs y hy]
  · rw [gath_out hm, groupH_out (fun h2 => hm ((h.ids l).2 h2))]
/-- Peers merged: each ID of zs once, rising, with all its addresses. -/
structure Merged (outs zs : List Peer) : Prop where
  rises : Rises (outs.map (·.p.l))
  ids : ∀ l, l ∈ outs.map (·.p.l) ↔ l ∈ zs.map (·.p.l)
  addrs : ∀ o ∈ outs, o.x.2 = gath zs o.p.l
  len : outs.length ≤ zs.length
theorem Merged.nil : Merged [] [] := ⟨List.Pairwise.nil, fun _ => Iff.rfl, fun o h => by simp at h, Nat.le_refl _⟩
theorem stands_ins {ids : List (List UInt8)} {q : List UInt8} {k : Nat} (hr : Rises ids) (h : Stands ids q k) (hn : ¬ ∃ hk : k < ids.length, ids[k] = q) : Rises (ids.take k ++ q :: ids.drop k) := by
  have hlt : ∀ x ∈ ids.take k, cmpB x q < 0 := fun x hx => by
    obtain ⟨j, hj, rfl⟩ := List.getElem_of_mem hx
    rw [List.getElem_take]
    exact h.lt j (by simp at hj; omega) (by simp at hj; omega)
  have hgt : ∀ x ∈ ids.drop k, cmpB q x < 0 := fun x hx => by
    obtain ⟨j, hj, rfl⟩ := List.getElem_of_mem hx
    rw [List.getElem_drop]
    have hj2 : k + j < ids.length := by simp at hj; omega
    have h1 := h.ge (k + j) hj2 (by omega)
    rcases cmp_cases (ids[k + j]) q with h2 | h2 | h2
    · exact absurd h2 h1
    · rcases Nat.eq_zero_or_pos j with rfl | h3
      · exact absurd ⟨by omega, h2⟩ hn
      · have hk : k < ids.length := by omega
        have h4 := rises_lt hr hk hj2 (by omega)
        rw [h2] at h4
        exact absurd h4 (h.ge k hk (Nat.le_refl _))
    · exact h2
  have ht : Rises (ids.take k ++ ids.drop k) := by rw [List.take_append_drop]; exact hr
  obtain ⟨h1, h2, h3⟩ := List.pairwise_append.1 ht
  refine List.pairwise_append.2 ⟨h1, List.pairwise_cons.2 ⟨hgt, h2⟩, fun a ha b hb => ?_⟩
  rcases List.mem_cons.1 hb with rfl | hb
  · exact hlt a ha
  · exact h3 a ha b hb
theorem Merged.new {outs zs : List Peer} (h : Merged outs zs) {z : Peer} {k : Nat} (hs : Stands (outs.map (·.p.l)) z.p.l k) (hn : ¬ ∃ hk : k < outs.length, (outs[k]).p.l = z.p.l) : Merged (outs.take k ++ z :: outs.drop k) (zs ++ [z]) := by
  have hni : z.p.l ∉ outs.map (·.p.l) := fun hm => by
    obtain ⟨j, hj, e⟩ := List.getElem_of_mem hm
    rcases Nat.lt_trichotomy j k with h1 | h1 | h1
    · have := hs.lt j hj h1
      rw [e] at this
      exact cmp_irrefl _ this
    · subst h1
      refine hn ⟨by simpa using hj, ?_⟩
      simpa using e
    · have hk : k < (outs.map (·.p.l)).length := by omega
      have h4 := rises_lt h.rises hk hj h1
      rw [e] at h4
      exact hs.ge k hk (Nat.le_refl _) h4
  have hnz : z.p.l ∉ zs.map (·.p.l) := fun hm => hni ((h.ids _).2 hm)
  have hmem : ∀ o, o ∈ outs.take k ++ z :: outs.drop k ↔ o = z ∨ o ∈ outs := fun o => by
    rw [List.mem_append, List.mem_cons]
    constructor
    · rintro (h1 | h1 | h1)
      · exact .inr (List.mem_of_mem_take h1)
      · exact .inl h1
      · exact .inr (List.mem_of_mem_drop h1)
    · rintro (h1 | h1)
      · exact .inr (.inl h1)
      · rw [← List.take_append_drop k outs, List.mem_append] at h1
        rcases h1 with h1 | h1
        · exact .inl h1
        · exact .inr (.inr h1)
  refine ⟨?_, fun l => ?_, fun o ho => ?_, ?_⟩
  · have := stands_ins h.rises hs (fun ⟨hk, e⟩ => hn ⟨by simpa using hk, by simpa using e⟩)
    rw [List.map_append, List.map_cons, List.map_take, List.map_drop]
    exact this
  · rw [show (l ∈ (zs ++ [z]).map (·.p.l)) ↔ (l ∈ zs.map (·.p.l) ∨ l ∈ [z].map (·.p.l)) by rw [List.map_append, List.mem_append], ← h.ids l]
    constructor
    · intro hl
      obtain ⟨o, ho, rfl⟩ := List.mem_map.1 hl
      rcases (hmem o).1 ho with rfl | h1
      · exact .inr (by simp)
      · exact .inl (List.mem_map.2 ⟨o, h1, rfl⟩)
    · rintro (hl | hl)
      · obtain ⟨o, ho, rfl⟩ := List.mem_map.1 hl
        exact List.mem_map.2 ⟨o, (hmem o).2 (.inr ho), rfl⟩
      · rw [List.map_singleton, List.mem_singleton] at hl
        subst hl
        exact List.mem_map.2 ⟨z, (hmem z).2 (.inl rfl), rfl⟩
  · rw [gath_snoc]
    rcases (hmem o).1 ho with rfl | h1
    · rw [gath_out hnz, if_pos rfl, List.nil_append]
    · rw [if_neg (fun e => hni (by rw [e]; exact List.mem_map.2 ⟨o, h1, rfl⟩)), List.append_nil]
      exact h.addrs o h1
  · have := h.len
    have hk := hs.le
    simp at hk ⊢
    omega
/-- The peer that has the addresses of another one, too. -/
theorem Merged.more {outs zs : List Peer} (h : Merged outs zs) {z y : Peer} {k : Nat} (hk : k < outs.length) (he : (outs[k]).p.l = z.p.l) (hp : y.p.l = (outs[k]).p.l) (hx : y.x.2 = (outs[k]).x.2 ++ z.x.2) : Merged (outs.set k y) (zs ++ [z]) := by
  have hids : (outs.set k y).map (·.p.l) = outs.map (·.p.l) := by
    rw [List.map_set]
    apply List.ext_getElem (by simp)
    intro i h1 h2
    rw [List.getElem_set]
    split
    · rename_i e; subst e; simp [hp]
    · rfl
  refine ⟨by rw [hids]; exact h.rises, fun l => ?_, fun o ho => ?_, by simp; have := h.len; omega⟩
  · rw [hids, h.ids l, List.map_append, List.mem_append]
    constructor
    · exact .inl
    · rintro (h1 | h1)
      · exact h1
      · rw [List.map_singleton, List.mem_singleton] at h1
        subst h1
        exact (h.ids _).1 (by rw [← he]; exact List.mem_map.2 ⟨_, List.getElem_mem hk, rfl⟩)
  · rw [gath_snoc]
    obtain ⟨i, hi, rfl⟩ := List.getElem_of_mem ho
    have hi2 : i < outs.length := by simpa using hi
    rw [List.getElem_set]
    split
    · rename_i e
      rw [hp, if_pos he.symm, hx, h.addrs _ (List.getElem_mem hk)]
    · rename_i e
      have hne : z.p.l ≠ (outs[i]).p.l := fun e2 => by
        have e3 : (outs[k]).p.l = (outs[i]).p.l := he.trans e2
        have hik : (outs.map (·.p.l))[k]'(by simpa using hk) = (outs.map (·.p.l))[i]'(by simpa using hi2) := by simpa using e3
        rcases Nat.lt_trichotomy i k with h4 | h4 | h4
        · have := rises_lt h.rises (by simpa using hi2) (by simpa using hk) h4
          rw [hik] at this
          exact cmp_irrefl _ this
        · exact e h4.symm
        · have := rises_lt h.rises (by simpa using hk) (by simpa using hi2) h4
          rw [hik] at this
          exact cmp_irrefl _ this
      rw [if_neg hne, List.append_nil]
      exact h.addrs _ (List.getElem_mem hi2)
end Go.Proofs.YtkmieonfhcmimaaGreatDoor
