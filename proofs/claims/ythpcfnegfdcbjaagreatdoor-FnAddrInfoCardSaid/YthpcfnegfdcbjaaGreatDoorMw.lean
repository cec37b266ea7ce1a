/- bytes.Buffer: what is written stands behind what stood there; no row of another's turns. No condition. -/
import Derived.Test.YthpcfnegfdcbjaaGreatDoorXf
import Derived.Test.YthpcfnegfdcbjaaGreatDoorMk
import Derived.Test.YthpcfnegfdcbjaaGreatDoorSi
import Derived.Lib.BufferOwn
import Derived.Lib.BufferGrow
import Derived.Lib.BufferWrite
import Derived.Laws.IdiomCopy
import Derived.Laws.CopyRow
import Derived.Deep.RegionWith
namespace Go.Proofs.YthpcfnegfdcbjaaGreatDoor
open Go.RowKit
/-- A buffer in block b that has only been written: the block of its row, and what it holds. -/
def BR (w : World) (b : Nat) (r : Option Nat) (bs : List Value) : Prop :=
  ∃ lr : Int, (r = none ∧ bs = [] ∧ w.heap[b]? = some (.cells #[.slice none 0 0, .int .i64 0, .int .i8 lr] 144 (0, 0))) ∨
    (bs ≠ [] ∧ ∃ (g cap : Nat) (cur : Array Value), r = some g ∧ g ≠ b ∧ w.heap[b]? = some (.cells #[.slice (some ⟨g, 0, none⟩) bs.length cap, .int .i64 0, .int .i8 lr] 144 (0, 0)) ∧
      w.heap[g]? = some (.cells cur 5 (0, 0)) ∧ bs.length ≤ cap ∧ cap ≤ maxLen ∧ cur.size = cap ∧ cur.toList.take bs.length = bs)
/-- What a write leaves alone: all but the buffer, and its row. -/
structure KB (b : Nat) (r : Option Nat) (w w' : World) : Prop where
  os : w'.os = w.os
  tape : w'.tape = w.tape
  output : w'.output = w.output
  size : w.heap.size ≤ w'.heap.size
  block : ∀ k, k < w.heap.size → k ≠ b → some k ≠ r → w'.heap[k]? = w.heap[k]?
theorem BR.fresh (w : World) : BR (w.alloc (.cells #[.slice none 0 0, .int .i64 0, .int .i8 0] 144)) w.heap.size none [] := ⟨0, .inl ⟨rfl, rfl, heap_alloc_new w _⟩⟩
theorem BR.is {w : World} {b : Nat} {r : Option Nat} {bs : List Value} (h : BR w b r bs) : Lib.IsBuffer 144 5 0 b bs w := by
  obtain ⟨lr, ⟨_, rfl, hb⟩ | ⟨hne, g, cap, cur, _, hgb, hb, hg, h1, h2, h3, h4⟩⟩ := h
  · exact ⟨Nat.zero_le _, _, lr, hb, World.ownsRow_nil _ _ _ _, by simp [Value.ownBlock]⟩
  · exact ⟨Nat.zero_le _, _, lr, hb, ⟨by rw [Nat.mul_one], .inr ⟨g, cap, cur, rfl, Nat.zero_le _, hg, h1, h2, by rw [Nat.mul_one]; exact h3, by rw [Nat.mul_one]; exact h4⟩⟩, by simp [Value.ownBlock]; exact hgb⟩
theorem BR.lt {w : World} {b : Nat} {r : Option Nat} {bs : List Value} (h : BR w b r bs) : b < w.heap.size ∧ ∀ g, r = some g → g < w.heap.size := by
  obtain ⟨lr, ⟨rfl, _, hb⟩ | ⟨_, g, cap, cur, rfl, _, hb, hg, _⟩⟩ := h
  · exact ⟨Lib.lt_of_heap hb, fun g e => by cases e⟩
  · exact ⟨Lib.lt_of_heap hb, fun g' e => by injection e with e; subst e; exact Lib.lt_of_heap hg⟩
theorem BR.below {w w' : World} {b : Nat} {r : Option Nat} {bs : List Value} (h : BR w b r bs) (hb : Below w.heap.size w w') : BR w' b r bs := by
  obtain ⟨h1, h2⟩ := h.lt
  obtain ⟨lr, ⟨rfl, e, hk⟩ | ⟨e, g, cap, cur, rfl, e2, hk, hg, r2⟩⟩ := h
  · exact ⟨lr, .inl ⟨rfl, e, (hb.block b h1).trans hk⟩⟩
  · exact ⟨lr, .inr ⟨e, g, cap, cur, rfl, e2, (hb.block b h1).trans hk, (hb.block g (h2 g rfl)).trans hg, r2⟩⟩
theorem KB.below {b : Nat} {r : Option Nat} {w w' : World} (h : KB b r w w') {B : Nat} (hB : B ≤ b) (hr : ∀ g, r = some g → B ≤ g) (hw : B ≤ w.heap.size) : Below B w w' :=
  ⟨h.os, h.tape, h.output, by have := h.size; omega, fun k hk => h.block k (by omega) (by omega) (fun e => by have := hr k e.symm; omega)⟩
theorem KB.drew {b : Nat} {r : Option Nat} {w w' : World} (h : KB b r w w') : KB b r w w'.drew := ⟨h.os, h.tape, h.output, h.size, h.block⟩
theorem KB.of_grown {b : Nat} {r : Option Nat} {w w' : World} (h : w.grownBy w' (some b)) : KB b r w w' := ⟨h.os, h.tape, h.output, h.size, fun k hk hb _ => h.block k hk (fun e => hb (Option.some.inj e))⟩
theorem KB.row {b g : Nat} {r : Option Nat} {w w' : World} (h : KB b r w w') (hg : r = some g ∨ w.heap.size ≤ g) (cs : Array Value) : KB b r w (w'.setRow g cs) :=
  ⟨h.os, h.tape, h.output, by rw [show (w'.setRow g cs).heap.size = w'.heap.size by simp [World.setRow]]; exact h.size, fun k hk hb hr => by
    rw [← h.block k hk hb hr]
    exact setRow_other _ _ _ _ (fun e => by
      subst e
      rcases hg with e | e
      · exact hr e.symm
      · omega)⟩
set_option maxHeartbeats 6400000 in
set_option maxRecDepth 100000 in
theorem bgrow_nil (b n : Nat) (lr : Int) (w : World)
    (hbk : w.heap[b]? = some (.cells #[.slice none 0 0, .int .i64 0, .int .i8 lr] 144 (0, 0))) (hn : 1 ≤ n) (h64 : n ≤ 64) :
    Calls Tryz.prog 98 #[.pointer (some ⟨b, 0, none⟩), .int .i64 n] w fun e w' => e = .returned (.int .i64 0) ∧ ∃ (cap2 : Nat) (cells : Array Value),
      w'.heap[b]? = some (.cells #[.slice (some ⟨w.heap.size, 0, none⟩) (0 + n) cap2, .int .i64 0, .int .i8 lr] 144 (0, 0)) ∧ w'.heap[w.heap.size]? = some (.cells cells 5 (0, 0)) ∧ cells.size = cap2 ∧ cells.toList.take 0 = [] ∧ 0 + n ≤ cap2 ∧ cap2 ≤ maxLen ∧ w.grownBy w' (some b) := by
  obtain ⟨i0, hi, hz0, hz1, hz2⟩ := info_parts u8_info
  obtain ⟨M, hM⟩ : ∃ M, M = madeCells (Value.int .u8 0).cells ((64 : Int).toNat * i0.size) := ⟨_, rfl⟩
  have hMs : M.size = 64 := by rw [hM, size_madeCells, hz1]; rfl
  have hmk : ∀ W : World, (Instr.makeSlice 26 (.int .i64 (n : Int)) (.int .i64 64)).run Tryz.prog W = .ok (.slice (some ⟨W.heap.size, 0, none⟩) n 64) (W.alloc (.cells M 5)) := fun W => by
    have h := run_makeSlice (P := Tryz.prog) W 26 5 i0 (.int .u8 0) Tryz.underlying26 hi hz0 .i64 .i64 (n : Int) 64 (by omega) (by omega) (by rw [hz1]; decide) (by rw [hz2]; decide) (by decide)
    rw [← hM] at h
    simpa using h
  clear hM
  have hIs : BR w b none [] := ⟨lr, .inl ⟨rfl, rfl, hbk⟩⟩
  have hnil : ∀ W, (binOp .eql 26 (.slice none 0 0) (.slice none 0 0)).run Tryz.prog W = .ok (.bool true) W := fun W => Lib.run_eql_slice_nil_nil W _ _ Tryz.underlying26
  have HLEN := Lib.hid (Tryz.Buffer_Len 0 b [] w hIs.is)
  clear hIs
  go_enter Tryz.func98, Tryz.ntmps98
  go_wp2_with fail
  refine HLEN.out.mono ?_
  rintro e W0 ⟨rfl, k, hW0⟩
  have hbk0 : W0.heap[b]? = some (.cells #[.slice none 0 0, .int .i64 0, .int .i8 lr] 144 (0, 0)) := by rw [hW0]; exact hbk
  have c0 : W0.cell? ⟨b, 0, none⟩ = some (.slice none 0 0) := by rw [Lib.cell_of_heap hbk0]; rfl
  have c1 : W0.cell? ⟨b, 1, none⟩ = some (.int .i64 0) := by rw [Lib.cell_of_heap hbk0]; rfl
  have f0 : W0.frozen? ⟨b, 0, none⟩ = false := Lib.frozen_of_heap hbk0 0
  have hbW0 := Lib.lt_of_heap hbk0
  have c0a : ∀ o, (W0.alloc o).cell? ⟨b, 0, none⟩ = some (.slice none 0 0) := fun o => (World.cell?_of_block (a := ⟨b, 0, none⟩) (Below.heap_alloc W0 o b hbW0)).trans c0
  have f0a : ∀ o, (W0.alloc o).frozen? ⟨b, 0, none⟩ = false := fun o => (World.frozen?_of_block (a := ⟨b, 0, none⟩) (Below.heap_alloc W0 o b hbW0)).trans f0
  have HW0 := Lib.hid hW0
  have HTG := Lib.hid (Tryz.Buffer_tryGrow_none b none 0 0 n W0 c0 (Nat.le_refl _) (Nat.zero_le _) (by omega))
  clear hW0
  go_wp2_with fail
  refine HTG.out.mono ?_
  rintro e w' ⟨rfl, rfl⟩
  go_wp2_with fail
  go_ret
  have hsz0 : w'.heap.size = w.heap.size := by rw [HW0.out]; rfl
  have hg0 : w.grownBy w' (some b) := by rw [HW0.out]; exact ⟨rfl, rfl, rfl, Nat.le_refl _, fun _ _ _ => rfl⟩
  have hsz : (w'.setCell ⟨b, 0, none⟩ (.slice (some ⟨w'.heap.size, 0, none⟩) n 64)).heap.size = w'.heap.size := by simp [World.setCell]
  refine ⟨rfl, 64, M, ?_, ?_, hMs, by simp, by omega, by unfold maxLen; omega, Lib.grownBy_allocR (Lib.grownBy_setB hg0 0 _) _⟩
  · rw [Below.heap_alloc _ _ b (by rw [hsz]; exact hbW0), Nat.zero_add, ← hsz0]
    exact Lib.heap_setCell_same (i := 0) hbk0 _
  · have h := heap_alloc_new (w'.setCell ⟨b, 0, none⟩ (.slice (some ⟨w'.heap.size, 0, none⟩) n 64)) (.cells M 5)
    rw [hsz, hsz0] at h
    rw [hsz0]
    exact h
set_option maxHeartbeats 12800000 in
set_option maxRecDepth 100000 in
theorem bgrow_row (b g l cap n : Nat) (lr : Int) (cur : Array Value) (bs : List Value) (w : World)
    (hbk : w.heap[b]? = some (.cells #[.slice (some ⟨g, 0, none⟩) l cap, .int .i64 0, .int .i8 lr] 144 (0, 0)))
    (hl : bs.length = l) (hl0 : l ≠ 0) (hg : w.heap[g]? = some (.cells cur 5 (0, 0))) (hlc : l ≤ cap) (hcm : cap ≤ maxLen) (hcs : cur.size = cap) (htake : cur.toList.take l = bs) (hgb : g ≠ b)
    (h1 : ∀ v ∈ bs, v.oneCell' = true) (hn : 1 ≤ n) (hroom : cap - l < n) (hlim : l + n ≤ 140737488355328) :
    Calls Tryz.prog 98 #[.pointer (some ⟨b, 0, none⟩), .int .i64 n] w fun e w' => e = .returned (.int .i64 l) ∧ ∃ (cap2 : Nat) (cells : Array Value),
      w'.heap[b]? = some (.cells #[.slice (some ⟨w.heap.size, 0, none⟩) (l + n) cap2, .int .i64 0, .int .i8 lr] 144 (0, 0)) ∧ w'.heap[w.heap.size]? = some (.cells cells 5 (0, 0)) ∧ cells.size = cap2 ∧ cells.toList.take l = bs ∧ l + n ≤ cap2 ∧ cap2 ≤ maxLen ∧ w.grownBy w' (some b) := by
  have hIs : BR w b (some g) bs := ⟨lr, .inr ⟨fun e => hl0 (by rw [← hl, e]; rfl), g, cap, cur, rfl, hgb, by rw [hl]; exact hbk, hg, by omega, hcm, hcs, by rw [hl]; exact htake⟩⟩
  have hnil : ∀ W, (binOp .eql 26 (.slice (some ⟨g, 0, none⟩) l cap) (.slice none 0 0)).run Tryz.prog W = .ok (.bool false) W := fun W => Lib.run_eql_slice_some_nil W _ _ _ Tryz.underlying26
  have HLEN := Lib.hid (Tryz.Buffer_Len 0 b bs w hIs.is)
  clear hIs
  go_enter Tryz.func98, Tryz.ntmps98
  go_wp2_with fail
  refine HLEN.out.mono ?_
  rintro e W0 ⟨rfl, k, hW0⟩
  rw [hl]
  have hbk0 : W0.heap[b]? = some (.cells #[.slice (some ⟨g, 0, none⟩) l cap, .int .i64 0, .int .i8 lr] 144 (0, 0)) := by rw [hW0]; exact hbk
  have hg0 : W0.heap[g]? = some (.cells cur 5 (0, 0)) := by rw [hW0]; exact hg
  have c0 : W0.cell? ⟨b, 0, none⟩ = some (.slice (some ⟨g, 0, none⟩) l cap) := by rw [Lib.cell_of_heap hbk0]; rfl
  have c1 : W0.cell? ⟨b, 1, none⟩ = some (.int .i64 0) := by rw [Lib.cell_of_heap hbk0]; rfl
  have f0 : W0.frozen? ⟨b, 0, none⟩ = false := Lib.frozen_of_heap hbk0 0
  have f1 : W0.frozen? ⟨b, 1, none⟩ = false := Lib.frozen_of_heap hbk0 1
  have HW0 := Lib.hid hW0
  clear hW0
  have hcm' := hcm
  unfold maxLen at hcm'
  have HTG := Lib.hid (Tryz.Buffer_tryGrow_none b (some ⟨g, 0, none⟩) l cap n W0 c0 hlc hcm hroom)
  go_wp2_with fail
  refine HTG.out.mono ?_
  rintro e w' ⟨rfl, rfl⟩
  have hc2 : cap ≤ 140737488355328 := by omega
  have h1' : ∀ v ∈ cur.toList.take l, v.oneCell' = true := by rw [htake]; exact h1
  have hbW := Lib.lt_of_heap hbk0
  have hwn : IntKind.i64.wrap (n : Int) = n := by rw [IntKind.wrap_i64]; omega
  go_wp2_with fail
  go_region_with (
      go_at_call 146
      refine (Tryz.bytes_growSlice_row g l cap n cur _ ?_ hcs hlc hn hlim hc2 h1').mono ?_
      exact hg0
      rintro e w2 ⟨cap2, cells, rfl, hN, hcsz, htk, hcap2, hcm2, hbel⟩
      have hbk2 : w2.heap[b]? = some (.cells #[.slice (some ⟨g, 0, none⟩) l cap, .int .i64 0, .int .i8 lr] 144 (0, 0)) := (hbel.block b hbW).trans hbk0
      have d0 : w2.cell? ⟨b, 0, none⟩ = some (.slice (some ⟨g, 0, none⟩) l cap) := by rw [Lib.cell_of_heap hbk2]; rfl
      have d1 : w2.cell? ⟨b, 1, none⟩ = some (.int .i64 0) := by rw [Lib.cell_of_heap hbk2]; rfl
      have e0 : w2.frozen? ⟨b, 0, none⟩ = false := Lib.frozen_of_heap hbk2 0
      have e1 : w2.frozen? ⟨b, 1, none⟩ = false := Lib.frozen_of_heap hbk2 1)
  all_goals (
    go_wp2_with fail
    go_ret
    have hsz0 : w'.heap.size = w.heap.size := by rw [HW0.out]; rfl
    have hg2 : w.grownBy w2 (some b) := Lib.grownBy_below (w := w'.drew) (by rw [HW0.out]; exact ⟨rfl, rfl, rfl, Nat.le_refl _, fun _ _ _ => rfl⟩) hbel
    have hbN : w.heap.size ≠ b := by rw [← hsz0]; omega
    have hN' : w2.heap[w.heap.size]? = some (.cells cells 5 (0, 0)) := by rw [← hsz0]; exact hN
    refine ⟨rfl, cap2, cells, ?_, ?_, hcsz, htk.trans htake, hcap2, hcm2, Lib.grownBy_setB (Lib.grownBy_setB (Lib.grownBy_setB hg2 0 _) 1 _) 0 _⟩
    · have hsl : w'.drew.heap.size = w.heap.size := hsz0
      have := Lib.heap_setCell_same (i := 0) (Lib.heap_setCell_same (i := 1) (Lib.heap_setCell_same (i := 0) hbk2 (.slice (some ⟨w.heap.size, 0, none⟩) l cap2)) (.int .i64 0)) (.slice (some ⟨w.heap.size, 0, none⟩) (l + n) cap2)
      first | exact this | (rw [hsl]; exact this) | (rw [hsz0]; exact this)
    · rw [Below.heap_setCell _ _ _ _ hbN, Below.heap_setCell _ _ _ _ hbN, Below.heap_setCell _ _ _ _ hbN]
      exact hN')
set_option maxHeartbeats 6400000 in
set_option maxRecDepth 100000 in
theorem bufw_x (b : Nat) (r : Option Nat) (bs cs : List Value) (a : Addr) (n c : Nat) (w : World) (h : BR w b r bs) (h1 : ∀ v ∈ bs, v.oneCell' = true) (hn : cs.length = n) (hn1 : 1 ≤ n) (h64 : n ≤ 64) (hab : a.block ≠ b)
    (hsrc : ∀ j v, cs[j]? = some v → w.cell? (a.add j) = some v) (h1c : ∀ v ∈ cs, v.oneCell' = true) (hlim : bs.length + n ≤ 140737488355328) :
    Calls Tryz.prog 78 #[.pointer (some ⟨b, 0, none⟩), .slice (some a) n c] w fun e w' => e = .returned (.tuple #[.int .i64 n, .nilIface]) ∧ KB b r w w' ∧ ∃ r', BR w' b r' (bs ++ cs) ∧ (r' = r ∨ ∃ g, r' = some g ∧ w.heap.size ≤ g) := by
  have hinfo : (Tryz.prog.info? 5).map (·.size) = some 1 := by
    obtain ⟨i0, hi, -, hz1, -⟩ := info_parts u8_info
    rw [hi]; simp [hz1]
  have hneC : bs ++ cs ≠ [] := fun e => by
    have := congrArg List.length e
    rw [List.length_append, List.length_nil] at this
    omega
  have hlenC : (bs ++ cs).length = bs.length + n := by rw [List.length_append, hn]
  obtain ⟨w0, hw0⟩ : ∃ w0, w0 = w.setCell ⟨b, 2, none⟩ (.int .i8 0) := ⟨_, rfl⟩
  have hgw0 : w.grownBy w0 (some b) := by rw [hw0]; exact Lib.grownBy_setCell w b 2 _
  have hs0 : w0.heap.size = w.heap.size := by rw [hw0]; simp [World.setCell]
  have hfin : ∀ (g cap : Nat) (cur : Array Value) (lr : Int) (W1 : World), w.grownBy W1 (some b) → (r = some g ∨ w.heap.size ≤ g) → g ≠ b →
      W1.heap[b]? = some (.cells #[.slice (some ⟨g, 0, none⟩) (bs.length + n) cap, .int .i64 0, .int .i8 lr] 144 (0, 0)) → W1.heap[g]? = some (.cells cur 5 (0, 0)) → cur.size = cap → bs.length + n ≤ cap → cap ≤ maxLen → cur.toList.take bs.length = bs →
      KB b r w (W1.setRow g (cur.toList.take bs.length ++ cs ++ cur.toList.drop (bs.length + n)).toArray) ∧ ∃ r', BR (W1.setRow g (cur.toList.take bs.length ++ cs ++ cur.toList.drop (bs.length + n)).toArray) b r' (bs ++ cs) ∧ (r' = r ∨ ∃ g, r' = some g ∧ w.heap.size ≤ g) := by
    intro g cap cur lr W1 hgr hor hgb hb hg hcs hle hmx htk
    refine ⟨(KB.of_grown hgr).row hor _, some g, ⟨lr, .inr ⟨hneC, g, cap, _, rfl, hgb, ?_, setRow_heap W1 g cur _ _ (0, 0) hg, by rw [hlenC]; exact hle, hmx, ?_, ?_⟩⟩, ?_⟩
    · rw [setRow_other _ _ _ _ (fun e => hgb e.symm), hlenC]; exact hb
    · simp only [List.size_toArray, List.length_append, List.length_drop, Array.length_toList, List.length_take, hn]; omega
    · rw [htk, hlenC, List.toList_toArray]
      exact List.take_left' (by rw [hlenC])
    · rcases hor with h | h
      · exact .inl h.symm
      · exact .inr ⟨g, rfl, h⟩
  obtain ⟨lr, ⟨rfl, rfl, hbk⟩ | ⟨hne, g, cap, cur, rfl, hgb, hbk, hg, hlc, hcm, hcs, htk⟩⟩ := h
  · have hbk' : w0.heap[b]? = some (.cells #[.slice none 0 0, .int .i64 0, .int .i8 0] 144 (0, 0)) := by rw [hw0]; exact Lib.heap_setCell_same (i := 2) hbk (.int .i8 0)
    have c2 : w.cell? ⟨b, 2, none⟩ = some (.int .i8 lr) := by rw [Lib.cell_of_heap hbk]; rfl
    have f2 : w.frozen? ⟨b, 2, none⟩ = false := Lib.frozen_of_heap hbk 2
    have c0 : w0.cell? ⟨b, 0, none⟩ = some (.slice none 0 0) := by rw [Lib.cell_of_heap hbk']; rfl
    have HTG := Lib.hid (Tryz.Buffer_tryGrow_none b none 0 0 n w0 c0 (Nat.le_refl _) (Nat.zero_le _) (by omega))
    have HGR := Lib.hid (bgrow_nil b n 0 w0 hbk' hn1 h64)
    have hbw := Lib.lt_of_heap hbk
    have HW0 := Lib.hid hw0
    clear hw0 c0 hbk hbk'
    go_enter Tryz.func78, Tryz.ntmps78
    go_wp2_with fail
    rw [← HW0.out]
    refine HTG.out.mono ?_
    rintro e W1 ⟨rfl, rfl⟩
    go_wp2_with fail
    refine HGR.out.mono ?_
    rintro e W1 ⟨rfl, cap2, cells, hb1, hg1, hcz, _, hle, hmx, hgr⟩
    have hgW := Lib.grownBy_trans hgw0 hgr
    rw [hs0] at hb1 hg1
    have d0 : W1.cell? ⟨b, 0, none⟩ = some (.slice (some ⟨w.heap.size, 0, none⟩) (0 + n) cap2) := by rw [Lib.cell_of_heap hb1]; rfl
    rw [Nat.zero_add] at d0 hle
    have hsrc1 : ∀ j v, cs[j]? = some v → W1.cell? (a.add j) = some v := fun j v hj => hgW.cell (hsrc j v hj) (by rw [block_of_add]; exact fun e => hab (Option.some.inj e))
    have hcp := run_copy_row (P := Tryz.prog) W1 26 26 3 5 w.heap.size 0 n cap2 a n c cells 5 cs Tryz.underlying26 hinfo hg1 (by rw [hn]; exact (Nat.min_self n).symm) hsrc1 (by rw [hn]; omega) h1c
    rw [hn] at hcp
    have hmx' := hmx
    unfold maxLen at hmx'
    have HF := Lib.hid (hfin w.heap.size cap2 cells 0 W1 hgW (.inr (Nat.le_refl _)) (by omega) hb1 hg1 hcz (by simpa using hle) hmx (by simp))
    go_wp2_with fail
    go_ret2
    exact ⟨rfl, by simpa using HF.out⟩
  · have hbk' : w0.heap[b]? = some (.cells #[.slice (some ⟨g, 0, none⟩) bs.length cap, .int .i64 0, .int .i8 0] 144 (0, 0)) := by rw [hw0]; exact Lib.heap_setCell_same (i := 2) hbk (.int .i8 0)
    have hg' : w0.heap[g]? = some (.cells cur 5 (0, 0)) := by rw [hw0, Below.heap_setCell _ _ _ _ hgb]; exact hg
    have c2 : w.cell? ⟨b, 2, none⟩ = some (.int .i8 lr) := by rw [Lib.cell_of_heap hbk]; rfl
    have f2 : w.frozen? ⟨b, 2, none⟩ = false := Lib.frozen_of_heap hbk 2
    have c0 : w0.cell? ⟨b, 0, none⟩ = some (.slice (some ⟨g, 0, none⟩) bs.length cap) := by rw [Lib.cell_of_heap hbk']; rfl
    have f0 : w0.frozen? ⟨b, 0, none⟩ = false := Lib.frozen_of_heap hbk' 0
    have hl0 : bs.length ≠ 0 := fun e => hne (List.eq_nil_of_length_eq_zero e)
    have hbw := Lib.lt_of_heap hbk
    have HW0 := Lib.hid hw0
    have hneg : ¬ cap = bs.length ∨ cap = bs.length := by omega
    by_cases hroom : n ≤ cap - bs.length
    · have HTG := Lib.hid (Tryz.Buffer_tryGrow_room b (some ⟨g, 0, none⟩) bs.length cap n w0 c0 f0 hlc hcm hroom)
      clear hw0 c0 hbk f0
      go_enter Tryz.func78, Tryz.ntmps78
      go_wp2_with fail
      rw [← HW0.out]
      refine HTG.out.mono ?_
      rintro e W1 ⟨rfl, hW1⟩
      have hgW : w.grownBy W1 (some b) := by rw [hW1]; exact Lib.grownBy_setB hgw0 0 _
      have hb1 : W1.heap[b]? = some (.cells #[.slice (some ⟨g, 0, none⟩) (bs.length + n) cap, .int .i64 0, .int .i8 0] 144 (0, 0)) := by rw [hW1]; exact Lib.heap_setCell_same (i := 0) hbk' _
      have hg1 : W1.heap[g]? = some (.cells cur 5 (0, 0)) := by rw [hW1, Below.heap_setCell _ _ _ _ hgb]; exact hg'
      have d0 : W1.cell? ⟨b, 0, none⟩ = some (.slice (some ⟨g, 0, none⟩) (bs.length + n) cap) := by rw [Lib.cell_of_heap hb1]; rfl
      have hne2 : ¬ cap = bs.length := by omega
      have hsrc1 : ∀ j v, cs[j]? = some v → W1.cell? (a.add j) = some v := fun j v hj => hgW.cell (hsrc j v hj) (by rw [block_of_add]; exact fun e => hab (Option.some.inj e))
      have hcp := run_copy_row (P := Tryz.prog) W1 26 26 3 5 g bs.length n (cap - bs.length) a n c cur 5 cs Tryz.underlying26 hinfo hg1 (by rw [hn]; exact (Nat.min_self n).symm) hsrc1 (by rw [hn]; omega) h1c
      rw [hn] at hcp
      have hcm' := hcm
      unfold maxLen at hcm'
      have HF := Lib.hid (hfin g cap cur 0 W1 hgW (.inl rfl) hgb hb1 hg1 hcs (by omega) hcm htk)
      clear hW1 hneg hg' hbk'
      go_wp2_with fail
      go_ret2
      exact ⟨rfl, by simpa [htk] using HF.out⟩
    · have HTG := Lib.hid (Tryz.Buffer_tryGrow_none b (some ⟨g, 0, none⟩) bs.length cap n w0 c0 hlc hcm (by omega))
      have HGR := Lib.hid (bgrow_row b g bs.length cap n 0 cur bs w0 hbk' rfl hl0 hg' hlc hcm hcs htk hgb h1 hn1 (by omega) hlim)
      clear hw0 c0 hbk f0
      go_enter Tryz.func78, Tryz.ntmps78
      go_wp2_with fail
      rw [← HW0.out]
      refine HTG.out.mono ?_
      rintro e W1 ⟨rfl, rfl⟩
      go_wp2_with fail
      refine HGR.out.mono ?_
      rintro e W1 ⟨rfl, cap2, cells, hb1, hg1, hcz, htk1, hle, hmx, hgr⟩
      have hgW := Lib.grownBy_trans hgw0 hgr
      rw [hs0] at hb1 hg1
      have d0 : W1.cell? ⟨b, 0, none⟩ = some (.slice (some ⟨w.heap.size, 0, none⟩) (bs.length + n) cap2) := by rw [Lib.cell_of_heap hb1]; rfl
      have hne2 : ¬ cap2 = bs.length := by omega
      have hsrc1 : ∀ j v, cs[j]? = some v → W1.cell? (a.add j) = some v := fun j v hj => hgW.cell (hsrc j v hj) (by rw [block_of_add]; exact fun e => hab (Option.some.inj e))
      have hcp := run_copy_row (P := Tryz.prog) W1 26 26 3 5 w.heap.size bs.length n (cap2 - bs.length) a n c cells 5 cs Tryz.underlying26 hinfo hg1 (by rw [hn]; exact (Nat.min_self n).symm) hsrc1 (by rw [hn]; omega) h1c
      rw [hn] at hcp
      have hmx' := hmx
      unfold maxLen at hmx'
      have HF := Lib.hid (hfin w.heap.size cap2 cells 0 W1 hgW (.inr (Nat.le_refl _)) (by omega) hb1 hg1 hcz hle hmx htk1)
      clear hneg hg' hbk'
      go_wp2_with fail
      go_ret2
      exact ⟨rfl, by simpa [htk1] using HF.out⟩
end Go.Proofs.YthpcfnegfdcbjaaGreatDoor
