/- spec.addrNumber at the numbers that occur, slices.Grow of nil: what they return. -/
import Derived.Test.YtkmieonfhcmimaaGreatDoorXc
import Derived.Lib.AppendZerosOnto
import Derived.Lib.Walk
import Derived.Laws.CopyOwn
namespace Go.Proofs.YtkmieonfhcmimaaGreatDoor
open Go.RowKit

/-- A row of the call's own, of new memory. -/
def OwnB (l : List UInt8) (w : World) (e : Ending) (w' : World) : Prop :=
  ∃ v, e = .returned v ∧ w'.ownsRow w.heap.size 5 1 v l.length (bv l) ∧ Below w.heap.size w w'
theorem OwnB.out {l : List UInt8} {w w' : World} {e : Ending} (h : OwnB l w e w') : OutB l w e w' := by
  obtain ⟨v, rfl, h, hb⟩ := h
  exact OutB.of_own h hb

set_option maxRecDepth 100000 in
set_option maxHeartbeats 1000000 in
theorem number_small (n : Nat) (w : World) (hn : n < 128) : Calls Tryz.prog 70 #[.int .i64 n] w (OwnB [UInt8.ofNat n] w) := by
  obtain ⟨i0, hi0, hz0, hz1, hz2⟩ := info_parts u8_info
  go_enter Tryz.func70, Tryz.ntmps70
  go_wp2_with fail
  refine wp_loop_rounds 1 ?_
  rw [rounds_succ]
  go_wp2_with (at_builtin; refine wpList_append_any _ rfl (.tmp 14) (.tmp 17) _ rfl w.heap.size 5 i0 _ 1 1 Tryz.underlying32 hi0 hz0 hz1 hz2 rfl (by decide) _ _ _ rfl (World.ownsRow_nil _ _ _ _) _ _ 1 1 [.int .u8 n] rfl (reads_new w #[.int .u8 n] 5 1 1 rfl) (by simp; rfl) ?c1 ?c2 ?c3 ?_)
  case c1 => simp [maxLen]
  case c2 => omega
  case c3 => simp
  intro v' w1 hown hgrow _hat
  go_wp2
  go_ret
  refine ⟨v', rfl, ?_, ((Below.refl _ w).alloc (Nat.le_refl _) _).grown hgrow (by simp) (by intro k hk; simp [Value.ownBlock] at hk)⟩
  have e : bv [UInt8.ofNat n] = [Value.int .u8 n] := by simp [bv]; omega
  rw [e]
  exact hown

set_option maxRecDepth 100000 in
set_option maxHeartbeats 1000000 in
theorem number_421 (w : World) : Calls Tryz.prog 70 #[.int .i64 421] w (OwnB [165, 3] w) := by
  obtain ⟨i0, hi0, hz0, hz1, hz2⟩ := info_parts u8_info
  go_enter Tryz.func70, Tryz.ntmps70
  go_wp2_with fail
  refine wp_loop_rounds 2 ?_
  rw [rounds_succ]
  go_wp2_with (at_builtin; refine wpList_append_any _ rfl (.tmp 6) (.tmp 10) _ rfl w.heap.size 5 i0 _ 1 1 Tryz.underlying32 hi0 hz0 hz1 hz2 rfl (by decide) _ _ _ rfl (World.ownsRow_nil _ _ _ _) _ _ 1 1 [.int .u8 165] rfl (reads_new w #[.int .u8 165] 5 1 1 rfl) (by simp; rfl) ?c1 ?c2 ?c3 ?_)
  case c1 => simp [maxLen]
  case c2 => omega
  case c3 => simp
  intro v1 w1 hown1 hgrow1 _hat
  have hb1 : Below w.heap.size w w1 := ((Below.refl _ w).alloc (Nat.le_refl _) _).grown hgrow1 (by simp) (by intro k hk; simp [Value.ownBlock] at hk)
  have hH := Lib.hid hown1
  clear hown1 hgrow1 _hat
  go_wp2_with fail
  rw [rounds_succ]
  go_wp2_with (at_builtin; refine wpList_append_any _ rfl (.tmp 14) (.tmp 17) _ rfl w.heap.size 5 i0 _ 1 1 Tryz.underlying32 hi0 hz0 hz1 hz2 rfl (by decide) _ 1 [.int .u8 165] rfl (hH.out.alloc _) _ _ 1 1 [.int .u8 3] rfl (reads_new w1 #[.int .u8 3] 5 1 1 rfl) (by simp; rfl) ?c1 ?c2 ?c3 ?_)
  case c1 => simp [maxLen]
  case c2 => omega
  case c3 => have := hb1.size; simp; omega
  intro v2 w2 hown2 hgrow2 _hat
  go_wp2
  go_ret
  exact ⟨v2, rfl, hown2, (hb1.alloc hb1.size _).grown hgrow2 (by have := hb1.size; simp; omega) (fun k hk => (hH.out.lt k hk).1)⟩
set_option maxRecDepth 100000 in
set_option maxHeartbeats 1000000 in
theorem number_273 (w : World) : Calls Tryz.prog 70 #[.int .i64 273] w (OwnB [145, 2] w) := by
  obtain ⟨i0, hi0, hz0, hz1, hz2⟩ := info_parts u8_info
  go_enter Tryz.func70, Tryz.ntmps70
  go_wp2_with fail
  refine wp_loop_rounds 2 ?_
  rw [rounds_succ]
  go_wp2_with (at_builtin; refine wpList_append_any _ rfl (.tmp 6) (.tmp 10) _ rfl w.heap.size 5 i0 _ 1 1 Tryz.underlying32 hi0 hz0 hz1 hz2 rfl (by decide) _ _ _ rfl (World.ownsRow_nil _ _ _ _) _ _ 1 1 [.int .u8 145] rfl (reads_new w #[.int .u8 145] 5 1 1 rfl) (by simp; rfl) ?c1 ?c2 ?c3 ?_)
  case c1 => simp [maxLen]
  case c2 => omega
  case c3 => simp
  intro v1 w1 hown1 hgrow1 _hat
  have hb1 : Below w.heap.size w w1 := ((Below.refl _ w).alloc (Nat.le_refl _) _).grown hgrow1 (by simp) (by intro k hk; simp [Value.ownBlock] at hk)
  have hH := Lib.hid hown1
  clear hown1 hgrow1 _hat
  go_wp2_with fail
  rw [rounds_succ]
  go_wp2_with (at_builtin; refine wpList_append_any _ rfl (.tmp 14) (.tmp 17) _ rfl w.heap.size 5 i0 _ 1 1 Tryz.underlying32 hi0 hz0 hz1 hz2 rfl (by decide) _ 1 [.int .u8 145] rfl (hH.out.alloc _) _ _ 1 1 [.int .u8 2] rfl (reads_new w1 #[.int .u8 2] 5 1 1 rfl) (by simp; rfl) ?c1 ?c2 ?c3 ?_)
  case c1 => simp [maxLen]
  case c2 => omega
  case c3 => have := hb1.size; simp; omega
  intro v2 w2 hown2 hgrow2 _hat
  go_wp2
  go_ret
  exact ⟨v2, rfl, hown2, (hb1.alloc hb1.size _).grown hgrow2 (by have := hb1.size; simp; omega) (fun k hk => (hH.out.lt k hk).1)⟩
set_option maxRecDepth 100000 in
set_option maxHeartbeats 1000000 in
theorem number_461 (w : World) : Calls Tryz.prog 70 #[.int .i64 461] w (OwnB [205, 3] w) := by
  obtain ⟨i0, hi0, hz0, hz1, hz2⟩ := info_parts u8_info
  go_enter Tryz.func70, Tryz.ntmps70
  go_wp2_with fail
  refine wp_loop_rounds 2 ?_
  rw [rounds_succ]
  go_wp2_with (at_builtin; refine wpList_append_any _ rfl (.tmp 6) (.tmp 10) _ rfl w.heap.size 5 i0 _ 1 1 Tryz.underlying32 hi0 hz0 hz1 hz2 rfl (by decide) _ _ _ rfl (World.ownsRow_nil _ _ _ _) _ _ 1 1 [.int .u8 205] rfl (reads_new w #[.int .u8 205] 5 1 1 rfl) (by simp; rfl) ?c1 ?c2 ?c3 ?_)
  case c1 => simp [maxLen]
  case c2 => omega
  case c3 => simp
  intro v1 w1 hown1 hgrow1 _hat
  have hb1 : Below w.heap.size w w1 := ((Below.refl _ w).alloc (Nat.le_refl _) _).grown hgrow1 (by simp) (by intro k hk; simp [Value.ownBlock] at hk)
  have hH := Lib.hid hown1
  clear hown1 hgrow1 _hat
  go_wp2_with fail
  rw [rounds_succ]
  go_wp2_with (at_builtin; refine wpList_append_any _ rfl (.tmp 14) (.tmp 17) _ rfl w.heap.size 5 i0 _ 1 1 Tryz.underlying32 hi0 hz0 hz1 hz2 rfl (by decide) _ 1 [.int .u8 205] rfl (hH.out.alloc _) _ _ 1 1 [.int .u8 3] rfl (reads_new w1 #[.int .u8 3] 5 1 1 rfl) (by simp; rfl) ?c1 ?c2 ?c3 ?_)
  case c1 => simp [maxLen]
  case c2 => omega
  case c3 => have := hb1.size; simp; omega
  intro v2 w2 hown2 hgrow2 _hat
  go_wp2
  go_ret
  exact ⟨v2, rfl, hown2, (hb1.alloc hb1.size _).grown hgrow2 (by have := hb1.size; simp; omega) (fun k hk => (hH.out.lt k hk).1)⟩
set_option maxRecDepth 100000 in
set_option maxHeartbeats 1000000 in
theorem number_477 (w : World) : Calls Tryz.prog 70 #[.int .i64 477] w (OwnB [221, 3] w) := by
  obtain ⟨i0, hi0, hz0, hz1, hz2⟩ := info_parts u8_info
  go_enter Tryz.func70, Tryz.ntmps70
  go_wp2_with fail
  refine wp_loop_rounds 2 ?_
  rw [rounds_succ]
  go_wp2_with (at_builtin; refine wpList_append_any _ rfl (.tmp 6) (.tmp 10) _ rfl w.heap.size 5 i0 _ 1 1 Tryz.underlying32 hi0 hz0 hz1 hz2 rfl (by decide) _ _ _ rfl (World.ownsRow_nil _ _ _ _) _ _ 1 1 [.int .u8 221] rfl (reads_new w #[.int .u8 221] 5 1 1 rfl) (by simp; rfl) ?c1 ?c2 ?c3 ?_)
  case c1 => simp [maxLen]
  case c2 => omega
  case c3 => simp
  intro v1 w1 hown1 hgrow1 _hat
  have hb1 : Below w.heap.size w w1 := ((Below.refl _ w).alloc (Nat.le_refl _) _).grown hgrow1 (by simp) (by intro k hk; simp [Value.ownBlock] at hk)
  have hH := Lib.hid hown1
  clear hown1 hgrow1 _hat
  go_wp2_with fail
  rw [rounds_succ]
  go_wp2_with (at_builtin; refine wpList_append_any _ rfl (.tmp 14) (.tmp 17) _ rfl w.heap.size 5 i0 _ 1 1 Tryz.underlying32 hi0 hz0 hz1 hz2 rfl (by decide) _ 1 [.int .u8 221] rfl (hH.out.alloc _) _ _ 1 1 [.int .u8 3] rfl (reads_new w1 #[.int .u8 3] 5 1 1 rfl) (by simp; rfl) ?c1 ?c2 ?c3 ?_)
  case c1 => simp [maxLen]
  case c2 => omega
  case c3 => have := hb1.size; simp; omega
  intro v2 w2 hown2 hgrow2 _hat
  go_wp2
  go_ret
  exact ⟨v2, rfl, hown2, (hb1.alloc hb1.size _).grown hgrow2 (by have := hb1.size; simp; omega) (fun k hk => (hH.out.lt k hk).1)⟩
set_option maxRecDepth 100000 in
set_option maxHeartbeats 1000000 in
theorem number_290 (w : World) : Calls Tryz.prog 70 #[.int .i64 290] w (OwnB [162, 2] w) := by
  obtain ⟨i0, hi0, hz0, hz1, hz2⟩ := info_parts u8_info
  go_enter Tryz.func70, Tryz.ntmps70
  go_wp2_with fail
  refine wp_loop_rounds 2 ?_
  rw [rounds_succ]
  go_wp2_with (at_builtin; refine wpList_append_any _ rfl (.tmp 6) (.tmp 10) _ rfl w.heap.size 5 i0 _ 1 1 Tryz.underlying32 hi0 hz0 hz1 hz2 rfl (by decide) _ _ _ rfl (World.ownsRow_nil _ _ _ _) _ _ 1 1 [.int .u8 162] rfl (reads_new w #[.int .u8 162] 5 1 1 rfl) (by simp; rfl) ?c1 ?c2 ?c3 ?_)
  case c1 => simp [maxLen]
  case c2 => omega
  case c3 => simp
  intro v1 w1 hown1 hgrow1 _hat
  have hb1 : Below w.heap.size w w1 := ((Below.refl _ w).alloc (Nat.le_refl _) _).grown hgrow1 (by simp) (by intro k hk; simp [Value.ownBlock] at hk)
  have hH := Lib.hid hown1
  clear hown1 hgrow1 _hat
  go_wp2_with fail
  rw [rounds_succ]
  go_wp2_with (at_builtin; refine wpList_append_any _ rfl (.tmp 14) (.tmp 17) _ rfl w.heap.size 5 i0 _ 1 1 Tryz.underlying32 hi0 hz0 hz1 hz2 rfl (by decide) _ 1 [.int .u8 162] rfl (hH.out.alloc _) _ _ 1 1 [.int .u8 2] rfl (reads_new w1 #[.int .u8 2] 5 1 1 rfl) (by simp; rfl) ?c1 ?c2 ?c3 ?_)
  case c1 => simp [maxLen]
  case c2 => omega
  case c3 => have := hb1.size; simp; omega
  intro v2 w2 hown2 hgrow2 _hat
  go_wp2
  go_ret
  exact ⟨v2, rfl, hown2, (hb1.alloc hb1.size _).grown hgrow2 (by have := hb1.size; simp; omega) (fun k hk => (hH.out.lt k hk).1)⟩
end Go.Proofs.YtkmieonfhcmimaaGreatDoor

/- slices.Grow of nil, slices.Concat of bytes: what they return. -/
namespace Go.Proofs.YtkmieonfhcmimaaGreatDoor
open Go.RowKit

set_option maxRecDepth 100000 in
set_option maxHeartbeats 1000000 in
theorem grow_nil (n : Nat) (w : World) (hn : n ≤ 1000000) : Calls Tryz.prog 83 #[.slice none 0 0, .int .i64 n] w (OwnB [] w) := by
  obtain ⟨i0, hi0, hz0, hz1, hz2⟩ := info_parts u8_info
  by_cases h0 : n = 0
  · subst h0
    go_enter Tryz.func83, Tryz.ntmps83
    go_wp2
    go_ret
    exact ⟨_, rfl, World.ownsRow_nil _ _ _ _, Below.refl _ _⟩
  have hpos : 0 < n := by omega
  have hrz : ∀ ty, (Builtin.append_ #[32, 3] ty #[.slice none 0 0, .int .i64 (n : Int)]).run Tryz.prog w =
      .ok (.slice (some ⟨w.heap.size, 0, none⟩) n (grownCap w n 0 5)) (w.drew.alloc (.cells (Builtin.zeroCells (Value.int .u8 0).cells n ++ Builtin.zeroCells (Value.int .u8 0).cells (grownCap w n 0 5 - n)) 5)) := fun ty => by
    have h := Lib.run_append_grow_zeros (P := Tryz.prog) w 32 3 ty 5 i0 (.int .u8 0) .i64 .i64 Tryz.underlying32 Tryz.underlying3 hi0 hz0 none 0 0 [] (run_firstCells_none w.drew i0.size 0 0 0) n (by omega) (by omega) (by omega) (by omega) (by rw [hz2]; omega) (growslice_fits (by omega) (by rw [hz2]; omega))
    simpa using h
  have hle : n ≤ grownCap w n 0 5 := grownCap_ge w _ _ _
  have hmx : grownCap w n 0 5 ≤ maxLen := grownCap_le_maxLen w n 0 5 (by unfold maxLen; omega)
  obtain ⟨G, hG⟩ : ∃ G, G = grownCap w n 0 5 := ⟨_, rfl⟩
  rw [← hG] at hrz hle hmx
  have hGG := Lib.hid hmx
  have hRR := Lib.hid hz2
  clear hG hmx
  go_enter Tryz.func83, Tryz.ntmps83
  go_wp2_with (at_builtin; refine Lib.wpList_append_run _ rfl _ _ _ _ rfl _ _ rfl rfl _ _ (hrz _) ?_)
  all_goals go_ret
  refine ⟨_, rfl, ⟨by simp [bv], .inr ⟨w.heap.size, G, _, rfl, Nat.le_refl _, heap_alloc_new w _, Nat.zero_le _, hGG.out, ?_, by simp [bv]⟩⟩, ((Below.refl _ w).alloc (Nat.le_refl _) _).drew⟩
  rw [Array.size_append, size_zeroCells, size_zeroCells]
  simp
  omega

/-- A slice of bytes, as a part of what is joined. -/
structure Part where
  A : Option Addr
  n : Nat
  c : Nat
  l : List UInt8
def Part.v (p : Part) : Value := .slice p.A p.n p.c
def partsSize (ps : List Part) : Nat := (ps.map (·.n)).sum
def partsBytes (ps : List Part) : List UInt8 := ps.flatMap (·.l)

theorem partsSize_take (ps : List Part) (k : Nat) (h : k < ps.length) : partsSize (ps.take (k + 1)) = partsSize (ps.take k) + (ps[k]).n := by
  unfold partsSize
  rw [List.take_succ_eq_append_getElem h, List.map_append, List.sum_append]
  simp
theorem partsSize_le (ps : List Part) (k : Nat) : partsSize (ps.take k) ≤ partsSize ps := by
  unfold partsSize
  rw [show (ps.map (·.n)).sum = ((ps.take k ++ ps.drop k).map (·.n)).sum by rw [List.take_append_drop]]
  rw [List.map_append, List.sum_append]
  omega

theorem partsBytes_take (ps : List Part) (k : Nat) (h : k < ps.length) : partsBytes (ps.take (k + 1)) = partsBytes (ps.take k) ++ (ps[k]).l := by
  unfold partsBytes
  rw [List.take_succ_eq_append_getElem h, List.flatMap_append]
  simp
theorem partsBytes_len (ps : List Part) (h : ∀ p ∈ ps, p.l.length = p.n) : (partsBytes ps).length = partsSize ps := by
  induction ps with
  | nil => rfl
  | cons p ps ih =>
    have h1 := h p (by simp)
    have h2 := ih (fun q hq => h q (by simp [hq]))
    unfold partsBytes partsSize at *
    simp only [List.flatMap_cons, List.length_append, List.map_cons, List.sum_cons]
    omega

set_option maxRecDepth 100000 in
set_option maxHeartbeats 2000000 in
theorem concat_any (ps : List Part) (g c : Nat) (w : World) (hr : ∀ k (h : k < ps.length), w.cell? ⟨g, k, none⟩ = some (ps[k]).v) (hg : g < w.heap.size) (hc : ps.length ≤ 100) (hp : ∀ p ∈ ps, RB w w.heap.size p.A p.n p.c p.l) (hs : partsSize ps ≤ 1000000) :
    Calls Tryz.prog 50 #[.slice (some ⟨g, 0, none⟩) ps.length c] w (OwnB (partsBytes ps) w) := by
  obtain ⟨i0, hi0, hz0, hz1, hz2⟩ := info_parts u8_info
  have HR := Lib.hid hr
  have HP := Lib.hid hp
  have HS := Lib.hid hs
  clear hr hp hs
  go_enter Tryz.func50, Tryz.ntmps50
  go_wp2_with fail
  go_loop [3, 11] (fun t i => ∃ k : Nat, k ≤ ps.length ∧ i = .int .i64 k ∧ t = .int .i64 (partsSize (ps.take k))) (fun _ i => ps.length - (intOf i).toNat)
  case atStart => exact ⟨0, by omega, rfl, rfl⟩
  case round =>
    obtain ⟨k, hk, rfl, rfl⟩ := hrel
    by_cases hlt : k < ps.length
    · have hcell := HR.out k hlt
      have hb := partsSize_le ps (k + 1)
      have h1 := partsSize_take ps k hlt
      have h2 := HS.out
      have HB : Hid (partsSize (ps.take (k + 1)) = partsSize (ps.take k) + (ps[k]).n) := h1
      have hb2 : partsSize (ps.take k) + (ps[k]).n ≤ 1000000 := by omega
      clear h1 hb h2
      obtain ⟨q, hq⟩ : ∃ q, q = ps[k] := ⟨_, rfl⟩
      rw [← hq] at hcell HB hb2
      have HQ := Lib.hid hq
      clear hq
      unfold Part.v at hcell
      go_wp2_with fail
      go_round
      case rel => exact ⟨k + 1, by omega, by go_num, by rw [HB.out]; go_num⟩
      case measure => simp [intOf]; omega
    · have hkk : k = ps.length := by omega
      subst hkk
      have hS := HS.out
      rw [List.take_length]
      go_wp2_with fail
      refine (grow_nil _ _ hS).mono ?_
      rintro e w1 ⟨v, rfl, hown, hb⟩
      have HO := Lib.hid hown
      have hz := hb.size
      clear hown
      go_wp2_with fail
      go_loopw [6, 27] (fun v i wr => ∃ k : Nat, k ≤ ps.length ∧ i = .int .i64 k ∧ wr.ownsRow w.heap.size 5 1 v (partsSize (ps.take k)) (bv (partsBytes (ps.take k))) ∧ Below w.heap.size w wr) (fun _ i _ => ps.length - (intOf i).toNat)
      case atStart => exact ⟨0, by omega, rfl, HO.out, hb⟩
      case round =>
        obtain ⟨k, hk, rfl, hown, hbr⟩ := hrel
        have HO2 := Lib.hid hown
        have HBR := Lib.hid hbr
        have hzr := hbr.size
        clear hown hbr HO hb hz hS
        by_cases hlt : k < ps.length
        · have hb := partsSize_le ps (k + 1)
          have h1 := partsSize_take ps k hlt
          have h2 := HS.out
          have h3 := partsBytes_take ps k hlt
          have hq1 := (HP.out _ (List.getElem_mem hlt)).below HBR.out
          have hcell := (HBR.out.cell (p := ⟨g, k, none⟩) hg).trans (HR.out k hlt)
          have hb2 : partsSize (ps.take k) + (ps[k]).n ≤ 1000000 := by omega
          have HB : Hid (partsSize (ps.take (k + 1)) = partsSize (ps.take k) + (ps[k]).n) := h1
          have HC : Hid (partsBytes (ps.take (k + 1)) = partsBytes (ps.take k) ++ (ps[k]).l) := h3
          clear h1 hb h2 h3
          obtain ⟨q, hq⟩ : ∃ q, q = ps[k] := ⟨_, rfl⟩
          rw [← hq] at hcell HB hb2 HC hq1
          have HQ := Lib.hid hq1
          clear hq hq1
          unfold Part.v at hcell
          go_wp2_with (at_builtin; refine wpList_append_any _ rfl (.tmp 31) (.tmp 32) _ rfl w.heap.size 5 i0 _ 1 1 Tryz.underlying32 hi0 hz0 hz1 hz2 rfl (by decide) _ _ _ rfl HO2.out _ q.A q.n q.c (bv q.l) rfl HQ.out.reads (bv_one _) ?c1 ?c2 ?c3 ?_)
          case c1 => unfold maxLen; omega
          case c2 => omega
          case c3 => exact hzr
          intro v2 w2 hown2 hgrow2 _hat
          have HO3 := Lib.hid hown2
          have HG := Lib.hid hgrow2
          clear hown2 hgrow2 _hat
          go_wp2_with fail
          go_roundw
          case rel => exact ⟨k + 1, by omega, by go_num, by rw [HB.out, HC.out, bv_append]; exact HO3.out, HBR.out.grown HG.out hzr (fun j hj => (HO2.out.lt j hj).1)⟩
          case measure => simp [intOf]; omega
        · have hkk : k = ps.length := by omega
          subst hkk
          go_wp2_with fail
          go_ret
          have hl := partsBytes_len ps (fun p h => (HP.out p h).len)
          have ho := HO2.out
          rw [List.take_length] at ho
          exact ⟨_, rfl, by rw [hl]; exact ho, HBR.out⟩
end Go.Proofs.YtkmieonfhcmimaaGreatDoor

/- spec.addrFilled, spec.AddrID of at most 42 bytes: what they return. -/
namespace Go.Proofs.YtkmieonfhcmimaaGreatDoor
open Go.RowKit

/-- Data in so many bytes, zeros behind. -/
def filled (l : List UInt8) (n : Nat) : List UInt8 := l.take n ++ List.replicate (n - l.length) 0
theorem filled_length (l : List UInt8) (n : Nat) : (filled l n).length = n := by simp [filled]; omega

set_option maxRecDepth 100000 in
set_option maxHeartbeats 2000000 in
theorem filled_any (A : Option Addr) (n c m : Nat) (l : List UInt8) (w : World) (h : RB w w.heap.size A n c l) (hm : m ≤ 1000) (hm0 : 0 < m) :
    Calls Tryz.prog 69 #[.slice A n c, .int .i64 m] w (OwnB (filled l m) w) := by
  obtain ⟨i0, hi0, hz0, hz1, hz2⟩ := info_parts u8_info
  have HR := Lib.hid h
  clear h
  have hmk := fun W : World => run_make_rowN (P := Tryz.prog) 32 5 i0 (.int .u8 0) Tryz.underlying32 hi0 hz0 .i64 .i64 m m (Nat.le_refl _) (by rw [hz2]; omega) (by omega) W
  rw [hz1, Nat.mul_one] at hmk
  go_enter Tryz.func69, Tryz.ntmps69
  go_wp2_with (with_reducible refine wpList_copy_splice rfl (.tmp 8) (.tmp 9) _ _ rfl 5 Tryz.underlying32 ?c0 (some ⟨w.heap.size, 0, none⟩) A m m n c rfl rfl w.heap.size 0 (madeCells #[Value.int .u8 0] m).toList 5 ?c1 (bv (l.take m)) ?c2 ?c3 ?c4 (bv_one _) w.heap.size w ?c5 (Nat.le_refl _) ?_)
  case c0 => simp [hi0, hz1]
  case c1 => rw [Array.toArray_toList]; exact heap_alloc_new w _
  case c2 => rw [bv_length, List.length_take, HR.out.len]; exact Nat.min_comm _ _
  case c3 =>
    intro hp
    have hn : 0 < n := by
      rw [bv_length, List.length_take, HR.out.len] at hp
      omega
    obtain ⟨ad, e, _, hc⟩ := (HR.out.reads.alloc (Nat.le_refl _) (.cells (madeCells #[Value.int .u8 0] m) 5)).2 hn
    refine ⟨ad, e, fun j v hj => hc j v ?_⟩
    rw [← bv_take, List.getElem?_take] at hj
    split at hj
    · exact hj
    · cases hj
  case c4 => simp [bv_length, size_madeCells]; omega
  case c5 => exact (Below.refl _ w).alloc (Nat.le_refl _) _
  intro w1 hcell hb
  have hle : (bv (l.take m)).length ≤ m := by rw [bv_length, List.length_take]; omega
  have HL := Lib.hid hle
  clear hle
  go_wp2
  go_ret
  have hsp : splice (madeCells #[Value.int .u8 0] m).toList 0 (bv (l.take m)) = bv (filled l m) := by
    rw [toList_madeCells_one]
    unfold splice filled
    rw [bv_append]
    simp [bv, Nat.min_def]
    split <;> omega
  refine ⟨_, rfl, ⟨by rw [bv_length, Nat.mul_one], .inr ⟨w.heap.size, m, _, by rw [filled_length]; rfl, Nat.le_refl _, hcell.out, by rw [filled_length]; exact Nat.le_refl _, by unfold maxLen; omega, ?_, ?_⟩⟩, hb⟩
  · rw [hsp, List.size_toArray, bv_length, filled_length, Nat.mul_one]
  · rw [hsp, filled_length]; simp only [Nat.mul_one]; exact List.take_of_length_le (by rw [bv_length, filled_length]; exact Nat.le_refl _)
end Go.Proofs.YtkmieonfhcmimaaGreatDoor
