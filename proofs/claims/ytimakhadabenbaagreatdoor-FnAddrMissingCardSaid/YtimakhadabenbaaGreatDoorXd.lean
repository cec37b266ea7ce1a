/- bytes.Clone, bytes.Equal, errors.New: what they return, for all bytes. No condition beyond the bytes' number. -/
import Derived.Test.YtimakhadabenbaaGreatDoorWc
import Derived.Test.YtimakhadabenbaaGreatDoorProg
import Derived.Lib.SliceRun
import Derived.WalkSpells
import Derived.Handy
namespace Go.Proofs.YtimakhadabenbaaGreatDoor
open Go.RowKit

theorem u8_info : (Tryz.prog.info? 5).map (fun i => (i.zero, i.size, i.bytes)) = some (some (.int .u8 0), 1, 1) := by kernel_rfl

/-- A slice of new memory that reads as bytes. -/
def OutB (l : List UInt8) (w : World) (e : Ending) (w' : World) : Prop :=
  ∃ A c, e = .returned (.slice A l.length c) ∧ RB w' w'.heap.size A l.length c l ∧ Below w.heap.size w w'

theorem OutB.of_own {l : List UInt8} {w w' : World} {v : Value} {n : Nat} {base : Nat} {ty : TypeId} (h : w'.ownsRow base ty 1 v n (bv l)) (hb : Below w.heap.size w w') : OutB l w (.returned v) w' := by
  have hn : l.length = n := by have := h.1; rw [bv_length] at this; omega
  subst hn
  obtain ⟨A, c, rfl⟩ := own_slice h
  exact ⟨A, c, rfl, RB.of_own h, hb⟩

set_option maxRecDepth 100000 in
set_option maxHeartbeats 1000000 in
theorem clone_any (A : Option Addr) (n c : Nat) (l : List UInt8) (w : World) (h : RB w w.heap.size A n c l) (hn : n ≤ 140737488355328) :
    Calls Tryz.prog 25 #[.slice A n c] w (OutB l w) := by
  obtain ⟨i0, hi0, hz0, hz1, hz2⟩ := info_parts u8_info
  have q : ∀ (w : World) (a : Option Addr) (n c n' c' : Nat), (binOp .eql 27 (.slice a n c) (.slice none n' c')).run Tryz.prog w = .ok (.bool a.isNone) w := fun w a n c n' c' => Lib.run_eql_slice_nil w _ _ a n c n' c' Tryz.underlying27
  have hlen := Lib.hid h.len
  rcases A with _ | a
  · have h0 : l = [] := by
      rcases Nat.eq_zero_or_pos n with h0 | h0
      · exact List.eq_nil_of_length_eq_zero (by rw [hlen.out, h0])
      · obtain ⟨ad, e1, _⟩ := h.reads.2 h0
        cases e1
    have H := Lib.hid h
    clear h
    go_enter Tryz.func25, Tryz.ntmps25
    go_wp2
    go_ret
    subst h0
    exact ⟨none, 0, rfl, RB.nil_ _ _, Below.refl _ _⟩
  · have H := Lib.hid h
    have hB := Lib.hid hn
    clear h hn
    go_enter Tryz.func25, Tryz.ntmps25
    go_wp2_with (at_builtin; refine wpList_append_any _ rfl (.tmp 5) (.tmp 6) _ rfl w.heap.size 5 i0 _ 1 1 Tryz.underlying27 hi0 hz0 hz1 hz2 rfl (by decide) _ _ _ rfl (World.ownsRow_made w #[] 0 (Nat.le_refl _) (Nat.zero_le _) rfl) w.heap.size (some a) n c (bv l) rfl (H.out.reads.alloc (Nat.le_refl _) _) (bv_one l) ?c1 ?c2 ?c3 ?_)
    case c1 => have := hB.out; unfold maxLen; omega
    case c2 => have := hB.out; omega
    case c3 => simp
    intro v' w1 hown hgrow _hat
    go_wp2
    go_ret
    exact OutB.of_own hown (((Below.refl _ w).alloc (Nat.le_refl _) _).grown hgrow (by simp) (by intro k hk; simp [Value.ownBlock] at hk; omega))

theorem equal_any (A B : Option Addr) (n c m d : Nat) (l k : List UInt8) (w : World) (h : RB w w.heap.size A n c l) (h' : RB w w.heap.size B m d k) :
    Calls Tryz.prog 15 #[.slice A n c, .slice B m d] w fun e w' => e = .returned (.bool (l == k)) ∧ w = w' := by
  have c1 := run_convert_RB h 27 5 Tryz.underlying27 Tryz.underlying5 9 Tryz.underlying9
  have c2 := run_convert_RB h' 27 5 Tryz.underlying27 Tryz.underlying5 9 Tryz.underlying9
  clear h h'
  go_enter Tryz.func15, Tryz.ntmps15
  go_wp2
  go_ret
  exact ⟨rfl, rfl⟩
end Go.Proofs.YtimakhadabenbaaGreatDoor

/- spec.addrNumber at the numbers that occur, slices.Grow of nil: what they return. -/
namespace Go.Proofs.YtimakhadabenbaaGreatDoor
open Go.RowKit

/-- A row of the call's own, of new memory. -/
def OwnB (l : List UInt8) (w : World) (e : Ending) (w' : World) : Prop :=
  ∃ v, e = .returned v ∧ w'.ownsRow w.heap.size 5 1 v l.length (bv l) ∧ Below w.heap.size w w'
theorem OwnB.out {l : List UInt8} {w w' : World} {e : Ending} (h : OwnB l w e w') : OutB l w e w' := by
  obtain ⟨v, rfl, h, hb⟩ := h
  exact OutB.of_own h hb

set_option maxRecDepth 100000 in
set_option maxHeartbeats 1000000 in
theorem number_small (n : Nat) (w : World) (hn : n < 128) : Calls Tryz.prog 37 #[.int .i64 n] w (OwnB [UInt8.ofNat n] w) := by
  obtain ⟨i0, hi0, hz0, hz1, hz2⟩ := info_parts u8_info
  go_enter Tryz.func37, Tryz.ntmps37
  go_wp2_with fail
  refine wp_loop_rounds 1 ?_
  rw [rounds_succ]
  go_wp2_with (at_builtin; refine wpList_append_any _ rfl (.tmp 14) (.tmp 17) _ rfl w.heap.size 5 i0 _ 1 1 Tryz.underlying27 hi0 hz0 hz1 hz2 rfl (by decide) _ _ _ rfl (World.ownsRow_nil _ _ _ _) _ _ 1 1 [.int .u8 n] rfl (reads_new w #[.int .u8 n] 5 1 1 rfl) (by simp; rfl) ?c1 ?c2 ?c3 ?_)
  case c1 => simp [maxLen]
  case c2 => omega
  case c3 => simp
  intro v' w1 hown hgrow _hat
  go_wp2
  go_ret
  refine ⟨v', rfl, ?_, ((Below.refl _ w).alloc (Nat.le_refl _) _).grown hgrow (by simp) (by intro k hk; simp [Value.ownBlock] at hk)⟩
  have e : bv [UInt8.ofNat n] = [Value.int .u8 n] := by simp [bv]; omega
  rw [e]
  exact hown

set_option maxRecDepth 100000 in
set_option maxHeartbeats 1000000 in
theorem number_421 (w : World) : Calls Tryz.prog 37 #[.int .i64 421] w (OwnB [165, 3] w) := by
  obtain ⟨i0, hi0, hz0, hz1, hz2⟩ := info_parts u8_info
  go_enter Tryz.func37, Tryz.ntmps37
  go_wp2_with fail
  refine wp_loop_rounds 2 ?_
  rw [rounds_succ]
  go_wp2_with (at_builtin; refine wpList_append_any _ rfl (.tmp 6) (.tmp 10) _ rfl w.heap.size 5 i0 _ 1 1 Tryz.underlying27 hi0 hz0 hz1 hz2 rfl (by decide) _ _ _ rfl (World.ownsRow_nil _ _ _ _) _ _ 1 1 [.int .u8 165] rfl (reads_new w #[.int .u8 165] 5 1 1 rfl) (by simp; rfl) ?c1 ?c2 ?c3 ?_)
  case c1 => simp [maxLen]
  case c2 => omega
  case c3 => simp
  intro v1 w1 hown1 hgrow1 _hat
  have hb1 : Below w.heap.size w w1 := ((Below.refl _ w).alloc (Nat.le_refl _) _).grown hgrow1 (by simp) (by intro k hk; simp [Value.ownBlock] at hk)
  have hH := Lib.hid hown1
  clear hown1 hgrow1 _hat
  go_wp2_with fail
  rw [rounds_succ]
  go_wp2_with (at_builtin; refine wpList_append_any _ rfl (.tmp 14) (.tmp 17) _ rfl w.heap.size 5 i0 _ 1 1 Tryz.underlying27 hi0 hz0 hz1 hz2 rfl (by decide) _ 1 [.int .u8 165] rfl (hH.out.alloc _) _ _ 1 1 [.int .u8 3] rfl (reads_new w1 #[.int .u8 3] 5 1 1 rfl) (by simp; rfl) ?c1 ?c2 ?c3 ?_)
  case c1 => simp [maxLen]
  case c2 => omega
  case c3 => have := hb1.size; simp; omega
  intro v2 w2 hown2 hgrow2 _hat
  go_wp2
  go_ret
  exact ⟨v2, rfl, hown2, (hb1.alloc hb1.size _).grown hgrow2 (by have := hb1.size; simp; omega) (fun k hk => (hH.out.lt k hk).1)⟩
set_option maxRecDepth 100000 in
set_option maxHeartbeats 1000000 in
theorem number_273 (w : World) : Calls Tryz.prog 37 #[.int .i64 273] w (OwnB [145, 2] w) := by
  obtain ⟨i0, hi0, hz0, hz1, hz2⟩ := info_parts u8_info
  go_enter Tryz.func37, Tryz.ntmps37
  go_wp2_with fail
  refine wp_loop_rounds 2 ?_
  rw [rounds_succ]
  go_wp2_with (at_builtin; refine wpList_append_any _ rfl (.tmp 6) (.tmp 10) _ rfl w.heap.size 5 i0 _ 1 1 Tryz.underlying27 hi0 hz0 hz1 hz2 rfl (by decide) _ _ _ rfl (World.ownsRow_nil _ _ _ _) _ _ 1 1 [.int .u8 145] rfl (reads_new w #[.int .u8 145] 5 1 1 rfl) (by simp; rfl) ?c1 ?c2 ?c3 ?_)
  case c1 => simp [maxLen]
  case c2 => omega
  case c3 => simp
  intro v1 w1 hown1 hgrow1 _hat
  have hb1 : Below w.heap.size w w1 := ((Below.refl _ w).alloc (Nat.le_refl _) _).grown hgrow1 (by simp) (by intro k hk; simp [Value.ownBlock] at hk)
  have hH := Lib.hid hown1
  clear hown1 hgrow1 _hat
  go_wp2_with fail
  rw [rounds_succ]
  go_wp2_with (at_builtin; refine wpList_append_any _ rfl (.tmp 14) (.tmp 17) _ rfl w.heap.size 5 i0 _ 1 1 Tryz.underlying27 hi0 hz0 hz1 hz2 rfl (by decide) _ 1 [.int .u8 145] rfl (hH.out.alloc _) _ _ 1 1 [.int .u8 2] rfl (reads_new w1 #[.int .u8 2] 5 1 1 rfl) (by simp; rfl) ?c1 ?c2 ?c3 ?_)
  case c1 => simp [maxLen]
  case c2 => omega
  case c3 => have := hb1.size; simp; omega
  intro v2 w2 hown2 hgrow2 _hat
  go_wp2
  go_ret
  exact ⟨v2, rfl, hown2, (hb1.alloc hb1.size _).grown hgrow2 (by have := hb1.size; simp; omega) (fun k hk => (hH.out.lt k hk).1)⟩
set_option maxRecDepth 100000 in
set_option maxHeartbeats 1000000 in
theorem number_461 (w : World) : Calls Tryz.prog 37 #[.int .i64 461] w (OwnB [205, 3] w) := by
  obtain ⟨i0, hi0, hz0, hz1, hz2⟩ := info_parts u8_info
  go_enter Tryz.func37, Tryz.ntmps37
  go_wp2_with fail
  refine wp_loop_rounds 2 ?_
  rw [rounds_succ]
  go_wp2_with (at_builtin; refine wpList_append_any _ rfl (.tmp 6) (.tmp 10) _ rfl w.heap.size 5 i0 _ 1 1 Tryz.underlying27 hi0 hz0 hz1 hz2 rfl (by decide) _ _ _ rfl (World.ownsRow_nil _ _ _ _) _ _ 1 1 [.int .u8 205] rfl (reads_new w #[.int .u8 205] 5 1 1 rfl) (by simp; rfl) ?c1 ?c2 ?c3 ?_)
  case c1 => simp [maxLen]
  case c2 => omega
  case c3 => simp
  intro v1 w1 hown1 hgrow1 _hat
  have hb1 : Below w.heap.size w w1 := ((Below.refl _ w).alloc (Nat.le_refl _) _).grown hgrow1 (by simp) (by intro k hk; simp [Value.ownBlock] at hk)
  have hH := Lib.hid hown1
  clear hown1 hgrow1 _hat
  go_wp2_with fail
  rw [rounds_succ]
  go_wp2_with (at_builtin; refine wpList_append_any _ rfl (.tmp 14) (.tmp 17) _ rfl w.heap.size 5 i0 _ 1 1 Tryz.underlying27 hi0 hz0 hz1 hz2 rfl (by decide) _ 1 [.int .u8 205] rfl (hH.out.alloc _) _ _ 1 1 [.int .u8 3] rfl (reads_new w1 #[.int .u8 3] 5 1 1 rfl) (by simp; rfl) ?c1 ?c2 ?c3 ?_)
  case c1 => simp [maxLen]
  case c2 => omega
  case c3 => have := hb1.size; simp; omega
  intro v2 w2 hown2 hgrow2 _hat
  go_wp2
  go_ret
  exact ⟨v2, rfl, hown2, (hb1.alloc hb1.size _).grown hgrow2 (by have := hb1.size; simp; omega) (fun k hk => (hH.out.lt k hk).1)⟩
set_option maxRecDepth 100000 in
set_option maxHeartbeats 1000000 in
theorem number_477 (w : World) : Calls Tryz.prog 37 #[.int .i64 477] w (OwnB [221, 3] w) := by
  obtain ⟨i0, hi0, hz0, hz1, hz2⟩ := info_parts u8_info
  go_enter Tryz.func37, Tryz.ntmps37
  go_wp2_with fail
  refine wp_loop_rounds 2 ?_
  rw [rounds_succ]
  go_wp2_with (at_builtin; refine wpList_append_any _ rfl (.tmp 6) (.tmp 10) _ rfl w.heap.size 5 i0 _ 1 1 Tryz.underlying27 hi0 hz0 hz1 hz2 rfl (by decide) _ _ _ rfl (World.ownsRow_nil _ _ _ _) _ _ 1 1 [.int .u8 221] rfl (reads_new w #[.int .u8 221] 5 1 1 rfl) (by simp; rfl) ?c1 ?c2 ?c3 ?_)
  case c1 => simp [maxLen]
  case c2 => omega
  case c3 => simp
  intro v1 w1 hown1 hgrow1 _hat
  have hb1 : Below w.heap.size w w1 := ((Below.refl _ w).alloc (Nat.le_refl _) _).grown hgrow1 (by simp) (by intro k hk; simp [Value.ownBlock] at hk)
  have hH := Lib.hid hown1
  clear hown1 hgrow1 _hat
  go_wp2_with fail
  rw [rounds_succ]
  go_wp2_with (at_builtin; refine wpList_append_any _ rfl (.tmp 14) (.tmp 17) _ rfl w.heap.size 5 i0 _ 1 1 Tryz.underlying27 hi0 hz0 hz1 hz2 rfl (by decide) _ 1 [.int .u8 221] rfl (hH.out.alloc _) _ _ 1 1 [.int .u8 3] rfl (reads_new w1 #[.int .u8 3] 5 1 1 rfl) (by simp; rfl) ?c1 ?c2 ?c3 ?_)
  case c1 => simp [maxLen]
  case c2 => omega
  case c3 => have := hb1.size; simp; omega
  intro v2 w2 hown2 hgrow2 _hat
  go_wp2
  go_ret
  exact ⟨v2, rfl, hown2, (hb1.alloc hb1.size _).grown hgrow2 (by have := hb1.size; simp; omega) (fun k hk => (hH.out.lt k hk).1)⟩
set_option maxRecDepth 100000 in
set_option maxHeartbeats 1000000 in
theorem number_290 (w : World) : Calls Tryz.prog 37 #[.int .i64 290] w (OwnB [162, 2] w) := by
  obtain ⟨i0, hi0, hz0, hz1, hz2⟩ := info_parts u8_info
  go_enter Tryz.func37, Tryz.ntmps37
  go_wp2_with fail
  refine wp_loop_rounds 2 ?_
  rw [rounds_succ]
  go_wp2_with (at_builtin; refine wpList_append_any _ rfl (.tmp 6) (.tmp 10) _ rfl w.heap.size 5 i0 _ 1 1 Tryz.underlying27 hi0 hz0 hz1 hz2 rfl (by decide) _ _ _ rfl (World.ownsRow_nil _ _ _ _) _ _ 1 1 [.int .u8 162] rfl (reads_new w #[.int .u8 162] 5 1 1 rfl) (by simp; rfl) ?c1 ?c2 ?c3 ?_)
  case c1 => simp [maxLen]
  case c2 => omega
  case c3 => simp
  intro v1 w1 hown1 hgrow1 _hat
  have hb1 : Below w.heap.size w w1 := ((Below.refl _ w).alloc (Nat.le_refl _) _).grown hgrow1 (by simp) (by intro k hk; simp [Value.ownBlock] at hk)
  have hH := Lib.hid hown1
  clear hown1 hgrow1 _hat
  go_wp2_with fail
  rw [rounds_succ]
  go_wp2_with (at_builtin; refine wpList_append_any _ rfl (.tmp 14) (.tmp 17) _ rfl w.heap.size 5 i0 _ 1 1 Tryz.underlying27 hi0 hz0 hz1 hz2 rfl (by decide) _ 1 [.int .u8 162] rfl (hH.out.alloc _) _ _ 1 1 [.int .u8 2] rfl (reads_new w1 #[.int .u8 2] 5 1 1 rfl) (by simp; rfl) ?c1 ?c2 ?c3 ?_)
  case c1 => simp [maxLen]
  case c2 => omega
  case c3 => have := hb1.size; simp; omega
  intro v2 w2 hown2 hgrow2 _hat
  go_wp2
  go_ret
  exact ⟨v2, rfl, hown2, (hb1.alloc hb1.size _).grown hgrow2 (by have := hb1.size; simp; omega) (fun k hk => (hH.out.lt k hk).1)⟩
end Go.Proofs.YtimakhadabenbaaGreatDoor
