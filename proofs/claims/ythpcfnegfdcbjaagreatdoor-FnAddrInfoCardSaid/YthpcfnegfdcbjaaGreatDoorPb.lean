/- Varints as the package writes them, at the codes of protocols. -/
import Derived.Test.YthpcfnegfdcbjaaGreatDoorPa
import Derived.Laws.Rows
namespace Go.Proofs.YthpcfnegfdcbjaaGreatDoor
open Go.RowKit
/-- A new block of bytes. -/
def OutV (l : List UInt8) (w : World) (e : Ending) (w' : World) : Prop :=
  ∃ g, e = .returned (.slice (some ⟨g, 0, none⟩) l.length l.length) ∧ w.heap.size ≤ g ∧ Blk w' g 5 (bv l).toArray ∧ Below w.heap.size w w'
/-- Zeros just laid. -/
theorem run_make_bytes (m : Nat) (hm : m ≤ 1000) : ∀ w : World, (Instr.makeSlice 26 (.int .i64 m) (.int .i64 m)).run Tryz.prog w = .ok (.slice (some ⟨w.heap.size, 0, none⟩) m m) (w.alloc (.cells (madeCells #[.int .u8 0] (m * 1)) 5)) := by
  intro w
  obtain ⟨i0, hi0, hz0, hz1, hz2⟩ := info_parts u8_info
  have h := run_make (P := Tryz.prog) w 26 5 i0 (.int .u8 0) Tryz.underlying26 hi0 hz0 .i64 .i64 m m (by omega) (by omega) (by rw [hz2]; omega) (by omega)
  simp only [Int.toNat_natCast, hz1] at h
  exact h

set_option maxRecDepth 100000 in
set_option maxHeartbeats 1000000 in
theorem len64_4 (w : World) : Calls Tryz.prog 71 #[.int .u64 4] w fun e w' => e = .returned (.int .i64 3) ∧ w = w' := by
  go_enter Tryz.func71, Tryz.ntmps71
  go_wp2_with fail
  go_ret
  exact ⟨by simp; try kernel_rfl, rfl⟩
set_option maxRecDepth 100000 in
set_option maxHeartbeats 1000000 in
theorem usize_4 (w : World) : Calls Tryz.prog 100 #[.int .u64 4] w fun e w' => e = .returned (.int .i64 1) ∧ w = w' := by
  go_enter Tryz.func100, Tryz.ntmps100
  go_wp2_with (go_at_call 71; refine (len64_4 _).mono ?_; rintro e w' ⟨rfl, rfl⟩)
  go_ret
  exact ⟨rfl, rfl⟩
set_option maxRecDepth 100000 in
set_option maxHeartbeats 1000000 in
theorem putu_4 (w : World) (g : Nat) (t : TypeId) (h : Blk w g t #[.int .u8 0]) : Calls Tryz.prog 101 #[.slice (some ⟨g, 0, none⟩) 1 1, .int .u64 4] w fun e w' => e = .returned (.int .i64 1) ∧ Blk w' g t #[.int .u8 4] ∧ ∀ B, B ≤ g → Below B w w' := by
  have c0 : w.cell? ⟨g, 0, none⟩ = some (.int .u8 0) := h.cell 0
  have f0 := h.frozen 0
  have f1 := h.frozen 1
  have H := Lib.hid h
  clear h
  go_enter Tryz.func101, Tryz.ntmps101
  go_wp2_with fail
  refine wp_loop_rounds 1 ?_
  rw [rounds_succ]
  go_wp2_with fail
  go_ret
  refine ⟨rfl, ?_, ?_⟩
  · exact (H.out.set_ 0 (.int .u8 4))
  · intro B hB; exact ((Below.refl _ _).setCell (by simpa using hB) _)
set_option maxRecDepth 100000 in
set_option maxHeartbeats 1000000 in
theorem touv_4 (w : World) : Calls Tryz.prog 80 #[.int .u64 4] w (OutV [4] w) := by
  have hmk := run_make_bytes 1 (by omega)
  have e1 : ((1 : Nat) : Int) = 1 := rfl
  have e2 : madeCells #[.int .u8 0] (1 * 1) = #[.int .u8 0] := by kernel_rfl
  rw [e1, e2] at hmk
  clear e1 e2
  go_enter Tryz.func80, Tryz.ntmps80
  go_wp2_with (first
    | (go_at_call 100; refine (usize_4 _).mono ?_; rintro e w' ⟨rfl, rfl⟩)
    | (go_at_call 101; refine (putu_4 _ _ 5 (Blk.new _ _ _)).mono ?_; rintro e w' ⟨rfl, hB, hb⟩))
  have H := Lib.hid hB
  have HB := Lib.hid (hb w.heap.size (Nat.le_refl _))
  clear hB hb hmk
  go_wp2_with fail
  go_ret
  exact ⟨w.heap.size, rfl, Nat.le_refl _, H.out, ((Below.refl _ w).alloc (Nat.le_refl _) _).trans HB.out⟩
set_option maxRecDepth 100000 in
set_option maxHeartbeats 1000000 in
theorem code_4 (w : World) : Calls Tryz.prog 148 #[.int .i64 4] w (OutV [4] w) := by
  go_enter Tryz.func148, Tryz.ntmps148
  go_wp2_with (go_at_call 80; refine (touv_4 _).mono ?_; rintro e w' ⟨g, rfl, hg, hr, hb⟩)
  go_ret
  exact ⟨g, rfl, hg, hr, hb⟩

set_option maxRecDepth 100000 in
set_option maxHeartbeats 1000000 in
theorem len64_6 (w : World) : Calls Tryz.prog 71 #[.int .u64 6] w fun e w' => e = .returned (.int .i64 3) ∧ w = w' := by
  go_enter Tryz.func71, Tryz.ntmps71
  go_wp2_with fail
  go_ret
  exact ⟨by simp; try kernel_rfl, rfl⟩
set_option maxRecDepth 100000 in
set_option maxHeartbeats 1000000 in
theorem usize_6 (w : World) : Calls Tryz.prog 100 #[.int .u64 6] w fun e w' => e = .returned (.int .i64 1) ∧ w = w' := by
  go_enter Tryz.func100, Tryz.ntmps100
  go_wp2_with (go_at_call 71; refine (len64_6 _).mono ?_; rintro e w' ⟨rfl, rfl⟩)
  go_ret
  exact ⟨rfl, rfl⟩
set_option maxRecDepth 100000 in
set_option maxHeartbeats 1000000 in
theorem putu_6 (w : World) (g : Nat) (t : TypeId) (h : Blk w g t #[.int .u8 0]) : Calls Tryz.prog 101 #[.slice (some ⟨g, 0, none⟩) 1 1, .int .u64 6] w fun e w' => e = .returned (.int .i64 1) ∧ Blk w' g t #[.int .u8 6] ∧ ∀ B, B ≤ g → Below B w w' := by
  have c0 : w.cell? ⟨g, 0, none⟩ = some (.int .u8 0) := h.cell 0
  have f0 := h.frozen 0
  have f1 := h.frozen 1
  have H := Lib.hid h
  clear h
  go_enter Tryz.func101, Tryz.ntmps101
  go_wp2_with fail
  refine wp_loop_rounds 1 ?_
  rw [rounds_succ]
  go_wp2_with fail
  go_ret
  refine ⟨rfl, ?_, ?_⟩
  · exact (H.out.set_ 0 (.int .u8 6))
  · intro B hB; exact ((Below.refl _ _).setCell (by simpa using hB) _)
set_option maxRecDepth 100000 in
set_option maxHeartbeats 1000000 in
theorem touv_6 (w : World) : Calls Tryz.prog 80 #[.int .u64 6] w (OutV [6] w) := by
  have hmk := run_make_bytes 1 (by omega)
  have e1 : ((1 : Nat) : Int) = 1 := rfl
  have e2 : madeCells #[.int .u8 0] (1 * 1) = #[.int .u8 0] := by kernel_rfl
  rw [e1, e2] at hmk
  clear e1 e2
  go_enter Tryz.func80, Tryz.ntmps80
  go_wp2_with (first
    | (go_at_call 100; refine (usize_6 _).mono ?_; rintro e w' ⟨rfl, rfl⟩)
    | (go_at_call 101; refine (putu_6 _ _ 5 (Blk.new _ _ _)).mono ?_; rintro e w' ⟨rfl, hB, hb⟩))
  have H := Lib.hid hB
  have HB := Lib.hid (hb w.heap.size (Nat.le_refl _))
  clear hB hb hmk
  go_wp2_with fail
  go_ret
  exact ⟨w.heap.size, rfl, Nat.le_refl _, H.out, ((Below.refl _ w).alloc (Nat.le_refl _) _).trans HB.out⟩
set_option maxRecDepth 100000 in
set_option maxHeartbeats 1000000 in
theorem code_6 (w : World) : Calls Tryz.prog 148 #[.int .i64 6] w (OutV [6] w) := by
  go_enter Tryz.func148, Tryz.ntmps148
  go_wp2_with (go_at_call 80; refine (touv_6 _).mono ?_; rintro e w' ⟨g, rfl, hg, hr, hb⟩)
  go_ret
  exact ⟨g, rfl, hg, hr, hb⟩

set_option maxRecDepth 100000 in
set_option maxHeartbeats 1000000 in
theorem len64_41 (w : World) : Calls Tryz.prog 71 #[.int .u64 41] w fun e w' => e = .returned (.int .i64 6) ∧ w = w' := by
  go_enter Tryz.func71, Tryz.ntmps71
  go_wp2_with fail
  go_ret
  exact ⟨by simp; try kernel_rfl, rfl⟩
set_option maxRecDepth 100000 in
set_option maxHeartbeats 1000000 in
theorem usize_41 (w : World) : Calls Tryz.prog 100 #[.int .u64 41] w fun e w' => e = .returned (.int .i64 1) ∧ w = w' := by
  go_enter Tryz.func100, Tryz.ntmps100
  go_wp2_with (go_at_call 71; refine (len64_41 _).mono ?_; rintro e w' ⟨rfl, rfl⟩)
  go_ret
  exact ⟨rfl, rfl⟩
set_option maxRecDepth 100000 in
set_option maxHeartbeats 1000000 in
theorem putu_41 (w : World) (g : Nat) (t : TypeId) (h : Blk w g t #[.int .u8 0]) : Calls Tryz.prog 101 #[.slice (some ⟨g, 0, none⟩) 1 1, .int .u64 41] w fun e w' => e = .returned (.int .i64 1) ∧ Blk w' g t #[.int .u8 41] ∧ ∀ B, B ≤ g → Below B w w' := by
  have c0 : w.cell? ⟨g, 0, none⟩ = some (.int .u8 0) := h.cell 0
  have f0 := h.frozen 0
  have f1 := h.frozen 1
  have H := Lib.hid h
  clear h
  go_enter Tryz.func101, Tryz.ntmps101
  go_wp2_with fail
  refine wp_loop_rounds 1 ?_
  rw [rounds_succ]
  go_wp2_with fail
  go_ret
  refine ⟨rfl, ?_, ?_⟩
  · exact (H.out.set_ 0 (.int .u8 41))
  · intro B hB; exact ((Below.refl _ _).setCell (by simpa using hB) _)
set_option maxRecDepth 100000 in
set_option maxHeartbeats 1000000 in
theorem touv_41 (w : World) : Calls Tryz.prog 80 #[.int .u64 41] w (OutV [41] w) := by
  have hmk := run_make_bytes 1 (by omega)
  have e1 : ((1 : Nat) : Int) = 1 := rfl
  have e2 : madeCells #[.int .u8 0] (1 * 1) = #[.int .u8 0] := by kernel_rfl
  rw [e1, e2] at hmk
  clear e1 e2
  go_enter Tryz.func80, Tryz.ntmps80
  go_wp2_with (first
    | (go_at_call 100; refine (usize_41 _).mono ?_; rintro e w' ⟨rfl, rfl⟩)
    | (go_at_call 101; refine (putu_41 _ _ 5 (Blk.new _ _ _)).mono ?_; rintro e w' ⟨rfl, hB, hb⟩))
  have H := Lib.hid hB
  have HB := Lib.hid (hb w.heap.size (Nat.le_refl _))
  clear hB hb hmk
  go_wp2_with fail
  go_ret
  exact ⟨w.heap.size, rfl, Nat.le_refl _, H.out, ((Below.refl _ w).alloc (Nat.le_refl _) _).trans HB.out⟩
set_option maxRecDepth 100000 in
set_option maxHeartbeats 1000000 in
theorem code_41 (w : World) : Calls Tryz.prog 148 #[.int .i64 41] w (OutV [41] w) := by
  go_enter Tryz.func148, Tryz.ntmps148
  go_wp2_with (go_at_call 80; refine (touv_41 _).mono ?_; rintro e w' ⟨g, rfl, hg, hr, hb⟩)
  go_ret
  exact ⟨g, rfl, hg, hr, hb⟩

set_option maxRecDepth 100000 in
set_option maxHeartbeats 1000000 in
theorem len64_273 (w : World) : Calls Tryz.prog 71 #[.int .u64 273] w fun e w' => e = .returned (.int .i64 9) ∧ w = w' := by
  go_enter Tryz.func71, Tryz.ntmps71
  go_wp2_with fail
  go_ret
  exact ⟨by simp; try kernel_rfl, rfl⟩
set_option maxRecDepth 100000 in
set_option maxHeartbeats 1000000 in
theorem usize_273 (w : World) : Calls Tryz.prog 100 #[.int .u64 273] w fun e w' => e = .returned (.int .i64 2) ∧ w = w' := by
  go_enter Tryz.func100, Tryz.ntmps100
  go_wp2_with (go_at_call 71; refine (len64_273 _).mono ?_; rintro e w' ⟨rfl, rfl⟩)
  go_ret
  exact ⟨rfl, rfl⟩
set_option maxRecDepth 100000 in
set_option maxHeartbeats 1000000 in
theorem putu_273 (w : World) (g : Nat) (t : TypeId) (h : Blk w g t #[.int .u8 0, .int .u8 0]) : Calls Tryz.prog 101 #[.slice (some ⟨g, 0, none⟩) 2 2, .int .u64 273] w fun e w' => e = .returned (.int .i64 2) ∧ Blk w' g t #[.int .u8 145, .int .u8 2] ∧ ∀ B, B ≤ g → Below B w w' := by
  have c0 : w.cell? ⟨g, 0, none⟩ = some (.int .u8 0) := h.cell 0
  have c1 : w.cell? ⟨g, 1, none⟩ = some (.int .u8 0) := h.cell 1
  have o0 : bits .or .u8 17 128 = 145 := by kernel_rfl
  have f0 := h.frozen 0
  have f1 := h.frozen 1
  have H := Lib.hid h
  clear h
  go_enter Tryz.func101, Tryz.ntmps101
  go_wp2_with fail
  refine wp_loop_rounds 2 ?_
  rw [rounds_succ]
  go_wp2_with fail
  rw [rounds_succ]
  go_wp2_with fail
  go_ret
  refine ⟨rfl, ?_, ?_⟩
  · exact ((H.out.set_ 0 (.int .u8 145)).set_ 1 (.int .u8 2))
  · intro B hB; exact (((Below.refl _ _).setCell (by simpa using hB) _).setCell (by simpa using hB) _)
set_option maxRecDepth 100000 in
set_option maxHeartbeats 1000000 in
theorem touv_273 (w : World) : Calls Tryz.prog 80 #[.int .u64 273] w (OutV [145, 2] w) := by
  have hmk := run_make_bytes 2 (by omega)
  have e1 : ((2 : Nat) : Int) = 2 := rfl
  have e2 : madeCells #[.int .u8 0] (2 * 1) = #[.int .u8 0, .int .u8 0] := by kernel_rfl
  rw [e1, e2] at hmk
  clear e1 e2
  go_enter Tryz.func80, Tryz.ntmps80
  go_wp2_with (first
    | (go_at_call 100; refine (usize_273 _).mono ?_; rintro e w' ⟨rfl, rfl⟩)
    | (go_at_call 101; refine (putu_273 _ _ 5 (Blk.new _ _ _)).mono ?_; rintro e w' ⟨rfl, hB, hb⟩))
  have H := Lib.hid hB
  have HB := Lib.hid (hb w.heap.size (Nat.le_refl _))
  clear hB hb hmk
  go_wp2_with fail
  go_ret
  exact ⟨w.heap.size, rfl, Nat.le_refl _, H.out, ((Below.refl _ w).alloc (Nat.le_refl _) _).trans HB.out⟩
set_option maxRecDepth 100000 in
set_option maxHeartbeats 1000000 in
theorem code_273 (w : World) : Calls Tryz.prog 148 #[.int .i64 273] w (OutV [145, 2] w) := by
  go_enter Tryz.func148, Tryz.ntmps148
  go_wp2_with (go_at_call 80; refine (touv_273 _).mono ?_; rintro e w' ⟨g, rfl, hg, hr, hb⟩)
  go_ret
  exact ⟨g, rfl, hg, hr, hb⟩

set_option maxRecDepth 100000 in
set_option maxHeartbeats 1000000 in
theorem len64_290 (w : World) : Calls Tryz.prog 71 #[.int .u64 290] w fun e w' => e = .returned (.int .i64 9) ∧ w = w' := by
  go_enter Tryz.func71, Tryz.ntmps71
  go_wp2_with fail
  go_ret
  exact ⟨by simp; try kernel_rfl, rfl⟩
set_option maxRecDepth 100000 in
set_option maxHeartbeats 1000000 in
theorem usize_290 (w : World) : Calls Tryz.prog 100 #[.int .u64 290] w fun e w' => e = .returned (.int .i64 2) ∧ w = w' := by
  go_enter Tryz.func100, Tryz.ntmps100
  go_wp2_with (go_at_call 71; refine (len64_290 _).mono ?_; rintro e w' ⟨rfl, rfl⟩)
  go_ret
  exact ⟨rfl, rfl⟩
set_option maxRecDepth 100000 in
set_option maxHeartbeats 1000000 in
theorem putu_290 (w : World) (g : Nat) (t : TypeId) (h : Blk w g t #[.int .u8 0, .int .u8 0]) : Calls Tryz.prog 101 #[.slice (some ⟨g, 0, none⟩) 2 2, .int .u64 290] w fun e w' => e = .returned (.int .i64 2) ∧ Blk w' g t #[.int .u8 162, .int .u8 2] ∧ ∀ B, B ≤ g → Below B w w' := by
  have c0 : w.cell? ⟨g, 0, none⟩ = some (.int .u8 0) := h.cell 0
  have c1 : w.cell? ⟨g, 1, none⟩ = some (.int .u8 0) := h.cell 1
  have o0 : bits .or .u8 34 128 = 162 := by kernel_rfl
  have f0 := h.frozen 0
  have f1 := h.frozen 1
  have H := Lib.hid h
  clear h
  go_enter Tryz.func101, Tryz.ntmps101
  go_wp2_with fail
  refine wp_loop_rounds 2 ?_
  rw [rounds_succ]
  go_wp2_with fail
  rw [rounds_succ]
  go_wp2_with fail
  go_ret
  refine ⟨rfl, ?_, ?_⟩
  · exact ((H.out.set_ 0 (.int .u8 162)).set_ 1 (.int .u8 2))
  · intro B hB; exact (((Below.refl _ _).setCell (by simpa using hB) _).setCell (by simpa using hB) _)
set_option maxRecDepth 100000 in
set_option maxHeartbeats 1000000 in
theorem touv_290 (w : World) : Calls Tryz.prog 80 #[.int .u64 290] w (OutV [162, 2] w) := by
  have hmk := run_make_bytes 2 (by omega)
  have e1 : ((2 : Nat) : Int) = 2 := rfl
  have e2 : madeCells #[.int .u8 0] (2 * 1) = #[.int .u8 0, .int .u8 0] := by kernel_rfl
  rw [e1, e2] at hmk
  clear e1 e2
  go_enter Tryz.func80, Tryz.ntmps80
  go_wp2_with (first
    | (go_at_call 100; refine (usize_290 _).mono ?_; rintro e w' ⟨rfl, rfl⟩)
    | (go_at_call 101; refine (putu_290 _ _ 5 (Blk.new _ _ _)).mono ?_; rintro e w' ⟨rfl, hB, hb⟩))
  have H := Lib.hid hB
  have HB := Lib.hid (hb w.heap.size (Nat.le_refl _))
  clear hB hb hmk
  go_wp2_with fail
  go_ret
  exact ⟨w.heap.size, rfl, Nat.le_refl _, H.out, ((Below.refl _ w).alloc (Nat.le_refl _) _).trans HB.out⟩
set_option maxRecDepth 100000 in
set_option maxHeartbeats 1000000 in
theorem code_290 (w : World) : Calls Tryz.prog 148 #[.int .i64 290] w (OutV [162, 2] w) := by
  go_enter Tryz.func148, Tryz.ntmps148
  go_wp2_with (go_at_call 80; refine (touv_290 _).mono ?_; rintro e w' ⟨g, rfl, hg, hr, hb⟩)
  go_ret
  exact ⟨g, rfl, hg, hr, hb⟩

set_option maxRecDepth 100000 in
set_option maxHeartbeats 1000000 in
theorem len64_421 (w : World) : Calls Tryz.prog 71 #[.int .u64 421] w fun e w' => e = .returned (.int .i64 9) ∧ w = w' := by
  go_enter Tryz.func71, Tryz.ntmps71
  go_wp2_with fail
  go_ret
  exact ⟨by simp; try kernel_rfl, rfl⟩
set_option maxRecDepth 100000 in
set_option maxHeartbeats 1000000 in
theorem usize_421 (w : World) : Calls Tryz.prog 100 #[.int .u64 421] w fun e w' => e = .returned (.int .i64 2) ∧ w = w' := by
  go_enter Tryz.func100, Tryz.ntmps100
  go_wp2_with (go_at_call 71; refine (len64_421 _).mono ?_; rintro e w' ⟨rfl, rfl⟩)
  go_ret
  exact ⟨rfl, rfl⟩
set_option maxRecDepth 100000 in
set_option maxHeartbeats 1000000 in
theorem putu_421 (w : World) (g : Nat) (t : TypeId) (h : Blk w g t #[.int .u8 0, .int .u8 0]) : Calls Tryz.prog 101 #[.slice (some ⟨g, 0, none⟩) 2 2, .int .u64 421] w fun e w' => e = .returned (.int .i64 2) ∧ Blk w' g t #[.int .u8 165, .int .u8 3] ∧ ∀ B, B ≤ g → Below B w w' := by
  have c0 : w.cell? ⟨g, 0, none⟩ = some (.int .u8 0) := h.cell 0
  have c1 : w.cell? ⟨g, 1, none⟩ = some (.int .u8 0) := h.cell 1
  have o0 : bits .or .u8 165 128 = 165 := by kernel_rfl
  have f0 := h.frozen 0
  have f1 := h.frozen 1
  have H := Lib.hid h
  clear h
  go_enter Tryz.func101, Tryz.ntmps101
  go_wp2_with fail
  refine wp_loop_rounds 2 ?_
  rw [rounds_succ]
  go_wp2_with fail
  rw [rounds_succ]
  go_wp2_with fail
  go_ret
  refine ⟨rfl, ?_, ?_⟩
  · exact ((H.out.set_ 0 (.int .u8 165)).set_ 1 (.int .u8 3))
  · intro B hB; exact (((Below.refl _ _).setCell (by simpa using hB) _).setCell (by simpa using hB) _)
set_option maxRecDepth 100000 in
set_option maxHeartbeats 1000000 in
theorem touv_421 (w : World) : Calls Tryz.prog 80 #[.int .u64 421] w (OutV [165, 3] w) := by
  have hmk := run_make_bytes 2 (by omega)
  have e1 : ((2 : Nat) : Int) = 2 := rfl
  have e2 : madeCells #[.int .u8 0] (2 * 1) = #[.int .u8 0, .int .u8 0] := by kernel_rfl
  rw [e1, e2] at hmk
  clear e1 e2
  go_enter Tryz.func80, Tryz.ntmps80
  go_wp2_with (first
    | (go_at_call 100; refine (usize_421 _).mono ?_; rintro e w' ⟨rfl, rfl⟩)
    | (go_at_call 101; refine (putu_421 _ _ 5 (Blk.new _ _ _)).mono ?_; rintro e w' ⟨rfl, hB, hb⟩))
  have H := Lib.hid hB
  have HB := Lib.hid (hb w.heap.size (Nat.le_refl _))
  clear hB hb hmk
  go_wp2_with fail
  go_ret
  exact ⟨w.heap.size, rfl, Nat.le_refl _, H.out, ((Below.refl _ w).alloc (Nat.le_refl _) _).trans HB.out⟩
set_option maxRecDepth 100000 in
set_option maxHeartbeats 1000000 in
theorem code_421 (w : World) : Calls Tryz.prog 148 #[.int .i64 421] w (OutV [165, 3] w) := by
  go_enter Tryz.func148, Tryz.ntmps148
  go_wp2_with (go_at_call 80; refine (touv_421 _).mono ?_; rintro e w' ⟨g, rfl, hg, hr, hb⟩)
  go_ret
  exact ⟨g, rfl, hg, hr, hb⟩

set_option maxRecDepth 100000 in
set_option maxHeartbeats 1000000 in
theorem len64_461 (w : World) : Calls Tryz.prog 71 #[.int .u64 461] w fun e w' => e = .returned (.int .i64 9) ∧ w = w' := by
  go_enter Tryz.func71, Tryz.ntmps71
  go_wp2_with fail
  go_ret
  exact ⟨by simp; try kernel_rfl, rfl⟩
set_option maxRecDepth 100000 in
set_option maxHeartbeats 1000000 in
theorem usize_461 (w : World) : Calls Tryz.prog 100 #[.int .u64 461] w fun e w' => e = .returned (.int .i64 2) ∧ w = w' := by
  go_enter Tryz.func100, Tryz.ntmps100
  go_wp2_with (go_at_call 71; refine (len64_461 _).mono ?_; rintro e w' ⟨rfl, rfl⟩)
  go_ret
  exact ⟨rfl, rfl⟩
set_option maxRecDepth 100000 in
set_option maxHeartbeats 1000000 in
theorem putu_461 (w : World) (g : Nat) (t : TypeId) (h : Blk w g t #[.int .u8 0, .int .u8 0]) : Calls Tryz.prog 101 #[.slice (some ⟨g, 0, none⟩) 2 2, .int .u64 461] w fun e w' => e = .returned (.int .i64 2) ∧ Blk w' g t #[.int .u8 205, .int .u8 3] ∧ ∀ B, B ≤ g → Below B w w' := by
  have c0 : w.cell? ⟨g, 0, none⟩ = some (.int .u8 0) := h.cell 0
  have c1 : w.cell? ⟨g, 1, none⟩ = some (.int .u8 0) := h.cell 1
  have o0 : bits .or .u8 205 128 = 205 := by kernel_rfl
  have f0 := h.frozen 0
  have f1 := h.frozen 1
  have H := Lib.hid h
  clear h
  go_enter Tryz.func101, Tryz.ntmps101
  go_wp2_with fail
  refine wp_loop_rounds 2 ?_
  rw [rounds_succ]
  go_wp2_with fail
  rw [rounds_succ]
  go_wp2_with fail
  go_ret
  refine ⟨rfl, ?_, ?_⟩
  · exact ((H.out.set_ 0 (.int .u8 205)).set_ 1 (.int .u8 3))
  · intro B hB; exact (((Below.refl _ _).setCell (by simpa using hB) _).setCell (by simpa using hB) _)
set_option maxRecDepth 100000 in
set_option maxHeartbeats 1000000 in
theorem touv_461 (w : World) : Calls Tryz.prog 80 #[.int .u64 461] w (OutV [205, 3] w) := by
  have hmk := run_make_bytes 2 (by omega)
  have e1 : ((2 : Nat) : Int) = 2 := rfl
  have e2 : madeCells #[.int .u8 0] (2 * 1) = #[.int .u8 0, .int .u8 0] := by kernel_rfl
  rw [e1, e2] at hmk
  clear e1 e2
  go_enter Tryz.func80, Tryz.ntmps80
  go_wp2_with (first
    | (go_at_call 100; refine (usize_461 _).mono ?_; rintro e w' ⟨rfl, rfl⟩)
    | (go_at_call 101; refine (putu_461 _ _ 5 (Blk.new _ _ _)).mono ?_; rintro e w' ⟨rfl, hB, hb⟩))
  have H := Lib.hid hB
  have HB := Lib.hid (hb w.heap.size (Nat.le_refl _))
  clear hB hb hmk
  go_wp2_with fail
  go_ret
  exact ⟨w.heap.size, rfl, Nat.le_refl _, H.out, ((Below.refl _ w).alloc (Nat.le_refl _) _).trans HB.out⟩
set_option maxRecDepth 100000 in
set_option maxHeartbeats 1000000 in
theorem code_461 (w : World) : Calls Tryz.prog 148 #[.int .i64 461] w (OutV [205, 3] w) := by
  go_enter Tryz.func148, Tryz.ntmps148
  go_wp2_with (go_at_call 80; refine (touv_461 _).mono ?_; rintro e w' ⟨g, rfl, hg, hr, hb⟩)
  go_ret
  exact ⟨g, rfl, hg, hr, hb⟩

set_option maxRecDepth 100000 in
set_option maxHeartbeats 1000000 in
theorem len64_477 (w : World) : Calls Tryz.prog 71 #[.int .u64 477] w fun e w' => e = .returned (.int .i64 9) ∧ w = w' := by
  go_enter Tryz.func71, Tryz.ntmps71
  go_wp2_with fail
  go_ret
  exact ⟨by simp; try kernel_rfl, rfl⟩
set_option maxRecDepth 100000 in
set_option maxHeartbeats 1000000 in
theorem usize_477 (w : World) : Calls Tryz.prog 100 #[.int .u64 477] w fun e w' => e = .returned (.int .i64 2) ∧ w = w' := by
  go_enter Tryz.func100, Tryz.ntmps100
  go_wp2_with (go_at_call 71; refine (len64_477 _).mono ?_; rintro e w' ⟨rfl, rfl⟩)
  go_ret
  exact ⟨rfl, rfl⟩
set_option maxRecDepth 100000 in
set_option maxHeartbeats 1000000 in
theorem putu_477 (w : World) (g : Nat) (t : TypeId) (h : Blk w g t #[.int .u8 0, .int .u8 0]) : Calls Tryz.prog 101 #[.slice (some ⟨g, 0, none⟩) 2 2, .int .u64 477] w fun e w' => e = .returned (.int .i64 2) ∧ Blk w' g t #[.int .u8 221, .int .u8 3] ∧ ∀ B, B ≤ g → Below B w w' := by
  have c0 : w.cell? ⟨g, 0, none⟩ = some (.int .u8 0) := h.cell 0
  have c1 : w.cell? ⟨g, 1, none⟩ = some (.int .u8 0) := h.cell 1
  have o0 : bits .or .u8 221 128 = 221 := by kernel_rfl
  have f0 := h.frozen 0
  have f1 := h.frozen 1
  have H := Lib.hid h
  clear h
  go_enter Tryz.func101, Tryz.ntmps101
  go_wp2_with fail
  refine wp_loop_rounds 2 ?_
  rw [rounds_succ]
  go_wp2_with fail
  rw [rounds_succ]
  go_wp2_with fail
  go_ret
  refine ⟨rfl, ?_, ?_⟩
  · exact ((H.out.set_ 0 (.int .u8 221)).set_ 1 (.int .u8 3))
  · intro B hB; exact (((Below.refl _ _).setCell (by simpa using hB) _).setCell (by simpa using hB) _)
set_option maxRecDepth 100000 in
set_option maxHeartbeats 1000000 in
theorem touv_477 (w : World) : Calls Tryz.prog 80 #[.int .u64 477] w (OutV [221, 3] w) := by
  have hmk := run_make_bytes 2 (by omega)
  have e1 : ((2 : Nat) : Int) = 2 := rfl
  have e2 : madeCells #[.int .u8 0] (2 * 1) = #[.int .u8 0, .int .u8 0] := by kernel_rfl
  rw [e1, e2] at hmk
  clear e1 e2
  go_enter Tryz.func80, Tryz.ntmps80
  go_wp2_with (first
    | (go_at_call 100; refine (usize_477 _).mono ?_; rintro e w' ⟨rfl, rfl⟩)
    | (go_at_call 101; refine (putu_477 _ _ 5 (Blk.new _ _ _)).mono ?_; rintro e w' ⟨rfl, hB, hb⟩))
  have H := Lib.hid hB
  have HB := Lib.hid (hb w.heap.size (Nat.le_refl _))
  clear hB hb hmk
  go_wp2_with fail
  go_ret
  exact ⟨w.heap.size, rfl, Nat.le_refl _, H.out, ((Below.refl _ w).alloc (Nat.le_refl _) _).trans HB.out⟩
set_option maxRecDepth 100000 in
set_option maxHeartbeats 1000000 in
theorem code_477 (w : World) : Calls Tryz.prog 148 #[.int .i64 477] w (OutV [221, 3] w) := by
  go_enter Tryz.func148, Tryz.ntmps148
  go_wp2_with (go_at_call 80; refine (touv_477 _).mono ?_; rintro e w' ⟨g, rfl, hg, hr, hb⟩)
  go_ret
  exact ⟨g, rfl, hg, hr, hb⟩
end Go.Proofs.YthpcfnegfdcbjaaGreatDoor
