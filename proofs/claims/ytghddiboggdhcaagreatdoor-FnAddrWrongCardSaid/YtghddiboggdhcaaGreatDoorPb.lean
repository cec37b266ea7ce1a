/- Varints as the package writes them, at the codes of protocols. -/
import Derived.Test.YtghddiboggdhcaaGreatDoorPa
import Derived.Laws.Rows
set_option maxRecDepth 100000
set_option maxHeartbeats 1000000
namespace Go.Proofs.YtghddiboggdhcaaGreatDoor
open Go.RowKit
def OutV (l : List UInt8) (w : World) (e : Ending) (w' : World) : Prop :=
  ∃ g, e = .returned (.slice (some ⟨g, 0, none⟩) l.length l.length) ∧ w.heap.size ≤ g ∧ Blk w' g 5 (bv l).toArray ∧ Below w.heap.size w w'
theorem run_make_bytes (m : Nat) (hm : m ≤ 1000) : ∀ w : World, (Instr.makeSlice 22 (.int .i64 m) (.int .i64 m)).run Tryz.prog w = .ok (.slice (some ⟨w.heap.size, 0, none⟩) m m) (w.alloc (.cells (madeCells #[.int .u8 0] (m * 1)) 5)) := by
  intro w
  obtain ⟨i0, hi0, hz0, hz1, hz2⟩ := info_parts u8_info
  have h := run_make (P := Tryz.prog) w 22 5 i0 (.int .u8 0) Tryz.underlying22 hi0 hz0 .i64 .i64 m m (by omega) (by omega) (by rw [hz2]; omega) (by omega)
  simp only [Int.toNat_natCast, hz1] at h
  exact h
theorem len64_4 (w : World) : Calls Tryz.prog 50 #[.int .u64 4] w fun e w' => e = .returned (.int .i64 3) ∧ w = w' := by
  go_enter Tryz.func50, Tryz.ntmps50
  go_wp2_with fail
  go_ret
  exact ⟨by simp; try kernel_rfl, rfl⟩
theorem usize_4 (w : World) : Calls Tryz.prog 169 #[.int .u64 4] w fun e w' => e = .returned (.int .i64 1) ∧ w = w' := by
  go_enter Tryz.func169, Tryz.ntmps169
  go_wp2_with (go_at_call 50; refine (len64_4 _).mono ?_; rintro e w' ⟨rfl, rfl⟩)
  go_ret
  exact ⟨rfl, rfl⟩
theorem putu_4 (w : World) (g : Nat) (t : TypeId) (h : Blk w g t #[.int .u8 0]) : Calls Tryz.prog 170 #[.slice (some ⟨g, 0, none⟩) 1 1, .int .u64 4] w fun e w' => e = .returned (.int .i64 1) ∧ Blk w' g t #[.int .u8 4] ∧ ∀ B, B ≤ g → Below B w w' := by
  have c0 : w.cell? ⟨g, 0, none⟩ = some (.int .u8 0) := h.cell 0
  have f0 := h.frozen 0
  have f1 := h.frozen 1
  have H := Lib.hid h
  clear h
  go_enter Tryz.func170, Tryz.ntmps170
  go_wp2_with fail
  refine wp_loop_rounds 1 ?_
  rw [rounds_succ]
  go_wp2_with fail
  go_ret
  refine ⟨rfl, ?_, ?_⟩
  · exact (H.out.set_ 0 (.int .u8 4))
  · intro B hB; exact ((Below.refl _ _).setCell (by simpa using hB) _)
theorem touv_4 (w : World) : Calls Tryz.prog 125 #[.int .u64 4] w (OutV [4] w) := by
  have hmk := run_make_bytes 1 (by omega)
  have e1 : ((1 : Nat) : Int) = 1 := rfl
  have e2 : madeCells #[.int .u8 0] (1 * 1) = #[.int .u8 0] := by kernel_rfl
  rw [e1, e2] at hmk
  clear e1 e2
  go_enter Tryz.func125, Tryz.ntmps125
  go_wp2_with (first
    | (go_at_call 169; refine (usize_4 _).mono ?_; rintro e w' ⟨rfl, rfl⟩)
    | (go_at_call 170; refine (putu_4 _ _ 5 (Blk.new _ _ _)).mono ?_; rintro e w' ⟨rfl, hB, hb⟩))
  have H := Lib.hid hB
  have HB := Lib.hid (hb w.heap.size (Nat.le_refl _))
  clear hB hb hmk
  go_wp2_with fail
  go_ret
  exact ⟨w.heap.size, rfl, Nat.le_refl _, H.out, ((Below.refl _ w).alloc (Nat.le_refl _) _).trans HB.out⟩
theorem code_4 (w : World) : Calls Tryz.prog 109 #[.int .i64 4] w (OutV [4] w) := by
  go_enter Tryz.func109, Tryz.ntmps109
  go_wp2_with (go_at_call 125; refine (touv_4 _).mono ?_; rintro e w' ⟨g, rfl, hg, hr, hb⟩)
  go_ret
  exact ⟨g, rfl, hg, hr, hb⟩
theorem len64_6 (w : World) : Calls Tryz.prog 50 #[.int .u64 6] w fun e w' => e = .returned (.int .i64 3) ∧ w = w' := by
  go_enter Tryz.func50, Tryz.ntmps50
  go_wp2_with fail
  go_ret
  exact ⟨by simp; try kernel_rfl, rfl⟩
theorem usize_6 (w : World) : Calls Tryz.prog 169 #[.int .u64 6] w fun e w' => e = .returned (.int .i64 1) ∧ w = w' := by
  go_enter Tryz.func169, Tryz.ntmps169
  go_wp2_with (go_at_call 50; refine (len64_6 _).mono ?_; rintro e w' ⟨rfl, rfl⟩)
  go_ret
  exact ⟨rfl, rfl⟩
theorem putu_6 (w : World) (g : Nat) (t : TypeId) (h : Blk w g t #[.int .u8 0]) : Calls Tryz.prog 170 #[.slice (some ⟨g, 0, none⟩) 1 1, .int .u64 6] w fun e w' => e = .returned (.int .i64 1) ∧ Blk w' g t #[.int .u8 6] ∧ ∀ B, B ≤ g → Below B w w' := by
  have c0 : w.cell? ⟨g, 0, none⟩ = some (.int .u8 0) := h.cell 0
  have f0 := h.frozen 0
  have f1 := h.frozen 1
  have H := Lib.hid h
  clear h
  go_enter Tryz.func170, Tryz.ntmps170
  go_wp2_with fail
  refine wp_loop_rounds 1 ?_
  rw [rounds_succ]
  go_wp2_with fail
  go_ret
  refine ⟨rfl, ?_, ?_⟩
  · exact (H.out.set_ 0 (.int .u8 6))
  · intro B hB; exact ((Below.refl _ _).setCell (by simpa using hB) _)
theorem touv_6 (w : World) : Calls Tryz.prog 125 #[.int .u64 6] w (OutV [6] w) := by
  have hmk := run_make_bytes 1 (by omega)
  have e1 : ((1 : Nat) : Int) = 1 := rfl
  have e2 : madeCells #[.int .u8 0] (1 * 1) = #[.int .u8 0] := by kernel_rfl
  rw [e1, e2] at hmk
  clear e1 e2
  go_enter Tryz.func125, Tryz.ntmps125
  go_wp2_with (first
    | (go_at_call 169; refine (usize_6 _).mono ?_; rintro e w' ⟨rfl, rfl⟩)
    | (go_at_call 170; refine (putu_6 _ _ 5 (Blk.new _ _ _)).mono ?_; rintro e w' ⟨rfl, hB, hb⟩))
  have H := Lib.hid hB
  have HB := Lib.hid (hb w.heap.size (Nat.le_refl _))
  clear hB hb hmk
  go_wp2_with fail
  go_ret
  exact ⟨w.heap.size, rfl, Nat.le_refl _, H.out, ((Below.refl _ w).alloc (Nat.le_refl _) _).trans HB.out⟩
theorem code_6 (w : World) : Calls Tryz.prog 109 #[.int .i64 6] w (OutV [6] w) := by
  go_enter Tryz.func109, Tryz.ntmps109
  go_wp2_with (go_at_call 125; refine (touv_6 _).mono ?_; rintro e w' ⟨g, rfl, hg, hr, hb⟩)
  go_ret
  exact ⟨g, rfl, hg, hr, hb⟩
theorem len64_41 (w : World) : Calls Tryz.prog 50 #[.int .u64 41] w fun e w' => e = .returned (.int .i64 6) ∧ w = w' := by
  go_enter Tryz.func50, Tryz.ntmps50
  go_wp2_with fail
  go_ret
  exact ⟨by simp; try kernel_rfl, rfl⟩
theorem usize_41 (w : World) : Calls Tryz.prog 169 #[.int .u64 41] w fun e w' => e = .returned (.int .i64 1) ∧ w = w' := by
  go_enter Tryz.func169, Tryz.ntmps169
  go_wp2_with (go_at_call 50; refine (len64_41 _).mono ?_; rintro e w' ⟨rfl, rfl⟩)
  go_ret
  exact ⟨rfl, rfl⟩
theorem putu_41 (w : World) (g : Nat) (t : TypeId) (h : Blk w g t #[.int .u8 0]) : Calls Tryz.prog 170 #[.slice (some ⟨g, 0, none⟩) 1 1, .int .u64 41] w fun e w' => e = .returned (.int .i64 1) ∧ Blk w' g t #[.int .u8 41] ∧ ∀ B, B ≤ g → Below B w w' := by
  have c0 : w.cell? ⟨g, 0, none⟩ = some (.int .u8 0) := h.cell 0
  have f0 := h.frozen 0
  have f1 := h.frozen 1
  have H := Lib.hid h
  clear h
  go_enter Tryz.func170, Tryz.ntmps170
  go_wp2_with fail
  refine wp_loop_rounds 1 ?_
  rw [rounds_succ]
  go_wp2_with fail
  go_ret
  refine ⟨rfl, ?_, ?_⟩
  · exact (H.out.set_ 0 (.int .u8 41))
  · intro B hB; exact ((Below.refl _ _).setCell (by simpa using hB) _)
theorem touv_41 (w : World) : Calls Tryz.prog 125 #[.int .u64 41] w (OutV [41] w) := by
  have hmk := run_make_bytes 1 (by omega)
  have e1 : ((1 : Nat) : Int) = 1 := rfl
  have e2 : madeCells #[.int .u8 0] (1 * 1) = #[.int .u8 0] := by kernel_rfl
  rw [e1, e2] at hmk
  clear e1 e2
  go_enter Tryz.func125, Tryz.ntmps125
  go_wp2_with (first
    | (go_at_call 169; refine (usize_41 _).mono ?_; rintro e w' ⟨rfl, rfl⟩)
    | (go_at_call 170; refine (putu_41 _ _ 5 (Blk.new _ _ _)).mono ?_; rintro e w' ⟨rfl, hB, hb⟩))
  have H := Lib.hid hB
  have HB := Lib.hid (hb w.heap.size (Nat.le_refl _))
  clear hB hb hmk
  go_wp2_with fail
  go_ret
  exact ⟨w.heap.size, rfl, Nat.le_refl _, H.out, ((Below.refl _ w).alloc (Nat.le_refl _) _).trans HB.out⟩
theorem code_41 (w : World) : Calls Tryz.prog 109 #[.int .i64 41] w (OutV [41] w) := by
  go_enter Tryz.func109, Tryz.ntmps109
  go_wp2_with (go_at_call 125; refine (touv_41 _).mono ?_; rintro e w' ⟨g, rfl, hg, hr, hb⟩)
  go_ret
  exact ⟨g, rfl, hg, hr, hb⟩
theorem len64_273 (w : World) : Calls Tryz.prog 50 #[.int .u64 273] w fun e w' => e = .returned (.int .i64 9) ∧ w = w' := by
  go_enter Tryz.func50, Tryz.ntmps50
  go_wp2_with fail
  go_ret
  exact ⟨by simp; try kernel_rfl, rfl⟩
theorem usize_273 (w : World) : Calls Tryz.prog 169 #[.int .u64 273] w fun e w' => e = .returned (.int .i64 2) ∧ w = w' := by
  go_enter Tryz.func169, Tryz.ntmps169
  go_wp2_with (go_at_call 50; refine (len64_273 _).mono ?_; rintro e w' ⟨rfl, rfl⟩)
  go_ret
  exact ⟨rfl, rfl⟩
theorem putu_273 (w : World) (g : Nat) (t : TypeId) (h : Blk w g t #[.int .u8 0, .int .u8 0]) : Calls Tryz.prog 170 #[.slice (some ⟨g, 0, none⟩) 2 2, .int .u64 273] w fun e w' => e = .returned (.int .i64 2) ∧ Blk w' g t #[.int .u8 145, .int .u8 2] ∧ ∀ B, B ≤ g → Below B w w' := by
  have c0 : w.cell? ⟨g, 0, none⟩ = some (.int .u8 0) := h.cell 0
  have c1 : w.cell? ⟨g, 1, none⟩ = some (.int .u8 0) := h.cell 1
  have o0 : bits .or .u8 17 128 = 145 := by kernel_rfl
  have f0 := h.frozen 0
  have f1 := h.frozen 1
  have H := Lib.hid h
  clear h
  go_enter Tryz.func170, Tryz.ntmps170
  go_wp2_with fail
  refine wp_loop_rounds 2 ?_
  rw [rounds_succ]
  go_wp2_with fail
  rw [rounds_succ]
  go_wp2_with fail
  go_ret
  refine ⟨rfl, ?_, ?_⟩
  · exact ((H.out.set_ 0 (.int .u8 145)).set_ 1 (.int .u8 2))
  · intro B hB; exact (((Below.refl _ _).setCell (by simpa using hB) _).setCell (by simpa using hB) _)
theorem touv_273 (w : World) : Calls Tryz.prog 125 #[.int .u64 273] w (OutV [145, 2] w) := by
  have hmk := run_make_bytes 2 (by omega)
  have e1 : ((2 : Nat) : Int) = 2 := rfl
  have e2 : madeCells #[.int .u8 0] (2 * 1) = #[.int .u8 0, .int .u8 0] := by kernel_rfl
  rw [e1, e2] at hmk
  clear e1 e2
  go_enter Tryz.func125, Tryz.ntmps125
  go_wp2_with (first
    | (go_at_call 169; refine (usize_273 _).mono ?_; rintro e w' ⟨rfl, rfl⟩)
    | (go_at_call 170; refine (putu_273 _ _ 5 (Blk.new _ _ _)).mono ?_; rintro e w' ⟨rfl, hB, hb⟩))
  have H := Lib.hid hB
  have HB := Lib.hid (hb w.heap.size (Nat.le_refl _))
  clear hB hb hmk
  go_wp2_with fail
  go_ret
  exact ⟨w.heap.size, rfl, Nat.le_refl _, H.out, ((Below.refl _ w).alloc (Nat.le_refl _) _).trans HB.out⟩
theorem code_273 (w : World) : Calls Tryz.prog 109 #[.int .i64 273] w (OutV [145, 2] w) := by
  go_enter Tryz.func109, Tryz.ntmps109
  go_wp2_with (go_at_call 125; refine (touv_273 _).mono ?_; rintro e w' ⟨g, rfl, hg, hr, hb⟩)
  go_ret
  exact ⟨g, rfl, hg, hr, hb⟩
theorem len64_290 (w : World) : Calls Tryz.prog 50 #[.int .u64 290] w fun e w' => e = .returned (.int .i64 9) ∧ w = w' := by
  go_enter Tryz.func50, Tryz.ntmps50
  go_wp2_with fail
  go_ret
  exact ⟨by simp; try kernel_rfl, rfl⟩
theorem usize_290 (w : World) : Calls Tryz.prog 169 #[.int .u64 290] w fun e w' => e = .returned (.int .i64 2) ∧ w = w' := by
  go_enter Tryz.func169, Tryz.ntmps169
  go_wp2_with (go_at_call 50; refine (len64_290 _).mono ?_; rintro e w' ⟨rfl, rfl⟩)
  go_ret
  exact ⟨rfl, rfl⟩
theorem putu_290 (w : World) (g : Nat) (t : TypeId) (h : Blk w g t #[.int .u8 0, .int .u8 0]) : Calls Tryz.prog 170 #[.slice (some ⟨g, 0, none⟩) 2 2, .int .u64 290] w fun e w' => e = .returned (.int .i64 2) ∧ Blk w' g t #[.int .u8 162, .int .u8 2] ∧ ∀ B, B ≤ g → Below B w w' := by
  have c0 : w.cell? ⟨g, 0, none⟩ = some (.int .u8 0) := h.cell 0
  have c1 : w.cell? ⟨g, 1, none⟩ = some (.int .u8 0) := h.cell 1
  have o0 : bits .or .u8 34 128 = 162 := by kernel_rfl
  have f0 := h.frozen 0
  have f1 := h.frozen 1
  have H := Lib.hid h
  clear h
  go_enter Tryz.func170, Tryz.ntmps170
  go_wp2_with fail
  refine wp_loop_rounds 2 ?_
  rw [rounds_succ]
  go_wp2_with fail
  rw [rounds_succ]
  go_wp2_with fail
  go_ret
  refine ⟨rfl, ?_, ?_⟩
  · exact ((H.out.set_ 0 (.int .u8 162)).set_ 1 (.int .u8 2))
  · intro B hB; exact (((Below.refl _ _).setCell (by simpa using hB) _).setCell (by simpa using hB) _)
theorem touv_290 (w : World) : Calls Tryz.prog 125 #[.int .u64 290] w (OutV [162, 2] w) := by
  have hmk := run_make_bytes 2 (by omega)
  have e1 : ((2 : Nat) : Int) = 2 := rfl
  have e2 : madeCells #[.int .u8 0] (2 * 1) = #[.int .u8 0, .int .u8 0] := by kernel_rfl
  rw [e1, e2] at hmk
  clear e1 e2
  go_enter Tryz.func125, Tryz.ntmps125
  go_wp2_with (first
    | (go_at_call 169; refine (usize_290 _).mono ?_; rintro e w' ⟨rfl, rfl⟩)
    | (go_at_call 170; refine (putu_290 _ _ 5 (Blk.new _ _ _)).mono ?_; rintro e w' ⟨rfl, hB, hb⟩))
  have H := Lib.hid hB
  have HB := Lib.hid (hb w.heap.size (Nat.le_refl _))
  clear hB hb hmk
  go_wp2_with fail
  go_ret
  exact ⟨w.heap.size, rfl, Nat.le_refl _, H.out, ((Below.refl _ w).alloc (Nat.le_refl _) _).trans HB.out⟩
theorem code_290 (w : World) : Calls Tryz.prog 109 #[.int .i64 290] w (OutV [162, 2] w) := by
  go_enter Tryz.func109, Tryz.ntmps109
  go_wp2_with (go_at_call 125; refine (touv_290 _).mono ?_; rintro e w' ⟨g, rfl, hg, hr, hb⟩)
  go_ret
  exact ⟨g, rfl, hg, hr, hb⟩
theorem len64_421 (w : World) : Calls Tryz.prog 50 #[.int .u64 421] w fun e w' => e = .returned (.int .i64 9) ∧ w = w' := by
  go_enter Tryz.func50, Tryz.ntmps50
  go_wp2_with fail
  go_ret
  exact ⟨by simp; try kernel_rfl, rfl⟩
theorem usize_421 (w : World) : Calls Tryz.prog 169 #[.int .u64 421] w fun e w' => e = .returned (.int .i64 2) ∧ w = w' := by
  go_enter Tryz.func169, Tryz.ntmps169
  go_wp2_with (go_at_call 50; refine (len64_421 _).mono ?_; rintro e w' ⟨rfl, rfl⟩)
  go_ret
  exact ⟨rfl, rfl⟩
theorem putu_421 (w : World) (g : Nat) (t : TypeId) (h : Blk w g t #[.int .u8 0, .int .u8 0]) : Calls Tryz.prog 170 #[.slice (some ⟨g, 0, none⟩) 2 2, .int .u64 421] w fun e w' => e = .returned (.int .i64 2) ∧ Blk w' g t #[.int .u8 165, .int .u8 3] ∧ ∀ B, B ≤ g → Below B w w' := by
  have c0 : w.cell? ⟨g, 0, none⟩ = some (.int .u8 0) := h.cell 0
  have c1 : w.cell? ⟨g, 1, none⟩ = some (.int .u8 0) := h.cell 1
  have o0 : bits .or .u8 165 128 = 165 := by kernel_rfl
  have f0 := h.frozen 0
  have f1 := h.frozen 1
  have H := Lib.hid h
  clear h
  go_enter Tryz.func170, Tryz.ntmps170
  go_wp2_with fail
  refine wp_loop_rounds 2 ?_
  rw [rounds_succ]
  go_wp2_with fail
  rw [rounds_succ]
  go_wp2_with fail
  go_ret
  refine ⟨rfl, ?_, ?_⟩
  · exact ((H.out.set_ 0 (.int .u8 165)).set_ 1 (.int .u8 3))
  · intro B hB; exact (((Below.refl _ _).setCell (by simpa using hB) _).setCell (by simpa using hB) _)
theorem touv_421 (w : World) : Calls Tryz.prog 125 #[.int .u64 421] w (OutV [165, 3] w) := by
  have hmk := run_make_bytes 2 (by omega)
  have e1 : ((2 : Nat) : Int) = 2 := rfl
  have e2 : madeCells #[.int .u8 0] (2 * 1) = #[.int .u8 0, .int .u8 0] := by kernel_rfl
  rw [e1, e2] at hmk
  clear e1 e2
  go_enter Tryz.func125, Tryz.ntmps125
  go_wp2_with (first
    | (go_at_call 169; refine (usize_421 _).mono ?_; rintro e w' ⟨rfl, rfl⟩)
    | (go_at_call 170; refine (putu_421 _ _ 5 (Blk.new _ _ _)).mono ?_; rintro e w' ⟨rfl, hB, hb⟩))
  have H := Lib.hid hB
  have HB := Lib.hid (hb w.heap.size (Nat.le_refl _))
  clear hB hb hmk
  go_wp2_with fail
  go_ret
  exact ⟨w.heap.size, rfl, Nat.le_refl _, H.out, ((Below.refl _ w).alloc (Nat.le_refl _) _).trans HB.out⟩
theorem code_421 (w : World) : Calls Tryz.prog 109 #[.int .i64 421] w (OutV [165, 3] w) := by
  go_enter Tryz.func109, Tryz.ntmps109
  go_wp2_with (go_at_call 125; refine (touv_421 _).mono ?_; rintro e w' ⟨g, rfl, hg, hr, hb⟩)
  go_ret
  exact ⟨g, rfl, hg, hr, hb⟩
theorem len64_461 (w : World) : Calls Tryz.prog 50 #[.int .u64 461] w fun e w' => e = .returned (.int .i64 9) ∧ w = w' := by
  go_enter Tryz.func50, Tryz.ntmps50
  go_wp2_with fail
  go_ret
  exact ⟨by simp; try kernel_rfl, rfl⟩
theorem usize_461 (w : World) : Calls Tryz.prog 169 #[.int .u64 461] w fun e w' => e = .returned (.int .i64 2) ∧ w = w' := by
  go_enter Tryz.func169, Tryz.ntmps169
  go_wp2_with (go_at_call 50; refine (len64_461 _).mono ?_; rintro e w' ⟨rfl, rfl⟩)
  go_ret
  exact ⟨rfl, rfl⟩
theorem putu_461 (w : World) (g : Nat) (t : TypeId) (h : Blk w g t #[.int .u8 0, .int .u8 0]) : Calls Tryz.prog 170 #[.slice (some ⟨g, 0, none⟩) 2 2, .int .u64 461] w fun e w' => e = .returned (.int .i64 2) ∧ Blk w' g t #[.int .u8 205, .int .u8 3] ∧ ∀ B, B ≤ g → Below B w w' := by
  have c0 : w.cell? ⟨g, 0, none⟩ = some (.int .u8 0) := h.cell 0
  have c1 : w.cell? ⟨g, 1, none⟩ = some (.int .u8 0) := h.cell 1
  have o0 : bits .or .u8 205 128 = 205 := by kernel_rfl
  have f0 := h.frozen 0
  have f1 := h.frozen 1
  have H := Lib.hid h
  clear h
  go_enter Tryz.func170, Tryz.ntmps170
  go_wp2_with fail
  refine wp_loop_rounds 2 ?_
  rw [rounds_succ]
  go_wp2_with fail
  rw [rounds_succ]
  go_wp2_with fail
  go_ret
  refine ⟨rfl, ?_, ?_⟩
  · exact ((H.out.set_ 0 (.int .u8 205)).set_ 1 (.int .u8 3))
  · intro B hB; exact (((Below.refl _ _).setCell (by simpa using hB) _).setCell (by simpa using hB) _)
theorem touv_461 (w : World) : Calls Tryz.prog 125 #[.int .u64 461] w (OutV [205, 3] w) := by
  have hmk := run_make_bytes 2 (by omega)
  have e1 : ((2 : Nat) : Int) = 2 := rfl
  have e2 : madeCells #[.int .u8 0] (2 * 1) = #[.int .u8 0, .int .u8 0] := by kernel_rfl
  rw [e1, e2] at hmk
  clear e1 e2
  go_enter Tryz.func125, Tryz.ntmps125
  go_wp2_with (first
    | (go_at_call 169; refine (usize_461 _).mono ?_; rintro e w' ⟨rfl, rfl⟩)
    | (go_at_call 170; refine (putu_461 _ _ 5 (Blk.new _ _ _)).mono ?_; rintro e w' ⟨rfl, hB, hb⟩))
  have H := Lib.hid hB
  have HB := Lib.hid (hb w.heap.size (Nat.le_refl _))
  clear hB hb hmk
  go_wp2_with fail
  go_ret
  exact ⟨w.heap.size, rfl, Nat.le_refl _, H.out, ((Below.refl _ w).alloc (Nat.le_refl _) _).trans HB.out⟩
theorem code_461 (w : World) : Calls Tryz.prog 109 #[.int .i64 461] w (OutV [205, 3] w) := by
  go_enter Tryz.func109, Tryz.ntmps109
  go_wp2_with (go_at_call 125; refine (touv_461 _).mono ?_; rintro e w' ⟨g, rfl, hg, hr, hb⟩)
  go_ret
  exact ⟨g, rfl, hg, hr, hb⟩
theorem len64_477 (w : World) : Calls Tryz.prog 50 #[.int .u64 477] w fun e w' => e = .returned (.int .i64 9) ∧ w = w' := by
  go_enter Tryz.func50, Tryz.ntmps50
  go_wp2_with fail
  go_ret
  exact ⟨by simp; try kernel_rfl, rfl⟩
theorem usize_477 (w : World) : Calls Tryz.prog 169 #[.int .u64 477] w fun e w' => e = .returned (.int .i64 2) ∧ w = w' := by
  go_enter Tryz.func169, Tryz.ntmps169
  go_wp2_with (go_at_call 50; refine (len64_477 _).mono ?_; rintro e w' ⟨rfl, rfl⟩)
  go_ret
  exact ⟨rfl, rfl⟩
theorem putu_477 (w : World) (g : Nat) (t : TypeId) (h : Blk w g t #[.int .u8 0, .int .u8 0]) : Calls Tryz.prog 170 #[.slice (some ⟨g, 0, none⟩) 2 2, .int .u64 477] w fun e w' => e = .returned (.int .i64 2) ∧ Blk w' g t #[.int .u8 221, .int .u8 3] ∧ ∀ B, B ≤ g → Below B w w' := by
  have c0 : w.cell? ⟨g, 0, none⟩ = some (.int .u8 0) := h.cell 0
  have c1 : w.cell? ⟨g, 1, none⟩ = some (.int .u8 0) := h.cell 1
  have o0 : bits .or .u8 221 128 = 221 := by kernel_rfl
  have f0 := h.frozen 0
  have f1 := h.frozen 1
  have H := Lib.hid h
  clear h
  go_enter Tryz.func170, Tryz.ntmps170
  go_wp2_with fail
  refine wp_loop_rounds 2 ?_
  rw [rounds_succ]
  go_wp2_with fail
  rw [rounds_succ]
  go_wp2_with fail
  go_ret
  refine ⟨rfl, ?_, ?_⟩
  · exact ((H.out.set_ 0 (.int .u8 221)).set_ 1 (.int .u8 3))
  · intro B hB; exact (((Below.refl _ _).setCell (by simpa using hB) _).setCell (by simpa using hB) _)
theorem touv_477 (w : World) : Calls Tryz.prog 125 #[.int .u64 477] w (OutV [221, 3] w) := by
  have hmk := run_make_bytes 2 (by omega)
  have e1 : ((2 : Nat) : Int) = 2 := rfl
  have e2 : madeCells #[.int .u8 0] (2 * 1) = #[.int .u8 0, .int .u8 0] := by kernel_rfl
  rw [e1, e2] at hmk
  clear e1 e2
  go_enter Tryz.func125, Tryz.ntmps125
  go_wp2_with (first
    | (go_at_call 169; refine (usize_477 _).mono ?_; rintro e w' ⟨rfl, rfl⟩)
    | (go_at_call 170; refine (putu_477 _ _ 5 (Blk.new _ _ _)).mono ?_; rintro e w' ⟨rfl, hB, hb⟩))
  have H := Lib.hid hB
  have HB := Lib.hid (hb w.heap.size (Nat.le_refl _))
  clear hB hb hmk
  go_wp2_with fail
  go_ret
  exact ⟨w.heap.size, rfl, Nat.le_refl _, H.out, ((Below.refl _ w).alloc (Nat.le_refl _) _).trans HB.out⟩
theorem code_477 (w : World) : Calls Tryz.prog 109 #[.int .i64 477] w (OutV [221, 3] w) := by
  go_enter Tryz.func109, Tryz.ntmps109
  go_wp2_with (go_at_call 125; refine (touv_477 _).mono ?_; rintro e w' ⟨g, rfl, hg, hr, hb⟩)
  go_ret
  exact ⟨g, rfl, hg, hr, hb⟩
end Go.Proofs.YtghddiboggdhcaaGreatDoor
