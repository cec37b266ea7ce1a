/- Varints as the package writes them, at the codes of more protocols. -/
import Derived.Test.YtghddiboggdhcaaGreatDoorPb
set_option maxRecDepth 100000
set_option maxHeartbeats 1000000
namespace Go.Proofs.YtghddiboggdhcaaGreatDoor
open Go.RowKit
theorem len64_465 (w : World) : Calls Tryz.prog 50 #[.int .u64 465] w fun e w' => e = .returned (.int .i64 9) ∧ w = w' := by
  go_enter Tryz.func50, Tryz.ntmps50
  go_wp2_with fail
  go_ret
  exact ⟨by simp; try kernel_rfl, rfl⟩
theorem usize_465 (w : World) : Calls Tryz.prog 169 #[.int .u64 465] w fun e w' => e = .returned (.int .i64 2) ∧ w = w' := by
  go_enter Tryz.func169, Tryz.ntmps169
  go_wp2_with (go_at_call 50; refine (len64_465 _).mono ?_; rintro e w' ⟨rfl, rfl⟩)
  go_ret
  exact ⟨rfl, rfl⟩
theorem putu_465 (w : World) (g : Nat) (t : TypeId) (h : Blk w g t #[.int .u8 0, .int .u8 0]) : Calls Tryz.prog 170 #[.slice (some ⟨g, 0, none⟩) 2 2, .int .u64 465] w fun e w' => e = .returned (.int .i64 2) ∧ Blk w' g t #[.int .u8 209, .int .u8 3] ∧ ∀ B, B ≤ g → Below B w w' := by
  have c0 : w.cell? ⟨g, 0, none⟩ = some (.int .u8 0) := h.cell 0
  have c1 : w.cell? ⟨g, 1, none⟩ = some (.int .u8 0) := h.cell 1
  have o0 : bits .or .u8 209 128 = 209 := by kernel_rfl
  have f0 := h.frozen 0
  have f1 := h.frozen 1
  have H := Lib.hid h
  clear h
  go_enter Tryz.func170, Tryz.ntmps170
  go_wp2_with fail
  refine wp_loop_rounds 2 ?_
  rw [rounds_succ]
  go_wp2_with fail
  rw [rounds_succ]
  go_wp2_with fail
  go_ret
  refine ⟨rfl, ?_, ?_⟩
  · exact ((H.out.set_ 0 (.int .u8 209)).set_ 1 (.int .u8 3))
  · intro B hB; exact (((Below.refl _ _).setCell (by simpa using hB) _).setCell (by simpa using hB) _)
theorem touv_465 (w : World) : Calls Tryz.prog 125 #[.int .u64 465] w (OutV [209, 3] w) := by
  have hmk := run_make_bytes 2 (by omega)
  have e1 : ((2 : Nat) : Int) = 2 := rfl
  have e2 : madeCells #[.int .u8 0] (2 * 1) = #[.int .u8 0, .int .u8 0] := by kernel_rfl
  rw [e1, e2] at hmk
  clear e1 e2
  go_enter Tryz.func125, Tryz.ntmps125
  go_wp2_with (first
    | (go_at_call 169; refine (usize_465 _).mono ?_; rintro e w' ⟨rfl, rfl⟩)
    | (go_at_call 170; refine (putu_465 _ _ 5 (Blk.new _ _ _)).mono ?_; rintro e w' ⟨rfl, hB, hb⟩))
  have H := Lib.hid hB
  have HB := Lib.hid (hb w.heap.size (Nat.le_refl _))
  clear hB hb hmk
  go_wp2_with fail
  go_ret
  exact ⟨w.heap.size, rfl, Nat.le_refl _, H.out, ((Below.refl _ w).alloc (Nat.le_refl _) _).trans HB.out⟩
theorem code_465 (w : World) : Calls Tryz.prog 109 #[.int .i64 465] w (OutV [209, 3] w) := by
  go_enter Tryz.func109, Tryz.ntmps109
  go_wp2_with (go_at_call 125; refine (touv_465 _).mono ?_; rintro e w' ⟨g, rfl, hg, hr, hb⟩)
  go_ret
  exact ⟨g, rfl, hg, hr, hb⟩
theorem len64_466 (w : World) : Calls Tryz.prog 50 #[.int .u64 466] w fun e w' => e = .returned (.int .i64 9) ∧ w = w' := by
  go_enter Tryz.func50, Tryz.ntmps50
  go_wp2_with fail
  go_ret
  exact ⟨by simp; try kernel_rfl, rfl⟩
theorem usize_466 (w : World) : Calls Tryz.prog 169 #[.int .u64 466] w fun e w' => e = .returned (.int .i64 2) ∧ w = w' := by
  go_enter Tryz.func169, Tryz.ntmps169
  go_wp2_with (go_at_call 50; refine (len64_466 _).mono ?_; rintro e w' ⟨rfl, rfl⟩)
  go_ret
  exact ⟨rfl, rfl⟩
theorem putu_466 (w : World) (g : Nat) (t : TypeId) (h : Blk w g t #[.int .u8 0, .int .u8 0]) : Calls Tryz.prog 170 #[.slice (some ⟨g, 0, none⟩) 2 2, .int .u64 466] w fun e w' => e = .returned (.int .i64 2) ∧ Blk w' g t #[.int .u8 210, .int .u8 3] ∧ ∀ B, B ≤ g → Below B w w' := by
  have c0 : w.cell? ⟨g, 0, none⟩ = some (.int .u8 0) := h.cell 0
  have c1 : w.cell? ⟨g, 1, none⟩ = some (.int .u8 0) := h.cell 1
  have o0 : bits .or .u8 210 128 = 210 := by kernel_rfl
  have f0 := h.frozen 0
  have f1 := h.frozen 1
  have H := Lib.hid h
  clear h
  go_enter Tryz.func170, Tryz.ntmps170
  go_wp2_with fail
  refine wp_loop_rounds 2 ?_
  rw [rounds_succ]
  go_wp2_with fail
  rw [rounds_succ]
  go_wp2_with fail
  go_ret
  refine ⟨rfl, ?_, ?_⟩
  · exact ((H.out.set_ 0 (.int .u8 210)).set_ 1 (.int .u8 3))
  · intro B hB; exact (((Below.refl _ _).setCell (by simpa using hB) _).setCell (by simpa using hB) _)
theorem touv_466 (w : World) : Calls Tryz.prog 125 #[.int .u64 466] w (OutV [210, 3] w) := by
  have hmk := run_make_bytes 2 (by omega)
  have e1 : ((2 : Nat) : Int) = 2 := rfl
  have e2 : madeCells #[.int .u8 0] (2 * 1) = #[.int .u8 0, .int .u8 0] := by kernel_rfl
  rw [e1, e2] at hmk
  clear e1 e2
  go_enter Tryz.func125, Tryz.ntmps125
  go_wp2_with (first
    | (go_at_call 169; refine (usize_466 _).mono ?_; rintro e w' ⟨rfl, rfl⟩)
    | (go_at_call 170; refine (putu_466 _ _ 5 (Blk.new _ _ _)).mono ?_; rintro e w' ⟨rfl, hB, hb⟩))
  have H := Lib.hid hB
  have HB := Lib.hid (hb w.heap.size (Nat.le_refl _))
  clear hB hb hmk
  go_wp2_with fail
  go_ret
  exact ⟨w.heap.size, rfl, Nat.le_refl _, H.out, ((Below.refl _ w).alloc (Nat.le_refl _) _).trans HB.out⟩
theorem code_466 (w : World) : Calls Tryz.prog 109 #[.int .i64 466] w (OutV [210, 3] w) := by
  go_enter Tryz.func109, Tryz.ntmps109
  go_wp2_with (go_at_call 125; refine (touv_466 _).mono ?_; rintro e w' ⟨g, rfl, hg, hr, hb⟩)
  go_ret
  exact ⟨g, rfl, hg, hr, hb⟩
theorem len64_480 (w : World) : Calls Tryz.prog 50 #[.int .u64 480] w fun e w' => e = .returned (.int .i64 9) ∧ w = w' := by
  go_enter Tryz.func50, Tryz.ntmps50
  go_wp2_with fail
  go_ret
  exact ⟨by simp; try kernel_rfl, rfl⟩
theorem usize_480 (w : World) : Calls Tryz.prog 169 #[.int .u64 480] w fun e w' => e = .returned (.int .i64 2) ∧ w = w' := by
  go_enter Tryz.func169, Tryz.ntmps169
  go_wp2_with (go_at_call 50; refine (len64_480 _).mono ?_; rintro e w' ⟨rfl, rfl⟩)
  go_ret
  exact ⟨rfl, rfl⟩
theorem putu_480 (w : World) (g : Nat) (t : TypeId) (h : Blk w g t #[.int .u8 0, .int .u8 0]) : Calls Tryz.prog 170 #[.slice (some ⟨g, 0, none⟩) 2 2, .int .u64 480] w fun e w' => e = .returned (.int .i64 2) ∧ Blk w' g t #[.int .u8 224, .int .u8 3] ∧ ∀ B, B ≤ g → Below B w w' := by
  have c0 : w.cell? ⟨g, 0, none⟩ = some (.int .u8 0) := h.cell 0
  have c1 : w.cell? ⟨g, 1, none⟩ = some (.int .u8 0) := h.cell 1
  have o0 : bits .or .u8 224 128 = 224 := by kernel_rfl
  have f0 := h.frozen 0
  have f1 := h.frozen 1
  have H := Lib.hid h
  clear h
  go_enter Tryz.func170, Tryz.ntmps170
  go_wp2_with fail
  refine wp_loop_rounds 2 ?_
  rw [rounds_succ]
  go_wp2_with fail
  rw [rounds_succ]
  go_wp2_with fail
  go_ret
  refine ⟨rfl, ?_, ?_⟩
  · exact ((H.out.set_ 0 (.int .u8 224)).set_ 1 (.int .u8 3))
  · intro B hB; exact (((Below.refl _ _).setCell (by simpa using hB) _).setCell (by simpa using hB) _)
theorem touv_480 (w : World) : Calls Tryz.prog 125 #[.int .u64 480] w (OutV [224, 3] w) := by
  have hmk := run_make_bytes 2 (by omega)
  have e1 : ((2 : Nat) : Int) = 2 := rfl
  have e2 : madeCells #[.int .u8 0] (2 * 1) = #[.int .u8 0, .int .u8 0] := by kernel_rfl
  rw [e1, e2] at hmk
  clear e1 e2
  go_enter Tryz.func125, Tryz.ntmps125
  go_wp2_with (first
    | (go_at_call 169; refine (usize_480 _).mono ?_; rintro e w' ⟨rfl, rfl⟩)
    | (go_at_call 170; refine (putu_480 _ _ 5 (Blk.new _ _ _)).mono ?_; rintro e w' ⟨rfl, hB, hb⟩))
  have H := Lib.hid hB
  have HB := Lib.hid (hb w.heap.size (Nat.le_refl _))
  clear hB hb hmk
  go_wp2_with fail
  go_ret
  exact ⟨w.heap.size, rfl, Nat.le_refl _, H.out, ((Below.refl _ w).alloc (Nat.le_refl _) _).trans HB.out⟩
theorem code_480 (w : World) : Calls Tryz.prog 109 #[.int .i64 480] w (OutV [224, 3] w) := by
  go_enter Tryz.func109, Tryz.ntmps109
  go_wp2_with (go_at_call 125; refine (touv_480 _).mono ?_; rintro e w' ⟨g, rfl, hg, hr, hb⟩)
  go_ret
  exact ⟨g, rfl, hg, hr, hb⟩
theorem len64_481 (w : World) : Calls Tryz.prog 50 #[.int .u64 481] w fun e w' => e = .returned (.int .i64 9) ∧ w = w' := by
  go_enter Tryz.func50, Tryz.ntmps50
  go_wp2_with fail
  go_ret
  exact ⟨by simp; try kernel_rfl, rfl⟩
theorem usize_481 (w : World) : Calls Tryz.prog 169 #[.int .u64 481] w fun e w' => e = .returned (.int .i64 2) ∧ w = w' := by
  go_enter Tryz.func169, Tryz.ntmps169
  go_wp2_with (go_at_call 50; refine (len64_481 _).mono ?_; rintro e w' ⟨rfl, rfl⟩)
  go_ret
  exact ⟨rfl, rfl⟩
theorem putu_481 (w : World) (g : Nat) (t : TypeId) (h : Blk w g t #[.int .u8 0, .int .u8 0]) : Calls Tryz.prog 170 #[.slice (some ⟨g, 0, none⟩) 2 2, .int .u64 481] w fun e w' => e = .returned (.int .i64 2) ∧ Blk w' g t #[.int .u8 225, .int .u8 3] ∧ ∀ B, B ≤ g → Below B w w' := by
  have c0 : w.cell? ⟨g, 0, none⟩ = some (.int .u8 0) := h.cell 0
  have c1 : w.cell? ⟨g, 1, none⟩ = some (.int .u8 0) := h.cell 1
  have o0 : bits .or .u8 225 128 = 225 := by kernel_rfl
  have f0 := h.frozen 0
  have f1 := h.frozen 1
  have H := Lib.hid h
  clear h
  go_enter Tryz.func170, Tryz.ntmps170
  go_wp2_with fail
  refine wp_loop_rounds 2 ?_
  rw [rounds_succ]
  go_wp2_with fail
  rw [rounds_succ]
  go_wp2_with fail
  go_ret
  refine ⟨rfl, ?_, ?_⟩
  · exact ((H.out.set_ 0 (.int .u8 225)).set_ 1 (.int .u8 3))
  · intro B hB; exact (((Below.refl _ _).setCell (by simpa using hB) _).setCell (by simpa using hB) _)
theorem touv_481 (w : World) : Calls Tryz.prog 125 #[.int .u64 481] w (OutV [225, 3] w) := by
  have hmk := run_make_bytes 2 (by omega)
  have e1 : ((2 : Nat) : Int) = 2 := rfl
  have e2 : madeCells #[.int .u8 0] (2 * 1) = #[.int .u8 0, .int .u8 0] := by kernel_rfl
  rw [e1, e2] at hmk
  clear e1 e2
  go_enter Tryz.func125, Tryz.ntmps125
  go_wp2_with (first
    | (go_at_call 169; refine (usize_481 _).mono ?_; rintro e w' ⟨rfl, rfl⟩)
    | (go_at_call 170; refine (putu_481 _ _ 5 (Blk.new _ _ _)).mono ?_; rintro e w' ⟨rfl, hB, hb⟩))
  have H := Lib.hid hB
  have HB := Lib.hid (hb w.heap.size (Nat.le_refl _))
  clear hB hb hmk
  go_wp2_with fail
  go_ret
  exact ⟨w.heap.size, rfl, Nat.le_refl _, H.out, ((Below.refl _ w).alloc (Nat.le_refl _) _).trans HB.out⟩
theorem code_481 (w : World) : Calls Tryz.prog 109 #[.int .i64 481] w (OutV [225, 3] w) := by
  go_enter Tryz.func109, Tryz.ntmps109
  go_wp2_with (go_at_call 125; refine (touv_481 _).mono ?_; rintro e w' ⟨g, rfl, hg, hr, hb⟩)
  go_ret
  exact ⟨g, rfl, hg, hr, hb⟩
theorem len64_443 (w : World) : Calls Tryz.prog 50 #[.int .u64 443] w fun e w' => e = .returned (.int .i64 9) ∧ w = w' := by
  go_enter Tryz.func50, Tryz.ntmps50
  go_wp2_with fail
  go_ret
  exact ⟨by simp; try kernel_rfl, rfl⟩
theorem usize_443 (w : World) : Calls Tryz.prog 169 #[.int .u64 443] w fun e w' => e = .returned (.int .i64 2) ∧ w = w' := by
  go_enter Tryz.func169, Tryz.ntmps169
  go_wp2_with (go_at_call 50; refine (len64_443 _).mono ?_; rintro e w' ⟨rfl, rfl⟩)
  go_ret
  exact ⟨rfl, rfl⟩
theorem putu_443 (w : World) (g : Nat) (t : TypeId) (h : Blk w g t #[.int .u8 0, .int .u8 0]) : Calls Tryz.prog 170 #[.slice (some ⟨g, 0, none⟩) 2 2, .int .u64 443] w fun e w' => e = .returned (.int .i64 2) ∧ Blk w' g t #[.int .u8 187, .int .u8 3] ∧ ∀ B, B ≤ g → Below B w w' := by
  have c0 : w.cell? ⟨g, 0, none⟩ = some (.int .u8 0) := h.cell 0
  have c1 : w.cell? ⟨g, 1, none⟩ = some (.int .u8 0) := h.cell 1
  have o0 : bits .or .u8 187 128 = 187 := by kernel_rfl
  have f0 := h.frozen 0
  have f1 := h.frozen 1
  have H := Lib.hid h
  clear h
  go_enter Tryz.func170, Tryz.ntmps170
  go_wp2_with fail
  refine wp_loop_rounds 2 ?_
  rw [rounds_succ]
  go_wp2_with fail
  rw [rounds_succ]
  go_wp2_with fail
  go_ret
  refine ⟨rfl, ?_, ?_⟩
  · exact ((H.out.set_ 0 (.int .u8 187)).set_ 1 (.int .u8 3))
  · intro B hB; exact (((Below.refl _ _).setCell (by simpa using hB) _).setCell (by simpa using hB) _)
theorem touv_443 (w : World) : Calls Tryz.prog 125 #[.int .u64 443] w (OutV [187, 3] w) := by
  have hmk := run_make_bytes 2 (by omega)
  have e1 : ((2 : Nat) : Int) = 2 := rfl
  have e2 : madeCells #[.int .u8 0] (2 * 1) = #[.int .u8 0, .int .u8 0] := by kernel_rfl
  rw [e1, e2] at hmk
  clear e1 e2
  go_enter Tryz.func125, Tryz.ntmps125
  go_wp2_with (first
    | (go_at_call 169; refine (usize_443 _).mono ?_; rintro e w' ⟨rfl, rfl⟩)
    | (go_at_call 170; refine (putu_443 _ _ 5 (Blk.new _ _ _)).mono ?_; rintro e w' ⟨rfl, hB, hb⟩))
  have H := Lib.hid hB
  have HB := Lib.hid (hb w.heap.size (Nat.le_refl _))
  clear hB hb hmk
  go_wp2_with fail
  go_ret
  exact ⟨w.heap.size, rfl, Nat.le_refl _, H.out, ((Below.refl _ w).alloc (Nat.le_refl _) _).trans HB.out⟩
theorem code_443 (w : World) : Calls Tryz.prog 109 #[.int .i64 443] w (OutV [187, 3] w) := by
  go_enter Tryz.func109, Tryz.ntmps109
  go_wp2_with (go_at_call 125; refine (touv_443 _).mono ?_; rintro e w' ⟨g, rfl, hg, hr, hb⟩)
  go_ret
  exact ⟨g, rfl, hg, hr, hb⟩
theorem len64_400 (w : World) : Calls Tryz.prog 50 #[.int .u64 400] w fun e w' => e = .returned (.int .i64 9) ∧ w = w' := by
  go_enter Tryz.func50, Tryz.ntmps50
  go_wp2_with fail
  go_ret
  exact ⟨by simp; try kernel_rfl, rfl⟩
theorem usize_400 (w : World) : Calls Tryz.prog 169 #[.int .u64 400] w fun e w' => e = .returned (.int .i64 2) ∧ w = w' := by
  go_enter Tryz.func169, Tryz.ntmps169
  go_wp2_with (go_at_call 50; refine (len64_400 _).mono ?_; rintro e w' ⟨rfl, rfl⟩)
  go_ret
  exact ⟨rfl, rfl⟩
theorem putu_400 (w : World) (g : Nat) (t : TypeId) (h : Blk w g t #[.int .u8 0, .int .u8 0]) : Calls Tryz.prog 170 #[.slice (some ⟨g, 0, none⟩) 2 2, .int .u64 400] w fun e w' => e = .returned (.int .i64 2) ∧ Blk w' g t #[.int .u8 144, .int .u8 3] ∧ ∀ B, B ≤ g → Below B w w' := by
  have c0 : w.cell? ⟨g, 0, none⟩ = some (.int .u8 0) := h.cell 0
  have c1 : w.cell? ⟨g, 1, none⟩ = some (.int .u8 0) := h.cell 1
  have o0 : bits .or .u8 144 128 = 144 := by kernel_rfl
  have f0 := h.frozen 0
  have f1 := h.frozen 1
  have H := Lib.hid h
  clear h
  go_enter Tryz.func170, Tryz.ntmps170
  go_wp2_with fail
  refine wp_loop_rounds 2 ?_
  rw [rounds_succ]
  go_wp2_with fail
  rw [rounds_succ]
  go_wp2_with fail
  go_ret
  refine ⟨rfl, ?_, ?_⟩
  · exact ((H.out.set_ 0 (.int .u8 144)).set_ 1 (.int .u8 3))
  · intro B hB; exact (((Below.refl _ _).setCell (by simpa using hB) _).setCell (by simpa using hB) _)
theorem touv_400 (w : World) : Calls Tryz.prog 125 #[.int .u64 400] w (OutV [144, 3] w) := by
  have hmk := run_make_bytes 2 (by omega)
  have e1 : ((2 : Nat) : Int) = 2 := rfl
  have e2 : madeCells #[.int .u8 0] (2 * 1) = #[.int .u8 0, .int .u8 0] := by kernel_rfl
  rw [e1, e2] at hmk
  clear e1 e2
  go_enter Tryz.func125, Tryz.ntmps125
  go_wp2_with (first
    | (go_at_call 169; refine (usize_400 _).mono ?_; rintro e w' ⟨rfl, rfl⟩)
    | (go_at_call 170; refine (putu_400 _ _ 5 (Blk.new _ _ _)).mono ?_; rintro e w' ⟨rfl, hB, hb⟩))
  have H := Lib.hid hB
  have HB := Lib.hid (hb w.heap.size (Nat.le_refl _))
  clear hB hb hmk
  go_wp2_with fail
  go_ret
  exact ⟨w.heap.size, rfl, Nat.le_refl _, H.out, ((Below.refl _ w).alloc (Nat.le_refl _) _).trans HB.out⟩
theorem code_400 (w : World) : Calls Tryz.prog 109 #[.int .i64 400] w (OutV [144, 3] w) := by
  go_enter Tryz.func109, Tryz.ntmps109
  go_wp2_with (go_at_call 125; refine (touv_400 _).mono ?_; rintro e w' ⟨g, rfl, hg, hr, hb⟩)
  go_ret
  exact ⟨g, rfl, hg, hr, hb⟩
theorem len64_276 (w : World) : Calls Tryz.prog 50 #[.int .u64 276] w fun e w' => e = .returned (.int .i64 9) ∧ w = w' := by
  go_enter Tryz.func50, Tryz.ntmps50
  go_wp2_with fail
  go_ret
  exact ⟨by simp; try kernel_rfl, rfl⟩
theorem usize_276 (w : World) : Calls Tryz.prog 169 #[.int .u64 276] w fun e w' => e = .returned (.int .i64 2) ∧ w = w' := by
  go_enter Tryz.func169, Tryz.ntmps169
  go_wp2_with (go_at_call 50; refine (len64_276 _).mono ?_; rintro e w' ⟨rfl, rfl⟩)
  go_ret
  exact ⟨rfl, rfl⟩
theorem putu_276 (w : World) (g : Nat) (t : TypeId) (h : Blk w g t #[.int .u8 0, .int .u8 0]) : Calls Tryz.prog 170 #[.slice (some ⟨g, 0, none⟩) 2 2, .int .u64 276] w fun e w' => e = .returned (.int .i64 2) ∧ Blk w' g t #[.int .u8 148, .int .u8 2] ∧ ∀ B, B ≤ g → Below B w w' := by
  have c0 : w.cell? ⟨g, 0, none⟩ = some (.int .u8 0) := h.cell 0
  have c1 : w.cell? ⟨g, 1, none⟩ = some (.int .u8 0) := h.cell 1
  have o0 : bits .or .u8 20 128 = 148 := by kernel_rfl
  have f0 := h.frozen 0
  have f1 := h.frozen 1
  have H := Lib.hid h
  clear h
  go_enter Tryz.func170, Tryz.ntmps170
  go_wp2_with fail
  refine wp_loop_rounds 2 ?_
  rw [rounds_succ]
  go_wp2_with fail
  rw [rounds_succ]
  go_wp2_with fail
  go_ret
  refine ⟨rfl, ?_, ?_⟩
  · exact ((H.out.set_ 0 (.int .u8 148)).set_ 1 (.int .u8 2))
  · intro B hB; exact (((Below.refl _ _).setCell (by simpa using hB) _).setCell (by simpa using hB) _)
theorem touv_276 (w : World) : Calls Tryz.prog 125 #[.int .u64 276] w (OutV [148, 2] w) := by
  have hmk := run_make_bytes 2 (by omega)
  have e1 : ((2 : Nat) : Int) = 2 := rfl
  have e2 : madeCells #[.int .u8 0] (2 * 1) = #[.int .u8 0, .int .u8 0] := by kernel_rfl
  rw [e1, e2] at hmk
  clear e1 e2
  go_enter Tryz.func125, Tryz.ntmps125
  go_wp2_with (first
    | (go_at_call 169; refine (usize_276 _).mono ?_; rintro e w' ⟨rfl, rfl⟩)
    | (go_at_call 170; refine (putu_276 _ _ 5 (Blk.new _ _ _)).mono ?_; rintro e w' ⟨rfl, hB, hb⟩))
  have H := Lib.hid hB
  have HB := Lib.hid (hb w.heap.size (Nat.le_refl _))
  clear hB hb hmk
  go_wp2_with fail
  go_ret
  exact ⟨w.heap.size, rfl, Nat.le_refl _, H.out, ((Below.refl _ w).alloc (Nat.le_refl _) _).trans HB.out⟩
theorem code_276 (w : World) : Calls Tryz.prog 109 #[.int .i64 276] w (OutV [148, 2] w) := by
  go_enter Tryz.func109, Tryz.ntmps109
  go_wp2_with (go_at_call 125; refine (touv_276 _).mono ?_; rintro e w' ⟨g, rfl, hg, hr, hb⟩)
  go_ret
  exact ⟨g, rfl, hg, hr, hb⟩
theorem len64_448 (w : World) : Calls Tryz.prog 50 #[.int .u64 448] w fun e w' => e = .returned (.int .i64 9) ∧ w = w' := by
  go_enter Tryz.func50, Tryz.ntmps50
  go_wp2_with fail
  go_ret
  exact ⟨by simp; try kernel_rfl, rfl⟩
theorem usize_448 (w : World) : Calls Tryz.prog 169 #[.int .u64 448] w fun e w' => e = .returned (.int .i64 2) ∧ w = w' := by
  go_enter Tryz.func169, Tryz.ntmps169
  go_wp2_with (go_at_call 50; refine (len64_448 _).mono ?_; rintro e w' ⟨rfl, rfl⟩)
  go_ret
  exact ⟨rfl, rfl⟩
theorem putu_448 (w : World) (g : Nat) (t : TypeId) (h : Blk w g t #[.int .u8 0, .int .u8 0]) : Calls Tryz.prog 170 #[.slice (some ⟨g, 0, none⟩) 2 2, .int .u64 448] w fun e w' => e = .returned (.int .i64 2) ∧ Blk w' g t #[.int .u8 192, .int .u8 3] ∧ ∀ B, B ≤ g → Below B w w' := by
  have c0 : w.cell? ⟨g, 0, none⟩ = some (.int .u8 0) := h.cell 0
  have c1 : w.cell? ⟨g, 1, none⟩ = some (.int .u8 0) := h.cell 1
  have o0 : bits .or .u8 192 128 = 192 := by kernel_rfl
  have f0 := h.frozen 0
  have f1 := h.frozen 1
  have H := Lib.hid h
  clear h
  go_enter Tryz.func170, Tryz.ntmps170
  go_wp2_with fail
  refine wp_loop_rounds 2 ?_
  rw [rounds_succ]
  go_wp2_with fail
  rw [rounds_succ]
  go_wp2_with fail
  go_ret
  refine ⟨rfl, ?_, ?_⟩
  · exact ((H.out.set_ 0 (.int .u8 192)).set_ 1 (.int .u8 3))
  · intro B hB; exact (((Below.refl _ _).setCell (by simpa using hB) _).setCell (by simpa using hB) _)
theorem touv_448 (w : World) : Calls Tryz.prog 125 #[.int .u64 448] w (OutV [192, 3] w) := by
  have hmk := run_make_bytes 2 (by omega)
  have e1 : ((2 : Nat) : Int) = 2 := rfl
  have e2 : madeCells #[.int .u8 0] (2 * 1) = #[.int .u8 0, .int .u8 0] := by kernel_rfl
  rw [e1, e2] at hmk
  clear e1 e2
  go_enter Tryz.func125, Tryz.ntmps125
  go_wp2_with (first
    | (go_at_call 169; refine (usize_448 _).mono ?_; rintro e w' ⟨rfl, rfl⟩)
    | (go_at_call 170; refine (putu_448 _ _ 5 (Blk.new _ _ _)).mono ?_; rintro e w' ⟨rfl, hB, hb⟩))
  have H := Lib.hid hB
  have HB := Lib.hid (hb w.heap.size (Nat.le_refl _))
  clear hB hb hmk
  go_wp2_with fail
  go_ret
  exact ⟨w.heap.size, rfl, Nat.le_refl _, H.out, ((Below.refl _ w).alloc (Nat.le_refl _) _).trans HB.out⟩
theorem code_448 (w : World) : Calls Tryz.prog 109 #[.int .i64 448] w (OutV [192, 3] w) := by
  go_enter Tryz.func109, Tryz.ntmps109
  go_wp2_with (go_at_call 125; refine (touv_448 _).mono ?_; rintro e w' ⟨g, rfl, hg, hr, hb⟩)
  go_ret
  exact ⟨g, rfl, hg, hr, hb⟩
theorem len64_449 (w : World) : Calls Tryz.prog 50 #[.int .u64 449] w fun e w' => e = .returned (.int .i64 9) ∧ w = w' := by
  go_enter Tryz.func50, Tryz.ntmps50
  go_wp2_with fail
  go_ret
  exact ⟨by simp; try kernel_rfl, rfl⟩
theorem usize_449 (w : World) : Calls Tryz.prog 169 #[.int .u64 449] w fun e w' => e = .returned (.int .i64 2) ∧ w = w' := by
  go_enter Tryz.func169, Tryz.ntmps169
  go_wp2_with (go_at_call 50; refine (len64_449 _).mono ?_; rintro e w' ⟨rfl, rfl⟩)
  go_ret
  exact ⟨rfl, rfl⟩
theorem putu_449 (w : World) (g : Nat) (t : TypeId) (h : Blk w g t #[.int .u8 0, .int .u8 0]) : Calls Tryz.prog 170 #[.slice (some ⟨g, 0, none⟩) 2 2, .int .u64 449] w fun e w' => e = .returned (.int .i64 2) ∧ Blk w' g t #[.int .u8 193, .int .u8 3] ∧ ∀ B, B ≤ g → Below B w w' := by
  have c0 : w.cell? ⟨g, 0, none⟩ = some (.int .u8 0) := h.cell 0
  have c1 : w.cell? ⟨g, 1, none⟩ = some (.int .u8 0) := h.cell 1
  have o0 : bits .or .u8 193 128 = 193 := by kernel_rfl
  have f0 := h.frozen 0
  have f1 := h.frozen 1
  have H := Lib.hid h
  clear h
  go_enter Tryz.func170, Tryz.ntmps170
  go_wp2_with fail
  refine wp_loop_rounds 2 ?_
  rw [rounds_succ]
  go_wp2_with fail
  rw [rounds_succ]
  go_wp2_with fail
  go_ret
  refine ⟨rfl, ?_, ?_⟩
  · exact ((H.out.set_ 0 (.int .u8 193)).set_ 1 (.int .u8 3))
  · intro B hB; exact (((Below.refl _ _).setCell (by simpa using hB) _).setCell (by simpa using hB) _)
theorem touv_449 (w : World) : Calls Tryz.prog 125 #[.int .u64 449] w (OutV [193, 3] w) := by
  have hmk := run_make_bytes 2 (by omega)
  have e1 : ((2 : Nat) : Int) = 2 := rfl
  have e2 : madeCells #[.int .u8 0] (2 * 1) = #[.int .u8 0, .int .u8 0] := by kernel_rfl
  rw [e1, e2] at hmk
  clear e1 e2
  go_enter Tryz.func125, Tryz.ntmps125
  go_wp2_with (first
    | (go_at_call 169; refine (usize_449 _).mono ?_; rintro e w' ⟨rfl, rfl⟩)
    | (go_at_call 170; refine (putu_449 _ _ 5 (Blk.new _ _ _)).mono ?_; rintro e w' ⟨rfl, hB, hb⟩))
  have H := Lib.hid hB
  have HB := Lib.hid (hb w.heap.size (Nat.le_refl _))
  clear hB hb hmk
  go_wp2_with fail
  go_ret
  exact ⟨w.heap.size, rfl, Nat.le_refl _, H.out, ((Below.refl _ w).alloc (Nat.le_refl _) _).trans HB.out⟩
theorem code_449 (w : World) : Calls Tryz.prog 109 #[.int .i64 449] w (OutV [193, 3] w) := by
  go_enter Tryz.func109, Tryz.ntmps109
  go_wp2_with (go_at_call 125; refine (touv_449 _).mono ?_; rintro e w' ⟨g, rfl, hg, hr, hb⟩)
  go_ret
  exact ⟨g, rfl, hg, hr, hb⟩
theorem len64_454 (w : World) : Calls Tryz.prog 50 #[.int .u64 454] w fun e w' => e = .returned (.int .i64 9) ∧ w = w' := by
  go_enter Tryz.func50, Tryz.ntmps50
  go_wp2_with fail
  go_ret
  exact ⟨by simp; try kernel_rfl, rfl⟩
theorem usize_454 (w : World) : Calls Tryz.prog 169 #[.int .u64 454] w fun e w' => e = .returned (.int .i64 2) ∧ w = w' := by
  go_enter Tryz.func169, Tryz.ntmps169
  go_wp2_with (go_at_call 50; refine (len64_454 _).mono ?_; rintro e w' ⟨rfl, rfl⟩)
  go_ret
  exact ⟨rfl, rfl⟩
theorem putu_454 (w : World) (g : Nat) (t : TypeId) (h : Blk w g t #[.int .u8 0, .int .u8 0]) : Calls Tryz.prog 170 #[.slice (some ⟨g, 0, none⟩) 2 2, .int .u64 454] w fun e w' => e = .returned (.int .i64 2) ∧ Blk w' g t #[.int .u8 198, .int .u8 3] ∧ ∀ B, B ≤ g → Below B w w' := by
  have c0 : w.cell? ⟨g, 0, none⟩ = some (.int .u8 0) := h.cell 0
  have c1 : w.cell? ⟨g, 1, none⟩ = some (.int .u8 0) := h.cell 1
  have o0 : bits .or .u8 198 128 = 198 := by kernel_rfl
  have f0 := h.frozen 0
  have f1 := h.frozen 1
  have H := Lib.hid h
  clear h
  go_enter Tryz.func170, Tryz.ntmps170
  go_wp2_with fail
  refine wp_loop_rounds 2 ?_
  rw [rounds_succ]
  go_wp2_with fail
  rw [rounds_succ]
  go_wp2_with fail
  go_ret
  refine ⟨rfl, ?_, ?_⟩
  · exact ((H.out.set_ 0 (.int .u8 198)).set_ 1 (.int .u8 3))
  · intro B hB; exact (((Below.refl _ _).setCell (by simpa using hB) _).setCell (by simpa using hB) _)
theorem touv_454 (w : World) : Calls Tryz.prog 125 #[.int .u64 454] w (OutV [198, 3] w) := by
  have hmk := run_make_bytes 2 (by omega)
  have e1 : ((2 : Nat) : Int) = 2 := rfl
  have e2 : madeCells #[.int .u8 0] (2 * 1) = #[.int .u8 0, .int .u8 0] := by kernel_rfl
  rw [e1, e2] at hmk
  clear e1 e2
  go_enter Tryz.func125, Tryz.ntmps125
  go_wp2_with (first
    | (go_at_call 169; refine (usize_454 _).mono ?_; rintro e w' ⟨rfl, rfl⟩)
    | (go_at_call 170; refine (putu_454 _ _ 5 (Blk.new _ _ _)).mono ?_; rintro e w' ⟨rfl, hB, hb⟩))
  have H := Lib.hid hB
  have HB := Lib.hid (hb w.heap.size (Nat.le_refl _))
  clear hB hb hmk
  go_wp2_with fail
  go_ret
  exact ⟨w.heap.size, rfl, Nat.le_refl _, H.out, ((Below.refl _ w).alloc (Nat.le_refl _) _).trans HB.out⟩
theorem code_454 (w : World) : Calls Tryz.prog 109 #[.int .i64 454] w (OutV [198, 3] w) := by
  go_enter Tryz.func109, Tryz.ntmps109
  go_wp2_with (go_at_call 125; refine (touv_454 _).mono ?_; rintro e w' ⟨g, rfl, hg, hr, hb⟩)
  go_ret
  exact ⟨g, rfl, hg, hr, hb⟩
theorem len64_7367777 (w : World) : Calls Tryz.prog 50 #[.int .u64 7367777] w fun e w' => e = .returned (.int .i64 23) ∧ w = w' := by
  go_enter Tryz.func50, Tryz.ntmps50
  go_wp2_with fail
  go_ret
  exact ⟨by simp; try kernel_rfl, rfl⟩
theorem usize_7367777 (w : World) : Calls Tryz.prog 169 #[.int .u64 7367777] w fun e w' => e = .returned (.int .i64 4) ∧ w = w' := by
  go_enter Tryz.func169, Tryz.ntmps169
  go_wp2_with (go_at_call 50; refine (len64_7367777 _).mono ?_; rintro e w' ⟨rfl, rfl⟩)
  go_ret
  exact ⟨rfl, rfl⟩
theorem putu_7367777 (w : World) (g : Nat) (t : TypeId) (h : Blk w g t #[.int .u8 0, .int .u8 0, .int .u8 0, .int .u8 0]) : Calls Tryz.prog 170 #[.slice (some ⟨g, 0, none⟩) 4 4, .int .u64 7367777] w fun e w' => e = .returned (.int .i64 4) ∧ Blk w' g t #[.int .u8 225, .int .u8 216, .int .u8 193, .int .u8 3] ∧ ∀ B, B ≤ g → Below B w w' := by
  have c0 : w.cell? ⟨g, 0, none⟩ = some (.int .u8 0) := h.cell 0
  have c1 : w.cell? ⟨g, 1, none⟩ = some (.int .u8 0) := h.cell 1
  have c2 : w.cell? ⟨g, 2, none⟩ = some (.int .u8 0) := h.cell 2
  have c3 : w.cell? ⟨g, 3, none⟩ = some (.int .u8 0) := h.cell 3
  have o0 : bits .or .u8 97 128 = 225 := by kernel_rfl
  have o1 : bits .or .u8 216 128 = 216 := by kernel_rfl
  have o2 : bits .or .u8 193 128 = 193 := by kernel_rfl
  have f2 := h.frozen 2
  have f3 := h.frozen 3
  have f0 := h.frozen 0
  have f1 := h.frozen 1
  have H := Lib.hid h
  clear h
  go_enter Tryz.func170, Tryz.ntmps170
  go_wp2_with fail
  refine wp_loop_rounds 4 ?_
  rw [rounds_succ]
  go_wp2_with fail
  rw [rounds_succ]
  go_wp2_with fail
  rw [rounds_succ]
  go_wp2_with fail
  rw [rounds_succ]
  go_wp2_with fail
  go_ret
  refine ⟨rfl, ?_, ?_⟩
  · exact ((((H.out.set_ 0 (.int .u8 225)).set_ 1 (.int .u8 216)).set_ 2 (.int .u8 193)).set_ 3 (.int .u8 3))
  · intro B hB; exact (((((Below.refl _ _).setCell (by simpa using hB) _).setCell (by simpa using hB) _).setCell (by simpa using hB) _).setCell (by simpa using hB) _)
theorem touv_7367777 (w : World) : Calls Tryz.prog 125 #[.int .u64 7367777] w (OutV [225, 216, 193, 3] w) := by
  have hmk := run_make_bytes 4 (by omega)
  have e1 : ((4 : Nat) : Int) = 4 := rfl
  have e2 : madeCells #[.int .u8 0] (4 * 1) = #[.int .u8 0, .int .u8 0, .int .u8 0, .int .u8 0] := by kernel_rfl
  rw [e1, e2] at hmk
  clear e1 e2
  go_enter Tryz.func125, Tryz.ntmps125
  go_wp2_with (first
    | (go_at_call 169; refine (usize_7367777 _).mono ?_; rintro e w' ⟨rfl, rfl⟩)
    | (go_at_call 170; refine (putu_7367777 _ _ 5 (Blk.new _ _ _)).mono ?_; rintro e w' ⟨rfl, hB, hb⟩))
  have H := Lib.hid hB
  have HB := Lib.hid (hb w.heap.size (Nat.le_refl _))
  clear hB hb hmk
  go_wp2_with fail
  go_ret
  exact ⟨w.heap.size, rfl, Nat.le_refl _, H.out, ((Below.refl _ w).alloc (Nat.le_refl _) _).trans HB.out⟩
theorem code_7367777 (w : World) : Calls Tryz.prog 109 #[.int .i64 7367777] w (OutV [225, 216, 193, 3] w) := by
  go_enter Tryz.func109, Tryz.ntmps109
  go_wp2_with (go_at_call 125; refine (touv_7367777 _).mono ?_; rintro e w' ⟨g, rfl, hg, hr, hb⟩)
  go_ret
  exact ⟨g, rfl, hg, hr, hb⟩
theorem len64_478 (w : World) : Calls Tryz.prog 50 #[.int .u64 478] w fun e w' => e = .returned (.int .i64 9) ∧ w = w' := by
  go_enter Tryz.func50, Tryz.ntmps50
  go_wp2_with fail
  go_ret
  exact ⟨by simp; try kernel_rfl, rfl⟩
theorem usize_478 (w : World) : Calls Tryz.prog 169 #[.int .u64 478] w fun e w' => e = .returned (.int .i64 2) ∧ w = w' := by
  go_enter Tryz.func169, Tryz.ntmps169
  go_wp2_with (go_at_call 50; refine (len64_478 _).mono ?_; rintro e w' ⟨rfl, rfl⟩)
  go_ret
  exact ⟨rfl, rfl⟩
theorem putu_478 (w : World) (g : Nat) (t : TypeId) (h : Blk w g t #[.int .u8 0, .int .u8 0]) : Calls Tryz.prog 170 #[.slice (some ⟨g, 0, none⟩) 2 2, .int .u64 478] w fun e w' => e = .returned (.int .i64 2) ∧ Blk w' g t #[.int .u8 222, .int .u8 3] ∧ ∀ B, B ≤ g → Below B w w' := by
  have c0 : w.cell? ⟨g, 0, none⟩ = some (.int .u8 0) := h.cell 0
  have c1 : w.cell? ⟨g, 1, none⟩ = some (.int .u8 0) := h.cell 1
  have o0 : bits .or .u8 222 128 = 222 := by kernel_rfl
  have f0 := h.frozen 0
  have f1 := h.frozen 1
  have H := Lib.hid h
  clear h
  go_enter Tryz.func170, Tryz.ntmps170
  go_wp2_with fail
  refine wp_loop_rounds 2 ?_
  rw [rounds_succ]
  go_wp2_with fail
  rw [rounds_succ]
  go_wp2_with fail
  go_ret
  refine ⟨rfl, ?_, ?_⟩
  · exact ((H.out.set_ 0 (.int .u8 222)).set_ 1 (.int .u8 3))
  · intro B hB; exact (((Below.refl _ _).setCell (by simpa using hB) _).setCell (by simpa using hB) _)
theorem touv_478 (w : World) : Calls Tryz.prog 125 #[.int .u64 478] w (OutV [222, 3] w) := by
  have hmk := run_make_bytes 2 (by omega)
  have e1 : ((2 : Nat) : Int) = 2 := rfl
  have e2 : madeCells #[.int .u8 0] (2 * 1) = #[.int .u8 0, .int .u8 0] := by kernel_rfl
  rw [e1, e2] at hmk
  clear e1 e2
  go_enter Tryz.func125, Tryz.ntmps125
  go_wp2_with (first
    | (go_at_call 169; refine (usize_478 _).mono ?_; rintro e w' ⟨rfl, rfl⟩)
    | (go_at_call 170; refine (putu_478 _ _ 5 (Blk.new _ _ _)).mono ?_; rintro e w' ⟨rfl, hB, hb⟩))
  have H := Lib.hid hB
  have HB := Lib.hid (hb w.heap.size (Nat.le_refl _))
  clear hB hb hmk
  go_wp2_with fail
  go_ret
  exact ⟨w.heap.size, rfl, Nat.le_refl _, H.out, ((Below.refl _ w).alloc (Nat.le_refl _) _).trans HB.out⟩
theorem code_478 (w : World) : Calls Tryz.prog 109 #[.int .i64 478] w (OutV [222, 3] w) := by
  go_enter Tryz.func109, Tryz.ntmps109
  go_wp2_with (go_at_call 125; refine (touv_478 _).mono ?_; rintro e w' ⟨g, rfl, hg, hr, hb⟩)
  go_ret
  exact ⟨g, rfl, hg, hr, hb⟩
theorem len64_280 (w : World) : Calls Tryz.prog 50 #[.int .u64 280] w fun e w' => e = .returned (.int .i64 9) ∧ w = w' := by
  go_enter Tryz.func50, Tryz.ntmps50
  go_wp2_with fail
  go_ret
  exact ⟨by simp; try kernel_rfl, rfl⟩
theorem usize_280 (w : World) : Calls Tryz.prog 169 #[.int .u64 280] w fun e w' => e = .returned (.int .i64 2) ∧ w = w' := by
  go_enter Tryz.func169, Tryz.ntmps169
  go_wp2_with (go_at_call 50; refine (len64_280 _).mono ?_; rintro e w' ⟨rfl, rfl⟩)
  go_ret
  exact ⟨rfl, rfl⟩
theorem putu_280 (w : World) (g : Nat) (t : TypeId) (h : Blk w g t #[.int .u8 0, .int .u8 0]) : Calls Tryz.prog 170 #[.slice (some ⟨g, 0, none⟩) 2 2, .int .u64 280] w fun e w' => e = .returned (.int .i64 2) ∧ Blk w' g t #[.int .u8 152, .int .u8 2] ∧ ∀ B, B ≤ g → Below B w w' := by
  have c0 : w.cell? ⟨g, 0, none⟩ = some (.int .u8 0) := h.cell 0
  have c1 : w.cell? ⟨g, 1, none⟩ = some (.int .u8 0) := h.cell 1
  have o0 : bits .or .u8 24 128 = 152 := by kernel_rfl
  have f0 := h.frozen 0
  have f1 := h.frozen 1
  have H := Lib.hid h
  clear h
  go_enter Tryz.func170, Tryz.ntmps170
  go_wp2_with fail
  refine wp_loop_rounds 2 ?_
  rw [rounds_succ]
  go_wp2_with fail
  rw [rounds_succ]
  go_wp2_with fail
  go_ret
  refine ⟨rfl, ?_, ?_⟩
  · exact ((H.out.set_ 0 (.int .u8 152)).set_ 1 (.int .u8 2))
  · intro B hB; exact (((Below.refl _ _).setCell (by simpa using hB) _).setCell (by simpa using hB) _)
theorem touv_280 (w : World) : Calls Tryz.prog 125 #[.int .u64 280] w (OutV [152, 2] w) := by
  have hmk := run_make_bytes 2 (by omega)
  have e1 : ((2 : Nat) : Int) = 2 := rfl
  have e2 : madeCells #[.int .u8 0] (2 * 1) = #[.int .u8 0, .int .u8 0] := by kernel_rfl
  rw [e1, e2] at hmk
  clear e1 e2
  go_enter Tryz.func125, Tryz.ntmps125
  go_wp2_with (first
    | (go_at_call 169; refine (usize_280 _).mono ?_; rintro e w' ⟨rfl, rfl⟩)
    | (go_at_call 170; refine (putu_280 _ _ 5 (Blk.new _ _ _)).mono ?_; rintro e w' ⟨rfl, hB, hb⟩))
  have H := Lib.hid hB
  have HB := Lib.hid (hb w.heap.size (Nat.le_refl _))
  clear hB hb hmk
  go_wp2_with fail
  go_ret
  exact ⟨w.heap.size, rfl, Nat.le_refl _, H.out, ((Below.refl _ w).alloc (Nat.le_refl _) _).trans HB.out⟩
theorem code_280 (w : World) : Calls Tryz.prog 109 #[.int .i64 280] w (OutV [152, 2] w) := by
  go_enter Tryz.func109, Tryz.ntmps109
  go_wp2_with (go_at_call 125; refine (touv_280 _).mono ?_; rintro e w' ⟨g, rfl, hg, hr, hb⟩)
  go_ret
  exact ⟨g, rfl, hg, hr, hb⟩
theorem len64_281 (w : World) : Calls Tryz.prog 50 #[.int .u64 281] w fun e w' => e = .returned (.int .i64 9) ∧ w = w' := by
  go_enter Tryz.func50, Tryz.ntmps50
  go_wp2_with fail
  go_ret
  exact ⟨by simp; try kernel_rfl, rfl⟩
theorem usize_281 (w : World) : Calls Tryz.prog 169 #[.int .u64 281] w fun e w' => e = .returned (.int .i64 2) ∧ w = w' := by
  go_enter Tryz.func169, Tryz.ntmps169
  go_wp2_with (go_at_call 50; refine (len64_281 _).mono ?_; rintro e w' ⟨rfl, rfl⟩)
  go_ret
  exact ⟨rfl, rfl⟩
theorem putu_281 (w : World) (g : Nat) (t : TypeId) (h : Blk w g t #[.int .u8 0, .int .u8 0]) : Calls Tryz.prog 170 #[.slice (some ⟨g, 0, none⟩) 2 2, .int .u64 281] w fun e w' => e = .returned (.int .i64 2) ∧ Blk w' g t #[.int .u8 153, .int .u8 2] ∧ ∀ B, B ≤ g → Below B w w' := by
  have c0 : w.cell? ⟨g, 0, none⟩ = some (.int .u8 0) := h.cell 0
  have c1 : w.cell? ⟨g, 1, none⟩ = some (.int .u8 0) := h.cell 1
  have o0 : bits .or .u8 25 128 = 153 := by kernel_rfl
  have f0 := h.frozen 0
  have f1 := h.frozen 1
  have H := Lib.hid h
  clear h
  go_enter Tryz.func170, Tryz.ntmps170
  go_wp2_with fail
  refine wp_loop_rounds 2 ?_
  rw [rounds_succ]
  go_wp2_with fail
  rw [rounds_succ]
  go_wp2_with fail
  go_ret
  refine ⟨rfl, ?_, ?_⟩
  · exact ((H.out.set_ 0 (.int .u8 153)).set_ 1 (.int .u8 2))
  · intro B hB; exact (((Below.refl _ _).setCell (by simpa using hB) _).setCell (by simpa using hB) _)
theorem touv_281 (w : World) : Calls Tryz.prog 125 #[.int .u64 281] w (OutV [153, 2] w) := by
  have hmk := run_make_bytes 2 (by omega)
  have e1 : ((2 : Nat) : Int) = 2 := rfl
  have e2 : madeCells #[.int .u8 0] (2 * 1) = #[.int .u8 0, .int .u8 0] := by kernel_rfl
  rw [e1, e2] at hmk
  clear e1 e2
  go_enter Tryz.func125, Tryz.ntmps125
  go_wp2_with (first
    | (go_at_call 169; refine (usize_281 _).mono ?_; rintro e w' ⟨rfl, rfl⟩)
    | (go_at_call 170; refine (putu_281 _ _ 5 (Blk.new _ _ _)).mono ?_; rintro e w' ⟨rfl, hB, hb⟩))
  have H := Lib.hid hB
  have HB := Lib.hid (hb w.heap.size (Nat.le_refl _))
  clear hB hb hmk
  go_wp2_with fail
  go_ret
  exact ⟨w.heap.size, rfl, Nat.le_refl _, H.out, ((Below.refl _ w).alloc (Nat.le_refl _) _).trans HB.out⟩
theorem code_281 (w : World) : Calls Tryz.prog 109 #[.int .i64 281] w (OutV [153, 2] w) := by
  go_enter Tryz.func109, Tryz.ntmps109
  go_wp2_with (go_at_call 125; refine (touv_281 _).mono ?_; rintro e w' ⟨g, rfl, hg, hr, hb⟩)
  go_ret
  exact ⟨g, rfl, hg, hr, hb⟩
theorem len64_777 (w : World) : Calls Tryz.prog 50 #[.int .u64 777] w fun e w' => e = .returned (.int .i64 10) ∧ w = w' := by
  go_enter Tryz.func50, Tryz.ntmps50
  go_wp2_with fail
  go_ret
  exact ⟨by simp; try kernel_rfl, rfl⟩
theorem usize_777 (w : World) : Calls Tryz.prog 169 #[.int .u64 777] w fun e w' => e = .returned (.int .i64 2) ∧ w = w' := by
  go_enter Tryz.func169, Tryz.ntmps169
  go_wp2_with (go_at_call 50; refine (len64_777 _).mono ?_; rintro e w' ⟨rfl, rfl⟩)
  go_ret
  exact ⟨rfl, rfl⟩
theorem putu_777 (w : World) (g : Nat) (t : TypeId) (h : Blk w g t #[.int .u8 0, .int .u8 0]) : Calls Tryz.prog 170 #[.slice (some ⟨g, 0, none⟩) 2 2, .int .u64 777] w fun e w' => e = .returned (.int .i64 2) ∧ Blk w' g t #[.int .u8 137, .int .u8 6] ∧ ∀ B, B ≤ g → Below B w w' := by
  have c0 : w.cell? ⟨g, 0, none⟩ = some (.int .u8 0) := h.cell 0
  have c1 : w.cell? ⟨g, 1, none⟩ = some (.int .u8 0) := h.cell 1
  have o0 : bits .or .u8 9 128 = 137 := by kernel_rfl
  have f0 := h.frozen 0
  have f1 := h.frozen 1
  have H := Lib.hid h
  clear h
  go_enter Tryz.func170, Tryz.ntmps170
  go_wp2_with fail
  refine wp_loop_rounds 2 ?_
  rw [rounds_succ]
  go_wp2_with fail
  rw [rounds_succ]
  go_wp2_with fail
  go_ret
  refine ⟨rfl, ?_, ?_⟩
  · exact ((H.out.set_ 0 (.int .u8 137)).set_ 1 (.int .u8 6))
  · intro B hB; exact (((Below.refl _ _).setCell (by simpa using hB) _).setCell (by simpa using hB) _)
theorem touv_777 (w : World) : Calls Tryz.prog 125 #[.int .u64 777] w (OutV [137, 6] w) := by
  have hmk := run_make_bytes 2 (by omega)
  have e1 : ((2 : Nat) : Int) = 2 := rfl
  have e2 : madeCells #[.int .u8 0] (2 * 1) = #[.int .u8 0, .int .u8 0] := by kernel_rfl
  rw [e1, e2] at hmk
  clear e1 e2
  go_enter Tryz.func125, Tryz.ntmps125
  go_wp2_with (first
    | (go_at_call 169; refine (usize_777 _).mono ?_; rintro e w' ⟨rfl, rfl⟩)
    | (go_at_call 170; refine (putu_777 _ _ 5 (Blk.new _ _ _)).mono ?_; rintro e w' ⟨rfl, hB, hb⟩))
  have H := Lib.hid hB
  have HB := Lib.hid (hb w.heap.size (Nat.le_refl _))
  clear hB hb hmk
  go_wp2_with fail
  go_ret
  exact ⟨w.heap.size, rfl, Nat.le_refl _, H.out, ((Below.refl _ w).alloc (Nat.le_refl _) _).trans HB.out⟩
theorem code_777 (w : World) : Calls Tryz.prog 109 #[.int .i64 777] w (OutV [137, 6] w) := by
  go_enter Tryz.func109, Tryz.ntmps109
  go_wp2_with (go_at_call 125; refine (touv_777 _).mono ?_; rintro e w' ⟨g, rfl, hg, hr, hb⟩)
  go_ret
  exact ⟨g, rfl, hg, hr, hb⟩
end Go.Proofs.YtghddiboggdhcaaGreatDoor
