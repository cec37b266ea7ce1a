/- Varints as the package writes them, at the codes of more protocols. -/
import Derived.Test.YtghddiboggdhcaaGreatDoorPb
set_option maxRecDepth 100000
set_option maxHeartbeats 1000000
namespace Go.Proofs.YtghddiboggdhcaaGreatDoor
open Go.RowKit
theorem len64_53 (w : World) : Calls Tryz.prog 50 #[.int .u64 53] w fun e w' => e = .returned (.int .i64 6) ∧ w = w' := by
  go_enter Tryz.func50, Tryz.ntmps50
  go_wp2_with fail
  go_ret
  exact ⟨by simp; try kernel_rfl, rfl⟩
theorem usize_53 (w : World) : Calls Tryz.prog 169 #[.int .u64 53] w fun e w' => e = .returned (.int .i64 1) ∧ w = w' := by
  go_enter Tryz.func169, Tryz.ntmps169
  go_wp2_with (go_at_call 50; refine (len64_53 _).mono ?_; rintro e w' ⟨rfl, rfl⟩)
  go_ret
  exact ⟨rfl, rfl⟩
theorem putu_53 (w : World) (g : Nat) (t : TypeId) (h : Blk w g t #[.int .u8 0]) : Calls Tryz.prog 170 #[.slice (some ⟨g, 0, none⟩) 1 1, .int .u64 53] w fun e w' => e = .returned (.int .i64 1) ∧ Blk w' g t #[.int .u8 53] ∧ ∀ B, B ≤ g → Below B w w' := by
  have c0 : w.cell? ⟨g, 0, none⟩ = some (.int .u8 0) := h.cell 0
  have f0 := h.frozen 0
  have f1 := h.frozen 1
  have H := Lib.hid h
  clear h
  go_enter Tryz.func170, Tryz.ntmps170
  go_wp2_with fail
  refine wp_loop_rounds 1 ?_
  rw [rounds_succ]
  go_wp2_with fail
  go_ret
  refine ⟨rfl, ?_, ?_⟩
  · exact (H.out.set_ 0 (.int .u8 53))
  · intro B hB; exact ((Below.refl _ _).setCell (by simpa using hB) _)
theorem touv_53 (w : World) : Calls Tryz.prog 125 #[.int .u64 53] w (OutV [53] w) := by
  have hmk := run_make_bytes 1 (by omega)
  have e1 : ((1 : Nat) : Int) = 1 := rfl
  have e2 : madeCells #[.int .u8 0] (1 * 1) = #[.int .u8 0] := by kernel_rfl
  rw [e1, e2] at hmk
  clear e1 e2
  go_enter Tryz.func125, Tryz.ntmps125
  go_wp2_with (first
    | (go_at_call 169; refine (usize_53 _).mono ?_; rintro e w' ⟨rfl, rfl⟩)
    | (go_at_call 170; refine (putu_53 _ _ 5 (Blk.new _ _ _)).mono ?_; rintro e w' ⟨rfl, hB, hb⟩))
  have H := Lib.hid hB
  have HB := Lib.hid (hb w.heap.size (Nat.le_refl _))
  clear hB hb hmk
  go_wp2_with fail
  go_ret
  exact ⟨w.heap.size, rfl, Nat.le_refl _, H.out, ((Below.refl _ w).alloc (Nat.le_refl _) _).trans HB.out⟩
theorem code_53 (w : World) : Calls Tryz.prog 109 #[.int .i64 53] w (OutV [53] w) := by
  go_enter Tryz.func109, Tryz.ntmps109
  go_wp2_with (go_at_call 125; refine (touv_53 _).mono ?_; rintro e w' ⟨g, rfl, hg, hr, hb⟩)
  go_ret
  exact ⟨g, rfl, hg, hr, hb⟩
theorem len64_54 (w : World) : Calls Tryz.prog 50 #[.int .u64 54] w fun e w' => e = .returned (.int .i64 6) ∧ w = w' := by
  go_enter Tryz.func50, Tryz.ntmps50
  go_wp2_with fail
  go_ret
  exact ⟨by simp; try kernel_rfl, rfl⟩
theorem usize_54 (w : World) : Calls Tryz.prog 169 #[.int .u64 54] w fun e w' => e = .returned (.int .i64 1) ∧ w = w' := by
  go_enter Tryz.func169, Tryz.ntmps169
  go_wp2_with (go_at_call 50; refine (len64_54 _).mono ?_; rintro e w' ⟨rfl, rfl⟩)
  go_ret
  exact ⟨rfl, rfl⟩
theorem putu_54 (w : World) (g : Nat) (t : TypeId) (h : Blk w g t #[.int .u8 0]) : Calls Tryz.prog 170 #[.slice (some ⟨g, 0, none⟩) 1 1, .int .u64 54] w fun e w' => e = .returned (.int .i64 1) ∧ Blk w' g t #[.int .u8 54] ∧ ∀ B, B ≤ g → Below B w w' := by
  have c0 : w.cell? ⟨g, 0, none⟩ = some (.int .u8 0) := h.cell 0
  have f0 := h.frozen 0
  have f1 := h.frozen 1
  have H := Lib.hid h
  clear h
  go_enter Tryz.func170, Tryz.ntmps170
  go_wp2_with fail
  refine wp_loop_rounds 1 ?_
  rw [rounds_succ]
  go_wp2_with fail
  go_ret
  refine ⟨rfl, ?_, ?_⟩
  · exact (H.out.set_ 0 (.int .u8 54))
  · intro B hB; exact ((Below.refl _ _).setCell (by simpa using hB) _)
theorem touv_54 (w : World) : Calls Tryz.prog 125 #[.int .u64 54] w (OutV [54] w) := by
  have hmk := run_make_bytes 1 (by omega)
  have e1 : ((1 : Nat) : Int) = 1 := rfl
  have e2 : madeCells #[.int .u8 0] (1 * 1) = #[.int .u8 0] := by kernel_rfl
  rw [e1, e2] at hmk
  clear e1 e2
  go_enter Tryz.func125, Tryz.ntmps125
  go_wp2_with (first
    | (go_at_call 169; refine (usize_54 _).mono ?_; rintro e w' ⟨rfl, rfl⟩)
    | (go_at_call 170; refine (putu_54 _ _ 5 (Blk.new _ _ _)).mono ?_; rintro e w' ⟨rfl, hB, hb⟩))
  have H := Lib.hid hB
  have HB := Lib.hid (hb w.heap.size (Nat.le_refl _))
  clear hB hb hmk
  go_wp2_with fail
  go_ret
  exact ⟨w.heap.size, rfl, Nat.le_refl _, H.out, ((Below.refl _ w).alloc (Nat.le_refl _) _).trans HB.out⟩
theorem code_54 (w : World) : Calls Tryz.prog 109 #[.int .i64 54] w (OutV [54] w) := by
  go_enter Tryz.func109, Tryz.ntmps109
  go_wp2_with (go_at_call 125; refine (touv_54 _).mono ?_; rintro e w' ⟨g, rfl, hg, hr, hb⟩)
  go_ret
  exact ⟨g, rfl, hg, hr, hb⟩
theorem len64_55 (w : World) : Calls Tryz.prog 50 #[.int .u64 55] w fun e w' => e = .returned (.int .i64 6) ∧ w = w' := by
  go_enter Tryz.func50, Tryz.ntmps50
  go_wp2_with fail
  go_ret
  exact ⟨by simp; try kernel_rfl, rfl⟩
theorem usize_55 (w : World) : Calls Tryz.prog 169 #[.int .u64 55] w fun e w' => e = .returned (.int .i64 1) ∧ w = w' := by
  go_enter Tryz.func169, Tryz.ntmps169
  go_wp2_with (go_at_call 50; refine (len64_55 _).mono ?_; rintro e w' ⟨rfl, rfl⟩)
  go_ret
  exact ⟨rfl, rfl⟩
theorem putu_55 (w : World) (g : Nat) (t : TypeId) (h : Blk w g t #[.int .u8 0]) : Calls Tryz.prog 170 #[.slice (some ⟨g, 0, none⟩) 1 1, .int .u64 55] w fun e w' => e = .returned (.int .i64 1) ∧ Blk w' g t #[.int .u8 55] ∧ ∀ B, B ≤ g → Below B w w' := by
  have c0 : w.cell? ⟨g, 0, none⟩ = some (.int .u8 0) := h.cell 0
  have f0 := h.frozen 0
  have f1 := h.frozen 1
  have H := Lib.hid h
  clear h
  go_enter Tryz.func170, Tryz.ntmps170
  go_wp2_with fail
  refine wp_loop_rounds 1 ?_
  rw [rounds_succ]
  go_wp2_with fail
  go_ret
  refine ⟨rfl, ?_, ?_⟩
  · exact (H.out.set_ 0 (.int .u8 55))
  · intro B hB; exact ((Below.refl _ _).setCell (by simpa using hB) _)
theorem touv_55 (w : World) : Calls Tryz.prog 125 #[.int .u64 55] w (OutV [55] w) := by
  have hmk := run_make_bytes 1 (by omega)
  have e1 : ((1 : Nat) : Int) = 1 := rfl
  have e2 : madeCells #[.int .u8 0] (1 * 1) = #[.int .u8 0] := by kernel_rfl
  rw [e1, e2] at hmk
  clear e1 e2
  go_enter Tryz.func125, Tryz.ntmps125
  go_wp2_with (first
    | (go_at_call 169; refine (usize_55 _).mono ?_; rintro e w' ⟨rfl, rfl⟩)
    | (go_at_call 170; refine (putu_55 _ _ 5 (Blk.new _ _ _)).mono ?_; rintro e w' ⟨rfl, hB, hb⟩))
  have H := Lib.hid hB
  have HB := Lib.hid (hb w.heap.size (Nat.le_refl _))
  clear hB hb hmk
  go_wp2_with fail
  go_ret
  exact ⟨w.heap.size, rfl, Nat.le_refl _, H.out, ((Below.refl _ w).alloc (Nat.le_refl _) _).trans HB.out⟩
theorem code_55 (w : World) : Calls Tryz.prog 109 #[.int .i64 55] w (OutV [55] w) := by
  go_enter Tryz.func109, Tryz.ntmps109
  go_wp2_with (go_at_call 125; refine (touv_55 _).mono ?_; rintro e w' ⟨g, rfl, hg, hr, hb⟩)
  go_ret
  exact ⟨g, rfl, hg, hr, hb⟩
theorem len64_56 (w : World) : Calls Tryz.prog 50 #[.int .u64 56] w fun e w' => e = .returned (.int .i64 6) ∧ w = w' := by
  go_enter Tryz.func50, Tryz.ntmps50
  go_wp2_with fail
  go_ret
  exact ⟨by simp; try kernel_rfl, rfl⟩
theorem usize_56 (w : World) : Calls Tryz.prog 169 #[.int .u64 56] w fun e w' => e = .returned (.int .i64 1) ∧ w = w' := by
  go_enter Tryz.func169, Tryz.ntmps169
  go_wp2_with (go_at_call 50; refine (len64_56 _).mono ?_; rintro e w' ⟨rfl, rfl⟩)
  go_ret
  exact ⟨rfl, rfl⟩
theorem putu_56 (w : World) (g : Nat) (t : TypeId) (h : Blk w g t #[.int .u8 0]) : Calls Tryz.prog 170 #[.slice (some ⟨g, 0, none⟩) 1 1, .int .u64 56] w fun e w' => e = .returned (.int .i64 1) ∧ Blk w' g t #[.int .u8 56] ∧ ∀ B, B ≤ g → Below B w w' := by
  have c0 : w.cell? ⟨g, 0, none⟩ = some (.int .u8 0) := h.cell 0
  have f0 := h.frozen 0
  have f1 := h.frozen 1
  have H := Lib.hid h
  clear h
  go_enter Tryz.func170, Tryz.ntmps170
  go_wp2_with fail
  refine wp_loop_rounds 1 ?_
  rw [rounds_succ]
  go_wp2_with fail
  go_ret
  refine ⟨rfl, ?_, ?_⟩
  · exact (H.out.set_ 0 (.int .u8 56))
  · intro B hB; exact ((Below.refl _ _).setCell (by simpa using hB) _)
theorem touv_56 (w : World) : Calls Tryz.prog 125 #[.int .u64 56] w (OutV [56] w) := by
  have hmk := run_make_bytes 1 (by omega)
  have e1 : ((1 : Nat) : Int) = 1 := rfl
  have e2 : madeCells #[.int .u8 0] (1 * 1) = #[.int .u8 0] := by kernel_rfl
  rw [e1, e2] at hmk
  clear e1 e2
  go_enter Tryz.func125, Tryz.ntmps125
  go_wp2_with (first
    | (go_at_call 169; refine (usize_56 _).mono ?_; rintro e w' ⟨rfl, rfl⟩)
    | (go_at_call 170; refine (putu_56 _ _ 5 (Blk.new _ _ _)).mono ?_; rintro e w' ⟨rfl, hB, hb⟩))
  have H := Lib.hid hB
  have HB := Lib.hid (hb w.heap.size (Nat.le_refl _))
  clear hB hb hmk
  go_wp2_with fail
  go_ret
  exact ⟨w.heap.size, rfl, Nat.le_refl _, H.out, ((Below.refl _ w).alloc (Nat.le_refl _) _).trans HB.out⟩
theorem code_56 (w : World) : Calls Tryz.prog 109 #[.int .i64 56] w (OutV [56] w) := by
  go_enter Tryz.func109, Tryz.ntmps109
  go_wp2_with (go_at_call 125; refine (touv_56 _).mono ?_; rintro e w' ⟨g, rfl, hg, hr, hb⟩)
  go_ret
  exact ⟨g, rfl, hg, hr, hb⟩
theorem len64_33 (w : World) : Calls Tryz.prog 50 #[.int .u64 33] w fun e w' => e = .returned (.int .i64 6) ∧ w = w' := by
  go_enter Tryz.func50, Tryz.ntmps50
  go_wp2_with fail
  go_ret
  exact ⟨by simp; try kernel_rfl, rfl⟩
theorem usize_33 (w : World) : Calls Tryz.prog 169 #[.int .u64 33] w fun e w' => e = .returned (.int .i64 1) ∧ w = w' := by
  go_enter Tryz.func169, Tryz.ntmps169
  go_wp2_with (go_at_call 50; refine (len64_33 _).mono ?_; rintro e w' ⟨rfl, rfl⟩)
  go_ret
  exact ⟨rfl, rfl⟩
theorem putu_33 (w : World) (g : Nat) (t : TypeId) (h : Blk w g t #[.int .u8 0]) : Calls Tryz.prog 170 #[.slice (some ⟨g, 0, none⟩) 1 1, .int .u64 33] w fun e w' => e = .returned (.int .i64 1) ∧ Blk w' g t #[.int .u8 33] ∧ ∀ B, B ≤ g → Below B w w' := by
  have c0 : w.cell? ⟨g, 0, none⟩ = some (.int .u8 0) := h.cell 0
  have f0 := h.frozen 0
  have f1 := h.frozen 1
  have H := Lib.hid h
  clear h
  go_enter Tryz.func170, Tryz.ntmps170
  go_wp2_with fail
  refine wp_loop_rounds 1 ?_
  rw [rounds_succ]
  go_wp2_with fail
  go_ret
  refine ⟨rfl, ?_, ?_⟩
  · exact (H.out.set_ 0 (.int .u8 33))
  · intro B hB; exact ((Below.refl _ _).setCell (by simpa using hB) _)
theorem touv_33 (w : World) : Calls Tryz.prog 125 #[.int .u64 33] w (OutV [33] w) := by
  have hmk := run_make_bytes 1 (by omega)
  have e1 : ((1 : Nat) : Int) = 1 := rfl
  have e2 : madeCells #[.int .u8 0] (1 * 1) = #[.int .u8 0] := by kernel_rfl
  rw [e1, e2] at hmk
  clear e1 e2
  go_enter Tryz.func125, Tryz.ntmps125
  go_wp2_with (first
    | (go_at_call 169; refine (usize_33 _).mono ?_; rintro e w' ⟨rfl, rfl⟩)
    | (go_at_call 170; refine (putu_33 _ _ 5 (Blk.new _ _ _)).mono ?_; rintro e w' ⟨rfl, hB, hb⟩))
  have H := Lib.hid hB
  have HB := Lib.hid (hb w.heap.size (Nat.le_refl _))
  clear hB hb hmk
  go_wp2_with fail
  go_ret
  exact ⟨w.heap.size, rfl, Nat.le_refl _, H.out, ((Below.refl _ w).alloc (Nat.le_refl _) _).trans HB.out⟩
theorem code_33 (w : World) : Calls Tryz.prog 109 #[.int .i64 33] w (OutV [33] w) := by
  go_enter Tryz.func109, Tryz.ntmps109
  go_wp2_with (go_at_call 125; refine (touv_33 _).mono ?_; rintro e w' ⟨g, rfl, hg, hr, hb⟩)
  go_ret
  exact ⟨g, rfl, hg, hr, hb⟩
theorem len64_43 (w : World) : Calls Tryz.prog 50 #[.int .u64 43] w fun e w' => e = .returned (.int .i64 6) ∧ w = w' := by
  go_enter Tryz.func50, Tryz.ntmps50
  go_wp2_with fail
  go_ret
  exact ⟨by simp; try kernel_rfl, rfl⟩
theorem usize_43 (w : World) : Calls Tryz.prog 169 #[.int .u64 43] w fun e w' => e = .returned (.int .i64 1) ∧ w = w' := by
  go_enter Tryz.func169, Tryz.ntmps169
  go_wp2_with (go_at_call 50; refine (len64_43 _).mono ?_; rintro e w' ⟨rfl, rfl⟩)
  go_ret
  exact ⟨rfl, rfl⟩
theorem putu_43 (w : World) (g : Nat) (t : TypeId) (h : Blk w g t #[.int .u8 0]) : Calls Tryz.prog 170 #[.slice (some ⟨g, 0, none⟩) 1 1, .int .u64 43] w fun e w' => e = .returned (.int .i64 1) ∧ Blk w' g t #[.int .u8 43] ∧ ∀ B, B ≤ g → Below B w w' := by
  have c0 : w.cell? ⟨g, 0, none⟩ = some (.int .u8 0) := h.cell 0
  have f0 := h.frozen 0
  have f1 := h.frozen 1
  have H := Lib.hid h
  clear h
  go_enter Tryz.func170, Tryz.ntmps170
  go_wp2_with fail
  refine wp_loop_rounds 1 ?_
  rw [rounds_succ]
  go_wp2_with fail
  go_ret
  refine ⟨rfl, ?_, ?_⟩
  · exact (H.out.set_ 0 (.int .u8 43))
  · intro B hB; exact ((Below.refl _ _).setCell (by simpa using hB) _)
theorem touv_43 (w : World) : Calls Tryz.prog 125 #[.int .u64 43] w (OutV [43] w) := by
  have hmk := run_make_bytes 1 (by omega)
  have e1 : ((1 : Nat) : Int) = 1 := rfl
  have e2 : madeCells #[.int .u8 0] (1 * 1) = #[.int .u8 0] := by kernel_rfl
  rw [e1, e2] at hmk
  clear e1 e2
  go_enter Tryz.func125, Tryz.ntmps125
  go_wp2_with (first
    | (go_at_call 169; refine (usize_43 _).mono ?_; rintro e w' ⟨rfl, rfl⟩)
    | (go_at_call 170; refine (putu_43 _ _ 5 (Blk.new _ _ _)).mono ?_; rintro e w' ⟨rfl, hB, hb⟩))
  have H := Lib.hid hB
  have HB := Lib.hid (hb w.heap.size (Nat.le_refl _))
  clear hB hb hmk
  go_wp2_with fail
  go_ret
  exact ⟨w.heap.size, rfl, Nat.le_refl _, H.out, ((Below.refl _ w).alloc (Nat.le_refl _) _).trans HB.out⟩
theorem code_43 (w : World) : Calls Tryz.prog 109 #[.int .i64 43] w (OutV [43] w) := by
  go_enter Tryz.func109, Tryz.ntmps109
  go_wp2_with (go_at_call 125; refine (touv_43 _).mono ?_; rintro e w' ⟨g, rfl, hg, hr, hb⟩)
  go_ret
  exact ⟨g, rfl, hg, hr, hb⟩
theorem len64_42 (w : World) : Calls Tryz.prog 50 #[.int .u64 42] w fun e w' => e = .returned (.int .i64 6) ∧ w = w' := by
  go_enter Tryz.func50, Tryz.ntmps50
  go_wp2_with fail
  go_ret
  exact ⟨by simp; try kernel_rfl, rfl⟩
theorem usize_42 (w : World) : Calls Tryz.prog 169 #[.int .u64 42] w fun e w' => e = .returned (.int .i64 1) ∧ w = w' := by
  go_enter Tryz.func169, Tryz.ntmps169
  go_wp2_with (go_at_call 50; refine (len64_42 _).mono ?_; rintro e w' ⟨rfl, rfl⟩)
  go_ret
  exact ⟨rfl, rfl⟩
theorem putu_42 (w : World) (g : Nat) (t : TypeId) (h : Blk w g t #[.int .u8 0]) : Calls Tryz.prog 170 #[.slice (some ⟨g, 0, none⟩) 1 1, .int .u64 42] w fun e w' => e = .returned (.int .i64 1) ∧ Blk w' g t #[.int .u8 42] ∧ ∀ B, B ≤ g → Below B w w' := by
  have c0 : w.cell? ⟨g, 0, none⟩ = some (.int .u8 0) := h.cell 0
  have f0 := h.frozen 0
  have f1 := h.frozen 1
  have H := Lib.hid h
  clear h
  go_enter Tryz.func170, Tryz.ntmps170
  go_wp2_with fail
  refine wp_loop_rounds 1 ?_
  rw [rounds_succ]
  go_wp2_with fail
  go_ret
  refine ⟨rfl, ?_, ?_⟩
  · exact (H.out.set_ 0 (.int .u8 42))
  · intro B hB; exact ((Below.refl _ _).setCell (by simpa using hB) _)
theorem touv_42 (w : World) : Calls Tryz.prog 125 #[.int .u64 42] w (OutV [42] w) := by
  have hmk := run_make_bytes 1 (by omega)
  have e1 : ((1 : Nat) : Int) = 1 := rfl
  have e2 : madeCells #[.int .u8 0] (1 * 1) = #[.int .u8 0] := by kernel_rfl
  rw [e1, e2] at hmk
  clear e1 e2
  go_enter Tryz.func125, Tryz.ntmps125
  go_wp2_with (first
    | (go_at_call 169; refine (usize_42 _).mono ?_; rintro e w' ⟨rfl, rfl⟩)
    | (go_at_call 170; refine (putu_42 _ _ 5 (Blk.new _ _ _)).mono ?_; rintro e w' ⟨rfl, hB, hb⟩))
  have H := Lib.hid hB
  have HB := Lib.hid (hb w.heap.size (Nat.le_refl _))
  clear hB hb hmk
  go_wp2_with fail
  go_ret
  exact ⟨w.heap.size, rfl, Nat.le_refl _, H.out, ((Below.refl _ w).alloc (Nat.le_refl _) _).trans HB.out⟩
theorem code_42 (w : World) : Calls Tryz.prog 109 #[.int .i64 42] w (OutV [42] w) := by
  go_enter Tryz.func109, Tryz.ntmps109
  go_wp2_with (go_at_call 125; refine (touv_42 _).mono ?_; rintro e w' ⟨g, rfl, hg, hr, hb⟩)
  go_ret
  exact ⟨g, rfl, hg, hr, hb⟩
theorem len64_132 (w : World) : Calls Tryz.prog 50 #[.int .u64 132] w fun e w' => e = .returned (.int .i64 8) ∧ w = w' := by
  go_enter Tryz.func50, Tryz.ntmps50
  go_wp2_with fail
  go_ret
  exact ⟨by simp; try kernel_rfl, rfl⟩
theorem usize_132 (w : World) : Calls Tryz.prog 169 #[.int .u64 132] w fun e w' => e = .returned (.int .i64 2) ∧ w = w' := by
  go_enter Tryz.func169, Tryz.ntmps169
  go_wp2_with (go_at_call 50; refine (len64_132 _).mono ?_; rintro e w' ⟨rfl, rfl⟩)
  go_ret
  exact ⟨rfl, rfl⟩
theorem putu_132 (w : World) (g : Nat) (t : TypeId) (h : Blk w g t #[.int .u8 0, .int .u8 0]) : Calls Tryz.prog 170 #[.slice (some ⟨g, 0, none⟩) 2 2, .int .u64 132] w fun e w' => e = .returned (.int .i64 2) ∧ Blk w' g t #[.int .u8 132, .int .u8 1] ∧ ∀ B, B ≤ g → Below B w w' := by
  have c0 : w.cell? ⟨g, 0, none⟩ = some (.int .u8 0) := h.cell 0
  have c1 : w.cell? ⟨g, 1, none⟩ = some (.int .u8 0) := h.cell 1
  have o0 : bits .or .u8 132 128 = 132 := by kernel_rfl
  have f0 := h.frozen 0
  have f1 := h.frozen 1
  have H := Lib.hid h
  clear h
  go_enter Tryz.func170, Tryz.ntmps170
  go_wp2_with fail
  refine wp_loop_rounds 2 ?_
  rw [rounds_succ]
  go_wp2_with fail
  rw [rounds_succ]
  go_wp2_with fail
  go_ret
  refine ⟨rfl, ?_, ?_⟩
  · exact ((H.out.set_ 0 (.int .u8 132)).set_ 1 (.int .u8 1))
  · intro B hB; exact (((Below.refl _ _).setCell (by simpa using hB) _).setCell (by simpa using hB) _)
theorem touv_132 (w : World) : Calls Tryz.prog 125 #[.int .u64 132] w (OutV [132, 1] w) := by
  have hmk := run_make_bytes 2 (by omega)
  have e1 : ((2 : Nat) : Int) = 2 := rfl
  have e2 : madeCells #[.int .u8 0] (2 * 1) = #[.int .u8 0, .int .u8 0] := by kernel_rfl
  rw [e1, e2] at hmk
  clear e1 e2
  go_enter Tryz.func125, Tryz.ntmps125
  go_wp2_with (first
    | (go_at_call 169; refine (usize_132 _).mono ?_; rintro e w' ⟨rfl, rfl⟩)
    | (go_at_call 170; refine (putu_132 _ _ 5 (Blk.new _ _ _)).mono ?_; rintro e w' ⟨rfl, hB, hb⟩))
  have H := Lib.hid hB
  have HB := Lib.hid (hb w.heap.size (Nat.le_refl _))
  clear hB hb hmk
  go_wp2_with fail
  go_ret
  exact ⟨w.heap.size, rfl, Nat.le_refl _, H.out, ((Below.refl _ w).alloc (Nat.le_refl _) _).trans HB.out⟩
theorem code_132 (w : World) : Calls Tryz.prog 109 #[.int .i64 132] w (OutV [132, 1] w) := by
  go_enter Tryz.func109, Tryz.ntmps109
  go_wp2_with (go_at_call 125; refine (touv_132 _).mono ?_; rintro e w' ⟨g, rfl, hg, hr, hb⟩)
  go_ret
  exact ⟨g, rfl, hg, hr, hb⟩
theorem len64_444 (w : World) : Calls Tryz.prog 50 #[.int .u64 444] w fun e w' => e = .returned (.int .i64 9) ∧ w = w' := by
  go_enter Tryz.func50, Tryz.ntmps50
  go_wp2_with fail
  go_ret
  exact ⟨by simp; try kernel_rfl, rfl⟩
theorem usize_444 (w : World) : Calls Tryz.prog 169 #[.int .u64 444] w fun e w' => e = .returned (.int .i64 2) ∧ w = w' := by
  go_enter Tryz.func169, Tryz.ntmps169
  go_wp2_with (go_at_call 50; refine (len64_444 _).mono ?_; rintro e w' ⟨rfl, rfl⟩)
  go_ret
  exact ⟨rfl, rfl⟩
theorem putu_444 (w : World) (g : Nat) (t : TypeId) (h : Blk w g t #[.int .u8 0, .int .u8 0]) : Calls Tryz.prog 170 #[.slice (some ⟨g, 0, none⟩) 2 2, .int .u64 444] w fun e w' => e = .returned (.int .i64 2) ∧ Blk w' g t #[.int .u8 188, .int .u8 3] ∧ ∀ B, B ≤ g → Below B w w' := by
  have c0 : w.cell? ⟨g, 0, none⟩ = some (.int .u8 0) := h.cell 0
  have c1 : w.cell? ⟨g, 1, none⟩ = some (.int .u8 0) := h.cell 1
  have o0 : bits .or .u8 188 128 = 188 := by kernel_rfl
  have f0 := h.frozen 0
  have f1 := h.frozen 1
  have H := Lib.hid h
  clear h
  go_enter Tryz.func170, Tryz.ntmps170
  go_wp2_with fail
  refine wp_loop_rounds 2 ?_
  rw [rounds_succ]
  go_wp2_with fail
  rw [rounds_succ]
  go_wp2_with fail
  go_ret
  refine ⟨rfl, ?_, ?_⟩
  · exact ((H.out.set_ 0 (.int .u8 188)).set_ 1 (.int .u8 3))
  · intro B hB; exact (((Below.refl _ _).setCell (by simpa using hB) _).setCell (by simpa using hB) _)
theorem touv_444 (w : World) : Calls Tryz.prog 125 #[.int .u64 444] w (OutV [188, 3] w) := by
  have hmk := run_make_bytes 2 (by omega)
  have e1 : ((2 : Nat) : Int) = 2 := rfl
  have e2 : madeCells #[.int .u8 0] (2 * 1) = #[.int .u8 0, .int .u8 0] := by kernel_rfl
  rw [e1, e2] at hmk
  clear e1 e2
  go_enter Tryz.func125, Tryz.ntmps125
  go_wp2_with (first
    | (go_at_call 169; refine (usize_444 _).mono ?_; rintro e w' ⟨rfl, rfl⟩)
    | (go_at_call 170; refine (putu_444 _ _ 5 (Blk.new _ _ _)).mono ?_; rintro e w' ⟨rfl, hB, hb⟩))
  have H := Lib.hid hB
  have HB := Lib.hid (hb w.heap.size (Nat.le_refl _))
  clear hB hb hmk
  go_wp2_with fail
  go_ret
  exact ⟨w.heap.size, rfl, Nat.le_refl _, H.out, ((Below.refl _ w).alloc (Nat.le_refl _) _).trans HB.out⟩
theorem code_444 (w : World) : Calls Tryz.prog 109 #[.int .i64 444] w (OutV [188, 3] w) := by
  go_enter Tryz.func109, Tryz.ntmps109
  go_wp2_with (go_at_call 125; refine (touv_444 _).mono ?_; rintro e w' ⟨g, rfl, hg, hr, hb⟩)
  go_ret
  exact ⟨g, rfl, hg, hr, hb⟩
theorem len64_445 (w : World) : Calls Tryz.prog 50 #[.int .u64 445] w fun e w' => e = .returned (.int .i64 9) ∧ w = w' := by
  go_enter Tryz.func50, Tryz.ntmps50
  go_wp2_with fail
  go_ret
  exact ⟨by simp; try kernel_rfl, rfl⟩
theorem usize_445 (w : World) : Calls Tryz.prog 169 #[.int .u64 445] w fun e w' => e = .returned (.int .i64 2) ∧ w = w' := by
  go_enter Tryz.func169, Tryz.ntmps169
  go_wp2_with (go_at_call 50; refine (len64_445 _).mono ?_; rintro e w' ⟨rfl, rfl⟩)
  go_ret
  exact ⟨rfl, rfl⟩
theorem putu_445 (w : World) (g : Nat) (t : TypeId) (h : Blk w g t #[.int .u8 0, .int .u8 0]) : Calls Tryz.prog 170 #[.slice (some ⟨g, 0, none⟩) 2 2, .int .u64 445] w fun e w' => e = .returned (.int .i64 2) ∧ Blk w' g t #[.int .u8 189, .int .u8 3] ∧ ∀ B, B ≤ g → Below B w w' := by
  have c0 : w.cell? ⟨g, 0, none⟩ = some (.int .u8 0) := h.cell 0
  have c1 : w.cell? ⟨g, 1, none⟩ = some (.int .u8 0) := h.cell 1
  have o0 : bits .or .u8 189 128 = 189 := by kernel_rfl
  have f0 := h.frozen 0
  have f1 := h.frozen 1
  have H := Lib.hid h
  clear h
  go_enter Tryz.func170, Tryz.ntmps170
  go_wp2_with fail
  refine wp_loop_rounds 2 ?_
  rw [rounds_succ]
  go_wp2_with fail
  rw [rounds_succ]
  go_wp2_with fail
  go_ret
  refine ⟨rfl, ?_, ?_⟩
  · exact ((H.out.set_ 0 (.int .u8 189)).set_ 1 (.int .u8 3))
  · intro B hB; exact (((Below.refl _ _).setCell (by simpa using hB) _).setCell (by simpa using hB) _)
theorem touv_445 (w : World) : Calls Tryz.prog 125 #[.int .u64 445] w (OutV [189, 3] w) := by
  have hmk := run_make_bytes 2 (by omega)
  have e1 : ((2 : Nat) : Int) = 2 := rfl
  have e2 : madeCells #[.int .u8 0] (2 * 1) = #[.int .u8 0, .int .u8 0] := by kernel_rfl
  rw [e1, e2] at hmk
  clear e1 e2
  go_enter Tryz.func125, Tryz.ntmps125
  go_wp2_with (first
    | (go_at_call 169; refine (usize_445 _).mono ?_; rintro e w' ⟨rfl, rfl⟩)
    | (go_at_call 170; refine (putu_445 _ _ 5 (Blk.new _ _ _)).mono ?_; rintro e w' ⟨rfl, hB, hb⟩))
  have H := Lib.hid hB
  have HB := Lib.hid (hb w.heap.size (Nat.le_refl _))
  clear hB hb hmk
  go_wp2_with fail
  go_ret
  exact ⟨w.heap.size, rfl, Nat.le_refl _, H.out, ((Below.refl _ w).alloc (Nat.le_refl _) _).trans HB.out⟩
theorem code_445 (w : World) : Calls Tryz.prog 109 #[.int .i64 445] w (OutV [189, 3] w) := by
  go_enter Tryz.func109, Tryz.ntmps109
  go_wp2_with (go_at_call 125; refine (touv_445 _).mono ?_; rintro e w' ⟨g, rfl, hg, hr, hb⟩)
  go_ret
  exact ⟨g, rfl, hg, hr, hb⟩
theorem len64_446 (w : World) : Calls Tryz.prog 50 #[.int .u64 446] w fun e w' => e = .returned (.int .i64 9) ∧ w = w' := by
  go_enter Tryz.func50, Tryz.ntmps50
  go_wp2_with fail
  go_ret
  exact ⟨by simp; try kernel_rfl, rfl⟩
theorem usize_446 (w : World) : Calls Tryz.prog 169 #[.int .u64 446] w fun e w' => e = .returned (.int .i64 2) ∧ w = w' := by
  go_enter Tryz.func169, Tryz.ntmps169
  go_wp2_with (go_at_call 50; refine (len64_446 _).mono ?_; rintro e w' ⟨rfl, rfl⟩)
  go_ret
  exact ⟨rfl, rfl⟩
theorem putu_446 (w : World) (g : Nat) (t : TypeId) (h : Blk w g t #[.int .u8 0, .int .u8 0]) : Calls Tryz.prog 170 #[.slice (some ⟨g, 0, none⟩) 2 2, .int .u64 446] w fun e w' => e = .returned (.int .i64 2) ∧ Blk w' g t #[.int .u8 190, .int .u8 3] ∧ ∀ B, B ≤ g → Below B w w' := by
  have c0 : w.cell? ⟨g, 0, none⟩ = some (.int .u8 0) := h.cell 0
  have c1 : w.cell? ⟨g, 1, none⟩ = some (.int .u8 0) := h.cell 1
  have o0 : bits .or .u8 190 128 = 190 := by kernel_rfl
  have f0 := h.frozen 0
  have f1 := h.frozen 1
  have H := Lib.hid h
  clear h
  go_enter Tryz.func170, Tryz.ntmps170
  go_wp2_with fail
  refine wp_loop_rounds 2 ?_
  rw [rounds_succ]
  go_wp2_with fail
  rw [rounds_succ]
  go_wp2_with fail
  go_ret
  refine ⟨rfl, ?_, ?_⟩
  · exact ((H.out.set_ 0 (.int .u8 190)).set_ 1 (.int .u8 3))
  · intro B hB; exact (((Below.refl _ _).setCell (by simpa using hB) _).setCell (by simpa using hB) _)
theorem touv_446 (w : World) : Calls Tryz.prog 125 #[.int .u64 446] w (OutV [190, 3] w) := by
  have hmk := run_make_bytes 2 (by omega)
  have e1 : ((2 : Nat) : Int) = 2 := rfl
  have e2 : madeCells #[.int .u8 0] (2 * 1) = #[.int .u8 0, .int .u8 0] := by kernel_rfl
  rw [e1, e2] at hmk
  clear e1 e2
  go_enter Tryz.func125, Tryz.ntmps125
  go_wp2_with (first
    | (go_at_call 169; refine (usize_446 _).mono ?_; rintro e w' ⟨rfl, rfl⟩)
    | (go_at_call 170; refine (putu_446 _ _ 5 (Blk.new _ _ _)).mono ?_; rintro e w' ⟨rfl, hB, hb⟩))
  have H := Lib.hid hB
  have HB := Lib.hid (hb w.heap.size (Nat.le_refl _))
  clear hB hb hmk
  go_wp2_with fail
  go_ret
  exact ⟨w.heap.size, rfl, Nat.le_refl _, H.out, ((Below.refl _ w).alloc (Nat.le_refl _) _).trans HB.out⟩
theorem code_446 (w : World) : Calls Tryz.prog 109 #[.int .i64 446] w (OutV [190, 3] w) := by
  go_enter Tryz.func109, Tryz.ntmps109
  go_wp2_with (go_at_call 125; refine (touv_446 _).mono ?_; rintro e w' ⟨g, rfl, hg, hr, hb⟩)
  go_ret
  exact ⟨g, rfl, hg, hr, hb⟩
theorem len64_447 (w : World) : Calls Tryz.prog 50 #[.int .u64 447] w fun e w' => e = .returned (.int .i64 9) ∧ w = w' := by
  go_enter Tryz.func50, Tryz.ntmps50
  go_wp2_with fail
  go_ret
  exact ⟨by simp; try kernel_rfl, rfl⟩
theorem usize_447 (w : World) : Calls Tryz.prog 169 #[.int .u64 447] w fun e w' => e = .returned (.int .i64 2) ∧ w = w' := by
  go_enter Tryz.func169, Tryz.ntmps169
  go_wp2_with (go_at_call 50; refine (len64_447 _).mono ?_; rintro e w' ⟨rfl, rfl⟩)
  go_ret
  exact ⟨rfl, rfl⟩
theorem putu_447 (w : World) (g : Nat) (t : TypeId) (h : Blk w g t #[.int .u8 0, .int .u8 0]) : Calls Tryz.prog 170 #[.slice (some ⟨g, 0, none⟩) 2 2, .int .u64 447] w fun e w' => e = .returned (.int .i64 2) ∧ Blk w' g t #[.int .u8 191, .int .u8 3] ∧ ∀ B, B ≤ g → Below B w w' := by
  have c0 : w.cell? ⟨g, 0, none⟩ = some (.int .u8 0) := h.cell 0
  have c1 : w.cell? ⟨g, 1, none⟩ = some (.int .u8 0) := h.cell 1
  have o0 : bits .or .u8 191 128 = 191 := by kernel_rfl
  have f0 := h.frozen 0
  have f1 := h.frozen 1
  have H := Lib.hid h
  clear h
  go_enter Tryz.func170, Tryz.ntmps170
  go_wp2_with fail
  refine wp_loop_rounds 2 ?_
  rw [rounds_succ]
  go_wp2_with fail
  rw [rounds_succ]
  go_wp2_with fail
  go_ret
  refine ⟨rfl, ?_, ?_⟩
  · exact ((H.out.set_ 0 (.int .u8 191)).set_ 1 (.int .u8 3))
  · intro B hB; exact (((Below.refl _ _).setCell (by simpa using hB) _).setCell (by simpa using hB) _)
theorem touv_447 (w : World) : Calls Tryz.prog 125 #[.int .u64 447] w (OutV [191, 3] w) := by
  have hmk := run_make_bytes 2 (by omega)
  have e1 : ((2 : Nat) : Int) = 2 := rfl
  have e2 : madeCells #[.int .u8 0] (2 * 1) = #[.int .u8 0, .int .u8 0] := by kernel_rfl
  rw [e1, e2] at hmk
  clear e1 e2
  go_enter Tryz.func125, Tryz.ntmps125
  go_wp2_with (first
    | (go_at_call 169; refine (usize_447 _).mono ?_; rintro e w' ⟨rfl, rfl⟩)
    | (go_at_call 170; refine (putu_447 _ _ 5 (Blk.new _ _ _)).mono ?_; rintro e w' ⟨rfl, hB, hb⟩))
  have H := Lib.hid hB
  have HB := Lib.hid (hb w.heap.size (Nat.le_refl _))
  clear hB hb hmk
  go_wp2_with fail
  go_ret
  exact ⟨w.heap.size, rfl, Nat.le_refl _, H.out, ((Below.refl _ w).alloc (Nat.le_refl _) _).trans HB.out⟩
theorem code_447 (w : World) : Calls Tryz.prog 109 #[.int .i64 447] w (OutV [191, 3] w) := by
  go_enter Tryz.func109, Tryz.ntmps109
  go_wp2_with (go_at_call 125; refine (touv_447 _).mono ?_; rintro e w' ⟨g, rfl, hg, hr, hb⟩)
  go_ret
  exact ⟨g, rfl, hg, hr, hb⟩
theorem len64_302 (w : World) : Calls Tryz.prog 50 #[.int .u64 302] w fun e w' => e = .returned (.int .i64 9) ∧ w = w' := by
  go_enter Tryz.func50, Tryz.ntmps50
  go_wp2_with fail
  go_ret
  exact ⟨by simp; try kernel_rfl, rfl⟩
theorem usize_302 (w : World) : Calls Tryz.prog 169 #[.int .u64 302] w fun e w' => e = .returned (.int .i64 2) ∧ w = w' := by
  go_enter Tryz.func169, Tryz.ntmps169
  go_wp2_with (go_at_call 50; refine (len64_302 _).mono ?_; rintro e w' ⟨rfl, rfl⟩)
  go_ret
  exact ⟨rfl, rfl⟩
theorem putu_302 (w : World) (g : Nat) (t : TypeId) (h : Blk w g t #[.int .u8 0, .int .u8 0]) : Calls Tryz.prog 170 #[.slice (some ⟨g, 0, none⟩) 2 2, .int .u64 302] w fun e w' => e = .returned (.int .i64 2) ∧ Blk w' g t #[.int .u8 174, .int .u8 2] ∧ ∀ B, B ≤ g → Below B w w' := by
  have c0 : w.cell? ⟨g, 0, none⟩ = some (.int .u8 0) := h.cell 0
  have c1 : w.cell? ⟨g, 1, none⟩ = some (.int .u8 0) := h.cell 1
  have o0 : bits .or .u8 46 128 = 174 := by kernel_rfl
  have f0 := h.frozen 0
  have f1 := h.frozen 1
  have H := Lib.hid h
  clear h
  go_enter Tryz.func170, Tryz.ntmps170
  go_wp2_with fail
  refine wp_loop_rounds 2 ?_
  rw [rounds_succ]
  go_wp2_with fail
  rw [rounds_succ]
  go_wp2_with fail
  go_ret
  refine ⟨rfl, ?_, ?_⟩
  · exact ((H.out.set_ 0 (.int .u8 174)).set_ 1 (.int .u8 2))
  · intro B hB; exact (((Below.refl _ _).setCell (by simpa using hB) _).setCell (by simpa using hB) _)
theorem touv_302 (w : World) : Calls Tryz.prog 125 #[.int .u64 302] w (OutV [174, 2] w) := by
  have hmk := run_make_bytes 2 (by omega)
  have e1 : ((2 : Nat) : Int) = 2 := rfl
  have e2 : madeCells #[.int .u8 0] (2 * 1) = #[.int .u8 0, .int .u8 0] := by kernel_rfl
  rw [e1, e2] at hmk
  clear e1 e2
  go_enter Tryz.func125, Tryz.ntmps125
  go_wp2_with (first
    | (go_at_call 169; refine (usize_302 _).mono ?_; rintro e w' ⟨rfl, rfl⟩)
    | (go_at_call 170; refine (putu_302 _ _ 5 (Blk.new _ _ _)).mono ?_; rintro e w' ⟨rfl, hB, hb⟩))
  have H := Lib.hid hB
  have HB := Lib.hid (hb w.heap.size (Nat.le_refl _))
  clear hB hb hmk
  go_wp2_with fail
  go_ret
  exact ⟨w.heap.size, rfl, Nat.le_refl _, H.out, ((Below.refl _ w).alloc (Nat.le_refl _) _).trans HB.out⟩
theorem code_302 (w : World) : Calls Tryz.prog 109 #[.int .i64 302] w (OutV [174, 2] w) := by
  go_enter Tryz.func109, Tryz.ntmps109
  go_wp2_with (go_at_call 125; refine (touv_302 _).mono ?_; rintro e w' ⟨g, rfl, hg, hr, hb⟩)
  go_ret
  exact ⟨g, rfl, hg, hr, hb⟩
theorem len64_301 (w : World) : Calls Tryz.prog 50 #[.int .u64 301] w fun e w' => e = .returned (.int .i64 9) ∧ w = w' := by
  go_enter Tryz.func50, Tryz.ntmps50
  go_wp2_with fail
  go_ret
  exact ⟨by simp; try kernel_rfl, rfl⟩
theorem usize_301 (w : World) : Calls Tryz.prog 169 #[.int .u64 301] w fun e w' => e = .returned (.int .i64 2) ∧ w = w' := by
  go_enter Tryz.func169, Tryz.ntmps169
  go_wp2_with (go_at_call 50; refine (len64_301 _).mono ?_; rintro e w' ⟨rfl, rfl⟩)
  go_ret
  exact ⟨rfl, rfl⟩
theorem putu_301 (w : World) (g : Nat) (t : TypeId) (h : Blk w g t #[.int .u8 0, .int .u8 0]) : Calls Tryz.prog 170 #[.slice (some ⟨g, 0, none⟩) 2 2, .int .u64 301] w fun e w' => e = .returned (.int .i64 2) ∧ Blk w' g t #[.int .u8 173, .int .u8 2] ∧ ∀ B, B ≤ g → Below B w w' := by
  have c0 : w.cell? ⟨g, 0, none⟩ = some (.int .u8 0) := h.cell 0
  have c1 : w.cell? ⟨g, 1, none⟩ = some (.int .u8 0) := h.cell 1
  have o0 : bits .or .u8 45 128 = 173 := by kernel_rfl
  have f0 := h.frozen 0
  have f1 := h.frozen 1
  have H := Lib.hid h
  clear h
  go_enter Tryz.func170, Tryz.ntmps170
  go_wp2_with fail
  refine wp_loop_rounds 2 ?_
  rw [rounds_succ]
  go_wp2_with fail
  rw [rounds_succ]
  go_wp2_with fail
  go_ret
  refine ⟨rfl, ?_, ?_⟩
  · exact ((H.out.set_ 0 (.int .u8 173)).set_ 1 (.int .u8 2))
  · intro B hB; exact (((Below.refl _ _).setCell (by simpa using hB) _).setCell (by simpa using hB) _)
theorem touv_301 (w : World) : Calls Tryz.prog 125 #[.int .u64 301] w (OutV [173, 2] w) := by
  have hmk := run_make_bytes 2 (by omega)
  have e1 : ((2 : Nat) : Int) = 2 := rfl
  have e2 : madeCells #[.int .u8 0] (2 * 1) = #[.int .u8 0, .int .u8 0] := by kernel_rfl
  rw [e1, e2] at hmk
  clear e1 e2
  go_enter Tryz.func125, Tryz.ntmps125
  go_wp2_with (first
    | (go_at_call 169; refine (usize_301 _).mono ?_; rintro e w' ⟨rfl, rfl⟩)
    | (go_at_call 170; refine (putu_301 _ _ 5 (Blk.new _ _ _)).mono ?_; rintro e w' ⟨rfl, hB, hb⟩))
  have H := Lib.hid hB
  have HB := Lib.hid (hb w.heap.size (Nat.le_refl _))
  clear hB hb hmk
  go_wp2_with fail
  go_ret
  exact ⟨w.heap.size, rfl, Nat.le_refl _, H.out, ((Below.refl _ w).alloc (Nat.le_refl _) _).trans HB.out⟩
theorem code_301 (w : World) : Calls Tryz.prog 109 #[.int .i64 301] w (OutV [173, 2] w) := by
  go_enter Tryz.func109, Tryz.ntmps109
  go_wp2_with (go_at_call 125; refine (touv_301 _).mono ?_; rintro e w' ⟨g, rfl, hg, hr, hb⟩)
  go_ret
  exact ⟨g, rfl, hg, hr, hb⟩
theorem len64_460 (w : World) : Calls Tryz.prog 50 #[.int .u64 460] w fun e w' => e = .returned (.int .i64 9) ∧ w = w' := by
  go_enter Tryz.func50, Tryz.ntmps50
  go_wp2_with fail
  go_ret
  exact ⟨by simp; try kernel_rfl, rfl⟩
theorem usize_460 (w : World) : Calls Tryz.prog 169 #[.int .u64 460] w fun e w' => e = .returned (.int .i64 2) ∧ w = w' := by
  go_enter Tryz.func169, Tryz.ntmps169
  go_wp2_with (go_at_call 50; refine (len64_460 _).mono ?_; rintro e w' ⟨rfl, rfl⟩)
  go_ret
  exact ⟨rfl, rfl⟩
theorem putu_460 (w : World) (g : Nat) (t : TypeId) (h : Blk w g t #[.int .u8 0, .int .u8 0]) : Calls Tryz.prog 170 #[.slice (some ⟨g, 0, none⟩) 2 2, .int .u64 460] w fun e w' => e = .returned (.int .i64 2) ∧ Blk w' g t #[.int .u8 204, .int .u8 3] ∧ ∀ B, B ≤ g → Below B w w' := by
  have c0 : w.cell? ⟨g, 0, none⟩ = some (.int .u8 0) := h.cell 0
  have c1 : w.cell? ⟨g, 1, none⟩ = some (.int .u8 0) := h.cell 1
  have o0 : bits .or .u8 204 128 = 204 := by kernel_rfl
  have f0 := h.frozen 0
  have f1 := h.frozen 1
  have H := Lib.hid h
  clear h
  go_enter Tryz.func170, Tryz.ntmps170
  go_wp2_with fail
  refine wp_loop_rounds 2 ?_
  rw [rounds_succ]
  go_wp2_with fail
  rw [rounds_succ]
  go_wp2_with fail
  go_ret
  refine ⟨rfl, ?_, ?_⟩
  · exact ((H.out.set_ 0 (.int .u8 204)).set_ 1 (.int .u8 3))
  · intro B hB; exact (((Below.refl _ _).setCell (by simpa using hB) _).setCell (by simpa using hB) _)
theorem touv_460 (w : World) : Calls Tryz.prog 125 #[.int .u64 460] w (OutV [204, 3] w) := by
  have hmk := run_make_bytes 2 (by omega)
  have e1 : ((2 : Nat) : Int) = 2 := rfl
  have e2 : madeCells #[.int .u8 0] (2 * 1) = #[.int .u8 0, .int .u8 0] := by kernel_rfl
  rw [e1, e2] at hmk
  clear e1 e2
  go_enter Tryz.func125, Tryz.ntmps125
  go_wp2_with (first
    | (go_at_call 169; refine (usize_460 _).mono ?_; rintro e w' ⟨rfl, rfl⟩)
    | (go_at_call 170; refine (putu_460 _ _ 5 (Blk.new _ _ _)).mono ?_; rintro e w' ⟨rfl, hB, hb⟩))
  have H := Lib.hid hB
  have HB := Lib.hid (hb w.heap.size (Nat.le_refl _))
  clear hB hb hmk
  go_wp2_with fail
  go_ret
  exact ⟨w.heap.size, rfl, Nat.le_refl _, H.out, ((Below.refl _ w).alloc (Nat.le_refl _) _).trans HB.out⟩
theorem code_460 (w : World) : Calls Tryz.prog 109 #[.int .i64 460] w (OutV [204, 3] w) := by
  go_enter Tryz.func109, Tryz.ntmps109
  go_wp2_with (go_at_call 125; refine (touv_460 _).mono ?_; rintro e w' ⟨g, rfl, hg, hr, hb⟩)
  go_ret
  exact ⟨g, rfl, hg, hr, hb⟩
end Go.Proofs.YtghddiboggdhcaaGreatDoor
