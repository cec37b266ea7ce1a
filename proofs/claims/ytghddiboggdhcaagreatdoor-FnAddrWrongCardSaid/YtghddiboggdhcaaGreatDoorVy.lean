/- Protocols by their codes: zzCoded, ProtocolWithCode, zzPtr. -/
import Derived.Test.YtghddiboggdhcaaGreatDoorVd3
import Derived.Test.YtghddiboggdhcaaGreatDoorXf
set_option maxRecDepth 100000
set_option maxHeartbeats 4000000
namespace Go.Proofs.YtghddiboggdhcaaGreatDoor
open Go.RowKit
theorem codedx_465 (w : World) : Calls Tryz.prog 69 #[.int .i64 465] w (OutX x465 465 w) := by
  go_enter Tryz.func69, Tryz.ntmps69
  go_wp2_with (go_at_call 92; refine (px_465 _).mono ?_; rintro e w1 ⟨g, rfl, hg, hr, hb⟩; have hk := Lib.hid ((Blk.new w 77 pzero).below hb (by simp)); have Hb := Lib.hid hb; have Hr := Lib.hid hr; have hgg := Lib.hid (show w.heap.size + 1 ≤ g by simpa using hg); clear hr hb hg)
  rw [run_storeCells_row _ w.heap.size 77 pzero (xcells x465 465 g) hk.out rfl (xcells_one rfl)]
  go_wp2_with fail
  have hbb := ((Below.refl _ w).alloc (Nat.le_refl _) (.cells pzero 77)).trans (Hb.out.mono (by simp))
  exact bodyPost_ret (results_cell_row rfl _ _ w.heap.size 77 (xcells x465 465 g) (0, 0) _ rfl (hk.out.row _) Tryz.underlying77 rfl (proto_size.trans rfl)) rfl
    ⟨g, rfl, Nat.le_of_succ_le hgg.out, Hr.out.rowFar (by have := hgg.out; omega) _, below_setRow hbb (Nat.le_refl _) _⟩
theorem pcodex_465 (w : World) : Calls Tryz.prog 62 #[.int .i64 465] w (OutX x465 465 w) := by
  go_enter Tryz.func62, Tryz.ntmps62
  go_wp2_with (go_at_call 69; refine (codedx_465 _).mono ?_; rintro e w1 ⟨g, rfl, hg, hr, hb⟩; have hk := Lib.hid ((Blk.new w 77 pzero).below hb (by simp)); have Hb := Lib.hid hb; have Hr := Lib.hid hr; have hgg := Lib.hid (show w.heap.size + 1 ≤ g by simpa using hg); clear hr hb hg)
  rw [run_storeCells_row _ w.heap.size 77 pzero (xcells x465 465 g) hk.out rfl (xcells_one rfl)]
  go_wp2_with fail
  have hbb := ((Below.refl _ w).alloc (Nat.le_refl _) (.cells pzero 77)).trans (Hb.out.mono (by simp))
  exact bodyPost_ret (results_cell_row rfl _ _ w.heap.size 77 (xcells x465 465 g) (0, 0) _ rfl (hk.out.row _) Tryz.underlying77 rfl (proto_size.trans rfl)) rfl
    ⟨g, rfl, Nat.le_of_succ_le hgg.out, Hr.out.rowFar (by have := hgg.out; omega) _, below_setRow hbb (Nat.le_refl _) _⟩
theorem ptrx_465 (w : World) : Calls Tryz.prog 63 #[.int .i64 465] w (OutXP x465 465 w) := by
  go_enter Tryz.func63, Tryz.ntmps63
  go_wp2_with (go_at_call 69; refine (codedx_465 _).mono ?_; rintro e w1 ⟨g, rfl, hg, hr, hb⟩; have Hb := Lib.hid hb; have Hr := Lib.hid hr; have hgg := Lib.hid hg; clear hr hb hg)
  rw [run_storeCells_new w1 77 #[.string ⟨#[]⟩, .int .i64 0, .slice none 0 0, .int .i64 0, .bool false, .nilIface] (xcells x465 465 g) rfl (xcells_one rfl)]
  have hk := Blk.new w1 77 (xcells x465 465 g)
  have c1 : (w1.alloc (.cells (xcells x465 465 g) 77)).cell? ⟨w1.heap.size, 1, none⟩ = some (.int .i64 465) := hk.cell 1
  have HK := Lib.hid hk
  clear hk
  go_wp2_with fail
  go_ret
  exact ⟨w1.heap.size, g, rfl, Hb.out.size, hgg.out, Nat.ne_of_gt Hr.out.lt, HK.out, Hr.out.alloc _, Hb.out.alloc Hb.out.size _⟩
theorem codedx_466 (w : World) : Calls Tryz.prog 69 #[.int .i64 466] w (OutX x466 466 w) := by
  go_enter Tryz.func69, Tryz.ntmps69
  go_wp2_with (go_at_call 93; refine (px_466 _).mono ?_; rintro e w1 ⟨g, rfl, hg, hr, hb⟩; have hk := Lib.hid ((Blk.new w 77 pzero).below hb (by simp)); have Hb := Lib.hid hb; have Hr := Lib.hid hr; have hgg := Lib.hid (show w.heap.size + 1 ≤ g by simpa using hg); clear hr hb hg)
  rw [run_storeCells_row _ w.heap.size 77 pzero (xcells x466 466 g) hk.out rfl (xcells_one rfl)]
  go_wp2_with fail
  have hbb := ((Below.refl _ w).alloc (Nat.le_refl _) (.cells pzero 77)).trans (Hb.out.mono (by simp))
  exact bodyPost_ret (results_cell_row rfl _ _ w.heap.size 77 (xcells x466 466 g) (0, 0) _ rfl (hk.out.row _) Tryz.underlying77 rfl (proto_size.trans rfl)) rfl
    ⟨g, rfl, Nat.le_of_succ_le hgg.out, Hr.out.rowFar (by have := hgg.out; omega) _, below_setRow hbb (Nat.le_refl _) _⟩
theorem pcodex_466 (w : World) : Calls Tryz.prog 62 #[.int .i64 466] w (OutX x466 466 w) := by
  go_enter Tryz.func62, Tryz.ntmps62
  go_wp2_with (go_at_call 69; refine (codedx_466 _).mono ?_; rintro e w1 ⟨g, rfl, hg, hr, hb⟩; have hk := Lib.hid ((Blk.new w 77 pzero).below hb (by simp)); have Hb := Lib.hid hb; have Hr := Lib.hid hr; have hgg := Lib.hid (show w.heap.size + 1 ≤ g by simpa using hg); clear hr hb hg)
  rw [run_storeCells_row _ w.heap.size 77 pzero (xcells x466 466 g) hk.out rfl (xcells_one rfl)]
  go_wp2_with fail
  have hbb := ((Below.refl _ w).alloc (Nat.le_refl _) (.cells pzero 77)).trans (Hb.out.mono (by simp))
  exact bodyPost_ret (results_cell_row rfl _ _ w.heap.size 77 (xcells x466 466 g) (0, 0) _ rfl (hk.out.row _) Tryz.underlying77 rfl (proto_size.trans rfl)) rfl
    ⟨g, rfl, Nat.le_of_succ_le hgg.out, Hr.out.rowFar (by have := hgg.out; omega) _, below_setRow hbb (Nat.le_refl _) _⟩
theorem ptrx_466 (w : World) : Calls Tryz.prog 63 #[.int .i64 466] w (OutXP x466 466 w) := by
  go_enter Tryz.func63, Tryz.ntmps63
  go_wp2_with (go_at_call 69; refine (codedx_466 _).mono ?_; rintro e w1 ⟨g, rfl, hg, hr, hb⟩; have Hb := Lib.hid hb; have Hr := Lib.hid hr; have hgg := Lib.hid hg; clear hr hb hg)
  rw [run_storeCells_new w1 77 #[.string ⟨#[]⟩, .int .i64 0, .slice none 0 0, .int .i64 0, .bool false, .nilIface] (xcells x466 466 g) rfl (xcells_one rfl)]
  have hk := Blk.new w1 77 (xcells x466 466 g)
  have c1 : (w1.alloc (.cells (xcells x466 466 g) 77)).cell? ⟨w1.heap.size, 1, none⟩ = some (.int .i64 466) := hk.cell 1
  have HK := Lib.hid hk
  clear hk
  go_wp2_with fail
  go_ret
  exact ⟨w1.heap.size, g, rfl, Hb.out.size, hgg.out, Nat.ne_of_gt Hr.out.lt, HK.out, Hr.out.alloc _, Hb.out.alloc Hb.out.size _⟩
theorem pcodex_477 (w : World) : Calls Tryz.prog 62 #[.int .i64 477] w (OutX x477 477 w) := (pcode_477 w).mono fun _ _ h => h
theorem ptrx_477 (w : World) : Calls Tryz.prog 63 #[.int .i64 477] w (OutXP x477 477 w) := (ptr_477 w).mono fun _ _ h => h
theorem codedx_478 (w : World) : Calls Tryz.prog 69 #[.int .i64 478] w (OutX x478 478 w) := by
  go_enter Tryz.func69, Tryz.ntmps69
  go_wp2_with (go_at_call 104; refine (px_478 _).mono ?_; rintro e w1 ⟨g, rfl, hg, hr, hb⟩; have hk := Lib.hid ((Blk.new w 77 pzero).below hb (by simp)); have Hb := Lib.hid hb; have Hr := Lib.hid hr; have hgg := Lib.hid (show w.heap.size + 1 ≤ g by simpa using hg); clear hr hb hg)
  rw [run_storeCells_row _ w.heap.size 77 pzero (xcells x478 478 g) hk.out rfl (xcells_one rfl)]
  go_wp2_with fail
  have hbb := ((Below.refl _ w).alloc (Nat.le_refl _) (.cells pzero 77)).trans (Hb.out.mono (by simp))
  exact bodyPost_ret (results_cell_row rfl _ _ w.heap.size 77 (xcells x478 478 g) (0, 0) _ rfl (hk.out.row _) Tryz.underlying77 rfl (proto_size.trans rfl)) rfl
    ⟨g, rfl, Nat.le_of_succ_le hgg.out, Hr.out.rowFar (by have := hgg.out; omega) _, below_setRow hbb (Nat.le_refl _) _⟩
theorem pcodex_478 (w : World) : Calls Tryz.prog 62 #[.int .i64 478] w (OutX x478 478 w) := by
  go_enter Tryz.func62, Tryz.ntmps62
  go_wp2_with (go_at_call 69; refine (codedx_478 _).mono ?_; rintro e w1 ⟨g, rfl, hg, hr, hb⟩; have hk := Lib.hid ((Blk.new w 77 pzero).below hb (by simp)); have Hb := Lib.hid hb; have Hr := Lib.hid hr; have hgg := Lib.hid (show w.heap.size + 1 ≤ g by simpa using hg); clear hr hb hg)
  rw [run_storeCells_row _ w.heap.size 77 pzero (xcells x478 478 g) hk.out rfl (xcells_one rfl)]
  go_wp2_with fail
  have hbb := ((Below.refl _ w).alloc (Nat.le_refl _) (.cells pzero 77)).trans (Hb.out.mono (by simp))
  exact bodyPost_ret (results_cell_row rfl _ _ w.heap.size 77 (xcells x478 478 g) (0, 0) _ rfl (hk.out.row _) Tryz.underlying77 rfl (proto_size.trans rfl)) rfl
    ⟨g, rfl, Nat.le_of_succ_le hgg.out, Hr.out.rowFar (by have := hgg.out; omega) _, below_setRow hbb (Nat.le_refl _) _⟩
theorem ptrx_478 (w : World) : Calls Tryz.prog 63 #[.int .i64 478] w (OutXP x478 478 w) := by
  go_enter Tryz.func63, Tryz.ntmps63
  go_wp2_with (go_at_call 69; refine (codedx_478 _).mono ?_; rintro e w1 ⟨g, rfl, hg, hr, hb⟩; have Hb := Lib.hid hb; have Hr := Lib.hid hr; have hgg := Lib.hid hg; clear hr hb hg)
  rw [run_storeCells_new w1 77 #[.string ⟨#[]⟩, .int .i64 0, .slice none 0 0, .int .i64 0, .bool false, .nilIface] (xcells x478 478 g) rfl (xcells_one rfl)]
  have hk := Blk.new w1 77 (xcells x478 478 g)
  have c1 : (w1.alloc (.cells (xcells x478 478 g) 77)).cell? ⟨w1.heap.size, 1, none⟩ = some (.int .i64 478) := hk.cell 1
  have HK := Lib.hid hk
  clear hk
  go_wp2_with fail
  go_ret
  exact ⟨w1.heap.size, g, rfl, Hb.out.size, hgg.out, Nat.ne_of_gt Hr.out.lt, HK.out, Hr.out.alloc _, Hb.out.alloc Hb.out.size _⟩
theorem codedx_480 (w : World) : Calls Tryz.prog 69 #[.int .i64 480] w (OutX x480 480 w) := by
  go_enter Tryz.func69, Tryz.ntmps69
  go_wp2_with (go_at_call 94; refine (px_480 _).mono ?_; rintro e w1 ⟨g, rfl, hg, hr, hb⟩; have hk := Lib.hid ((Blk.new w 77 pzero).below hb (by simp)); have Hb := Lib.hid hb; have Hr := Lib.hid hr; have hgg := Lib.hid (show w.heap.size + 1 ≤ g by simpa using hg); clear hr hb hg)
  rw [run_storeCells_row _ w.heap.size 77 pzero (xcells x480 480 g) hk.out rfl (xcells_one rfl)]
  go_wp2_with fail
  have hbb := ((Below.refl _ w).alloc (Nat.le_refl _) (.cells pzero 77)).trans (Hb.out.mono (by simp))
  exact bodyPost_ret (results_cell_row rfl _ _ w.heap.size 77 (xcells x480 480 g) (0, 0) _ rfl (hk.out.row _) Tryz.underlying77 rfl (proto_size.trans rfl)) rfl
    ⟨g, rfl, Nat.le_of_succ_le hgg.out, Hr.out.rowFar (by have := hgg.out; omega) _, below_setRow hbb (Nat.le_refl _) _⟩
theorem pcodex_480 (w : World) : Calls Tryz.prog 62 #[.int .i64 480] w (OutX x480 480 w) := by
  go_enter Tryz.func62, Tryz.ntmps62
  go_wp2_with (go_at_call 69; refine (codedx_480 _).mono ?_; rintro e w1 ⟨g, rfl, hg, hr, hb⟩; have hk := Lib.hid ((Blk.new w 77 pzero).below hb (by simp)); have Hb := Lib.hid hb; have Hr := Lib.hid hr; have hgg := Lib.hid (show w.heap.size + 1 ≤ g by simpa using hg); clear hr hb hg)
  rw [run_storeCells_row _ w.heap.size 77 pzero (xcells x480 480 g) hk.out rfl (xcells_one rfl)]
  go_wp2_with fail
  have hbb := ((Below.refl _ w).alloc (Nat.le_refl _) (.cells pzero 77)).trans (Hb.out.mono (by simp))
  exact bodyPost_ret (results_cell_row rfl _ _ w.heap.size 77 (xcells x480 480 g) (0, 0) _ rfl (hk.out.row _) Tryz.underlying77 rfl (proto_size.trans rfl)) rfl
    ⟨g, rfl, Nat.le_of_succ_le hgg.out, Hr.out.rowFar (by have := hgg.out; omega) _, below_setRow hbb (Nat.le_refl _) _⟩
theorem ptrx_480 (w : World) : Calls Tryz.prog 63 #[.int .i64 480] w (OutXP x480 480 w) := by
  go_enter Tryz.func63, Tryz.ntmps63
  go_wp2_with (go_at_call 69; refine (codedx_480 _).mono ?_; rintro e w1 ⟨g, rfl, hg, hr, hb⟩; have Hb := Lib.hid hb; have Hr := Lib.hid hr; have hgg := Lib.hid hg; clear hr hb hg)
  rw [run_storeCells_new w1 77 #[.string ⟨#[]⟩, .int .i64 0, .slice none 0 0, .int .i64 0, .bool false, .nilIface] (xcells x480 480 g) rfl (xcells_one rfl)]
  have hk := Blk.new w1 77 (xcells x480 480 g)
  have c1 : (w1.alloc (.cells (xcells x480 480 g) 77)).cell? ⟨w1.heap.size, 1, none⟩ = some (.int .i64 480) := hk.cell 1
  have HK := Lib.hid hk
  clear hk
  go_wp2_with fail
  go_ret
  exact ⟨w1.heap.size, g, rfl, Hb.out.size, hgg.out, Nat.ne_of_gt Hr.out.lt, HK.out, Hr.out.alloc _, Hb.out.alloc Hb.out.size _⟩
theorem codedx_481 (w : World) : Calls Tryz.prog 69 #[.int .i64 481] w (OutX x481 481 w) := by
  go_enter Tryz.func69, Tryz.ntmps69
  go_wp2_with (go_at_call 95; refine (px_481 _).mono ?_; rintro e w1 ⟨g, rfl, hg, hr, hb⟩; have hk := Lib.hid ((Blk.new w 77 pzero).below hb (by simp)); have Hb := Lib.hid hb; have Hr := Lib.hid hr; have hgg := Lib.hid (show w.heap.size + 1 ≤ g by simpa using hg); clear hr hb hg)
  rw [run_storeCells_row _ w.heap.size 77 pzero (xcells x481 481 g) hk.out rfl (xcells_one rfl)]
  go_wp2_with fail
  have hbb := ((Below.refl _ w).alloc (Nat.le_refl _) (.cells pzero 77)).trans (Hb.out.mono (by simp))
  exact bodyPost_ret (results_cell_row rfl _ _ w.heap.size 77 (xcells x481 481 g) (0, 0) _ rfl (hk.out.row _) Tryz.underlying77 rfl (proto_size.trans rfl)) rfl
    ⟨g, rfl, Nat.le_of_succ_le hgg.out, Hr.out.rowFar (by have := hgg.out; omega) _, below_setRow hbb (Nat.le_refl _) _⟩
theorem pcodex_481 (w : World) : Calls Tryz.prog 62 #[.int .i64 481] w (OutX x481 481 w) := by
  go_enter Tryz.func62, Tryz.ntmps62
  go_wp2_with (go_at_call 69; refine (codedx_481 _).mono ?_; rintro e w1 ⟨g, rfl, hg, hr, hb⟩; have hk := Lib.hid ((Blk.new w 77 pzero).below hb (by simp)); have Hb := Lib.hid hb; have Hr := Lib.hid hr; have hgg := Lib.hid (show w.heap.size + 1 ≤ g by simpa using hg); clear hr hb hg)
  rw [run_storeCells_row _ w.heap.size 77 pzero (xcells x481 481 g) hk.out rfl (xcells_one rfl)]
  go_wp2_with fail
  have hbb := ((Below.refl _ w).alloc (Nat.le_refl _) (.cells pzero 77)).trans (Hb.out.mono (by simp))
  exact bodyPost_ret (results_cell_row rfl _ _ w.heap.size 77 (xcells x481 481 g) (0, 0) _ rfl (hk.out.row _) Tryz.underlying77 rfl (proto_size.trans rfl)) rfl
    ⟨g, rfl, Nat.le_of_succ_le hgg.out, Hr.out.rowFar (by have := hgg.out; omega) _, below_setRow hbb (Nat.le_refl _) _⟩
theorem ptrx_481 (w : World) : Calls Tryz.prog 63 #[.int .i64 481] w (OutXP x481 481 w) := by
  go_enter Tryz.func63, Tryz.ntmps63
  go_wp2_with (go_at_call 69; refine (codedx_481 _).mono ?_; rintro e w1 ⟨g, rfl, hg, hr, hb⟩; have Hb := Lib.hid hb; have Hr := Lib.hid hr; have hgg := Lib.hid hg; clear hr hb hg)
  rw [run_storeCells_new w1 77 #[.string ⟨#[]⟩, .int .i64 0, .slice none 0 0, .int .i64 0, .bool false, .nilIface] (xcells x481 481 g) rfl (xcells_one rfl)]
  have hk := Blk.new w1 77 (xcells x481 481 g)
  have c1 : (w1.alloc (.cells (xcells x481 481 g) 77)).cell? ⟨w1.heap.size, 1, none⟩ = some (.int .i64 481) := hk.cell 1
  have HK := Lib.hid hk
  clear hk
  go_wp2_with fail
  go_ret
  exact ⟨w1.heap.size, g, rfl, Hb.out.size, hgg.out, Nat.ne_of_gt Hr.out.lt, HK.out, Hr.out.alloc _, Hb.out.alloc Hb.out.size _⟩
theorem codedx_777 (w : World) : Calls Tryz.prog 69 #[.int .i64 777] w (OutX x777 777 w) := by
  go_enter Tryz.func69, Tryz.ntmps69
  go_wp2_with (go_at_call 108; refine (px_777 _).mono ?_; rintro e w1 ⟨g, rfl, hg, hr, hb⟩; have hk := Lib.hid ((Blk.new w 77 pzero).below hb (by simp)); have Hb := Lib.hid hb; have Hr := Lib.hid hr; have hgg := Lib.hid (show w.heap.size + 1 ≤ g by simpa using hg); clear hr hb hg)
  rw [run_storeCells_row _ w.heap.size 77 pzero (xcells x777 777 g) hk.out rfl (xcells_one rfl)]
  go_wp2_with fail
  have hbb := ((Below.refl _ w).alloc (Nat.le_refl _) (.cells pzero 77)).trans (Hb.out.mono (by simp))
  exact bodyPost_ret (results_cell_row rfl _ _ w.heap.size 77 (xcells x777 777 g) (0, 0) _ rfl (hk.out.row _) Tryz.underlying77 rfl (proto_size.trans rfl)) rfl
    ⟨g, rfl, Nat.le_of_succ_le hgg.out, Hr.out.rowFar (by have := hgg.out; omega) _, below_setRow hbb (Nat.le_refl _) _⟩
theorem pcodex_777 (w : World) : Calls Tryz.prog 62 #[.int .i64 777] w (OutX x777 777 w) := by
  go_enter Tryz.func62, Tryz.ntmps62
  go_wp2_with (go_at_call 69; refine (codedx_777 _).mono ?_; rintro e w1 ⟨g, rfl, hg, hr, hb⟩; have hk := Lib.hid ((Blk.new w 77 pzero).below hb (by simp)); have Hb := Lib.hid hb; have Hr := Lib.hid hr; have hgg := Lib.hid (show w.heap.size + 1 ≤ g by simpa using hg); clear hr hb hg)
  rw [run_storeCells_row _ w.heap.size 77 pzero (xcells x777 777 g) hk.out rfl (xcells_one rfl)]
  go_wp2_with fail
  have hbb := ((Below.refl _ w).alloc (Nat.le_refl _) (.cells pzero 77)).trans (Hb.out.mono (by simp))
  exact bodyPost_ret (results_cell_row rfl _ _ w.heap.size 77 (xcells x777 777 g) (0, 0) _ rfl (hk.out.row _) Tryz.underlying77 rfl (proto_size.trans rfl)) rfl
    ⟨g, rfl, Nat.le_of_succ_le hgg.out, Hr.out.rowFar (by have := hgg.out; omega) _, below_setRow hbb (Nat.le_refl _) _⟩
theorem ptrx_777 (w : World) : Calls Tryz.prog 63 #[.int .i64 777] w (OutXP x777 777 w) := by
  go_enter Tryz.func63, Tryz.ntmps63
  go_wp2_with (go_at_call 69; refine (codedx_777 _).mono ?_; rintro e w1 ⟨g, rfl, hg, hr, hb⟩; have Hb := Lib.hid hb; have Hr := Lib.hid hr; have hgg := Lib.hid hg; clear hr hb hg)
  rw [run_storeCells_new w1 77 #[.string ⟨#[]⟩, .int .i64 0, .slice none 0 0, .int .i64 0, .bool false, .nilIface] (xcells x777 777 g) rfl (xcells_one rfl)]
  have hk := Blk.new w1 77 (xcells x777 777 g)
  have c1 : (w1.alloc (.cells (xcells x777 777 g) 77)).cell? ⟨w1.heap.size, 1, none⟩ = some (.int .i64 777) := hk.cell 1
  have HK := Lib.hid hk
  clear hk
  go_wp2_with fail
  go_ret
  exact ⟨w1.heap.size, g, rfl, Hb.out.size, hgg.out, Nat.ne_of_gt Hr.out.lt, HK.out, Hr.out.alloc _, Hb.out.alloc Hb.out.size _⟩
theorem codedx_7367777 (w : World) : Calls Tryz.prog 69 #[.int .i64 7367777] w (OutX x7367777 7367777 w) := by
  go_enter Tryz.func69, Tryz.ntmps69
  go_wp2_with (go_at_call 105; refine (px_7367777 _).mono ?_; rintro e w1 ⟨g, rfl, hg, hr, hb⟩; have hk := Lib.hid ((Blk.new w 77 pzero).below hb (by simp)); have Hb := Lib.hid hb; have Hr := Lib.hid hr; have hgg := Lib.hid (show w.heap.size + 1 ≤ g by simpa using hg); clear hr hb hg)
  rw [run_storeCells_row _ w.heap.size 77 pzero (xcells x7367777 7367777 g) hk.out rfl (xcells_one rfl)]
  go_wp2_with fail
  have hbb := ((Below.refl _ w).alloc (Nat.le_refl _) (.cells pzero 77)).trans (Hb.out.mono (by simp))
  exact bodyPost_ret (results_cell_row rfl _ _ w.heap.size 77 (xcells x7367777 7367777 g) (0, 0) _ rfl (hk.out.row _) Tryz.underlying77 rfl (proto_size.trans rfl)) rfl
    ⟨g, rfl, Nat.le_of_succ_le hgg.out, Hr.out.rowFar (by have := hgg.out; omega) _, below_setRow hbb (Nat.le_refl _) _⟩
theorem pcodex_7367777 (w : World) : Calls Tryz.prog 62 #[.int .i64 7367777] w (OutX x7367777 7367777 w) := by
  go_enter Tryz.func62, Tryz.ntmps62
  go_wp2_with (go_at_call 69; refine (codedx_7367777 _).mono ?_; rintro e w1 ⟨g, rfl, hg, hr, hb⟩; have hk := Lib.hid ((Blk.new w 77 pzero).below hb (by simp)); have Hb := Lib.hid hb; have Hr := Lib.hid hr; have hgg := Lib.hid (show w.heap.size + 1 ≤ g by simpa using hg); clear hr hb hg)
  rw [run_storeCells_row _ w.heap.size 77 pzero (xcells x7367777 7367777 g) hk.out rfl (xcells_one rfl)]
  go_wp2_with fail
  have hbb := ((Below.refl _ w).alloc (Nat.le_refl _) (.cells pzero 77)).trans (Hb.out.mono (by simp))
  exact bodyPost_ret (results_cell_row rfl _ _ w.heap.size 77 (xcells x7367777 7367777 g) (0, 0) _ rfl (hk.out.row _) Tryz.underlying77 rfl (proto_size.trans rfl)) rfl
    ⟨g, rfl, Nat.le_of_succ_le hgg.out, Hr.out.rowFar (by have := hgg.out; omega) _, below_setRow hbb (Nat.le_refl _) _⟩
theorem ptrx_7367777 (w : World) : Calls Tryz.prog 63 #[.int .i64 7367777] w (OutXP x7367777 7367777 w) := by
  go_enter Tryz.func63, Tryz.ntmps63
  go_wp2_with (go_at_call 69; refine (codedx_7367777 _).mono ?_; rintro e w1 ⟨g, rfl, hg, hr, hb⟩; have Hb := Lib.hid hb; have Hr := Lib.hid hr; have hgg := Lib.hid hg; clear hr hb hg)
  rw [run_storeCells_new w1 77 #[.string ⟨#[]⟩, .int .i64 0, .slice none 0 0, .int .i64 0, .bool false, .nilIface] (xcells x7367777 7367777 g) rfl (xcells_one rfl)]
  have hk := Blk.new w1 77 (xcells x7367777 7367777 g)
  have c1 : (w1.alloc (.cells (xcells x7367777 7367777 g) 77)).cell? ⟨w1.heap.size, 1, none⟩ = some (.int .i64 7367777) := hk.cell 1
  have HK := Lib.hid hk
  clear hk
  go_wp2_with fail
  go_ret
  exact ⟨w1.heap.size, g, rfl, Hb.out.size, hgg.out, Nat.ne_of_gt Hr.out.lt, HK.out, Hr.out.alloc _, Hb.out.alloc Hb.out.size _⟩
end Go.Proofs.YtghddiboggdhcaaGreatDoor
/- A component is read off the head of any bytes. Conditions: the package variables as laid, or typed. -/
namespace Go.Proofs.YtghddiboggdhcaaGreatDoor
open Go.RowKit
variable {K : Nat} {f : Nat → Int}
attribute [local go_sem ↓] Go.wp_at_zero Go.wp_at_succ
theorem protoX_no {k : Nat} (h : protoX k = none) : k ≠ 4 ∧ k ≠ 6 ∧ k ≠ 33 ∧ k ≠ 41 ∧ k ≠ 42 ∧ k ≠ 43 ∧ k ≠ 53 ∧ k ≠ 54 ∧ k ≠ 55 ∧ k ≠ 56 ∧ k ≠ 132 ∧ k ≠ 273 ∧ k ≠ 276 ∧ k ≠ 280 ∧ k ≠ 281 ∧ k ≠ 290 ∧ k ≠ 301 ∧ k ≠ 302 ∧ k ≠ 400 ∧ k ≠ 421 ∧ k ≠ 443 ∧ k ≠ 444 ∧ k ≠ 445 ∧ k ≠ 446 ∧ k ≠ 447 ∧ k ≠ 448 ∧ k ≠ 449 ∧ k ≠ 454 ∧ k ≠ 460 ∧ k ≠ 461 ∧ k ≠ 465 ∧ k ≠ 466 ∧ k ≠ 477 ∧ k ≠ 478 ∧ k ≠ 480 ∧ k ≠ 481 ∧ k ≠ 777 ∧ k ≠ 7367777 := by
  refine ⟨?_, ?_, ?_, ?_, ?_, ?_, ?_, ?_, ?_, ?_, ?_, ?_, ?_, ?_, ?_, ?_, ?_, ?_, ?_, ?_, ?_, ?_, ?_, ?_, ?_, ?_, ?_, ?_, ?_, ?_, ?_, ?_, ?_, ?_, ?_, ?_, ?_, ?_⟩ <;> (rintro rfl; cases h)
theorem codedx_no (k : Nat) (h : protoX k = none) (w : World) : Calls Tryz.prog 69 #[.int .i64 k] w fun e w' => e = .returned (.agg pzero) ∧ Below w.heap.size w w' := by
  obtain ⟨n4, n6, n33, n41, n42, n43, n53, n54, n55, n56, n132, n273, n276, n280, n281, n290, n301, n302, n400, n421, n443, n444, n445, n446, n447, n448, n449, n454, n460, n461, n465, n466, n477, n478, n480, n481, n777, n7367777⟩ := protoX_no h
  clear h
  replace n4 : ((k : Int) == 4) = false := by simp; omega
  replace n6 : ((k : Int) == 6) = false := by simp; omega
  replace n33 : ((k : Int) == 33) = false := by simp; omega
  replace n41 : ((k : Int) == 41) = false := by simp; omega
  replace n42 : ((k : Int) == 42) = false := by simp; omega
  replace n43 : ((k : Int) == 43) = false := by simp; omega
  replace n53 : ((k : Int) == 53) = false := by simp; omega
  replace n54 : ((k : Int) == 54) = false := by simp; omega
  replace n55 : ((k : Int) == 55) = false := by simp; omega
  replace n56 : ((k : Int) == 56) = false := by simp; omega
  replace n132 : ((k : Int) == 132) = false := by simp; omega
  replace n273 : ((k : Int) == 273) = false := by simp; omega
  replace n276 : ((k : Int) == 276) = false := by simp; omega
  replace n280 : ((k : Int) == 280) = false := by simp; omega
  replace n281 : ((k : Int) == 281) = false := by simp; omega
  replace n290 : ((k : Int) == 290) = false := by simp; omega
  replace n301 : ((k : Int) == 301) = false := by simp; omega
  replace n302 : ((k : Int) == 302) = false := by simp; omega
  replace n400 : ((k : Int) == 400) = false := by simp; omega
  replace n421 : ((k : Int) == 421) = false := by simp; omega
  replace n443 : ((k : Int) == 443) = false := by simp; omega
  replace n444 : ((k : Int) == 444) = false := by simp; omega
  replace n445 : ((k : Int) == 445) = false := by simp; omega
  replace n446 : ((k : Int) == 446) = false := by simp; omega
  replace n447 : ((k : Int) == 447) = false := by simp; omega
  replace n448 : ((k : Int) == 448) = false := by simp; omega
  replace n449 : ((k : Int) == 449) = false := by simp; omega
  replace n454 : ((k : Int) == 454) = false := by simp; omega
  replace n460 : ((k : Int) == 460) = false := by simp; omega
  replace n461 : ((k : Int) == 461) = false := by simp; omega
  replace n465 : ((k : Int) == 465) = false := by simp; omega
  replace n466 : ((k : Int) == 466) = false := by simp; omega
  replace n477 : ((k : Int) == 477) = false := by simp; omega
  replace n478 : ((k : Int) == 478) = false := by simp; omega
  replace n480 : ((k : Int) == 480) = false := by simp; omega
  replace n481 : ((k : Int) == 481) = false := by simp; omega
  replace n777 : ((k : Int) == 777) = false := by simp; omega
  replace n7367777 : ((k : Int) == 7367777) = false := by simp; omega
  go_enter Tryz.func69, Tryz.ntmps69
  go_wp2_with fail
  exact bodyPost_ret (results_cell_row rfl _ _ w.heap.size 77 pzero (0, 0) _ rfl (Blk.new _ _ _) Tryz.underlying77 rfl (proto_size.trans rfl)) rfl ⟨rfl, (Below.refl _ w).alloc (Nat.le_refl _) _⟩
theorem pcodex_no (k : Nat) (h : protoX k = none) (w : World) : Calls Tryz.prog 62 #[.int .i64 k] w fun e w' => e = .returned (.agg pzero) ∧ Below w.heap.size w w' := by
  have HC := Lib.hid (codedx_no k h)
  clear h
  go_enter Tryz.func62, Tryz.ntmps62
  go_wp2_with (go_at_call 69; refine (HC.out _).mono ?_; rintro e w1 ⟨rfl, hb⟩; have hk := Lib.hid ((Blk.new w 77 pzero).below hb (by simp)); have Hb := Lib.hid hb; clear hb)
  rw [run_storeCells_row _ w.heap.size 77 pzero pzero hk.out rfl (by simp only [pzero, List.all_toArray, List.all_cons, List.all_nil]; rfl)]
  go_wp2_with fail
  have hbb := ((Below.refl _ w).alloc (Nat.le_refl _) (.cells pzero 77)).trans (Hb.out.mono (by simp))
  exact bodyPost_ret (results_cell_row rfl _ _ w.heap.size 77 pzero (0, 0) _ rfl (hk.out.row _) Tryz.underlying77 rfl (proto_size.trans rfl)) rfl ⟨rfl, below_setRow hbb (Nat.le_refl _) _⟩
theorem protoX_one {k : Nat} {X : ProtoX} (h : protoX k = some X) : X.tc.oneCell' = true := by
  unfold protoX at h
  split at h <;> cases h <;> rfl
theorem protoX_pos {k : Nat} {X : ProtoX} (h : protoX k = some X) : k ≠ 0 := by
  rintro rfl
  cases h
theorem pcodex_x {k : Nat} {X : ProtoX} (h : protoX k = some X) (w : World) : Calls Tryz.prog 62 #[.int .i64 k] w (OutX X k w) := by
  unfold protoX at h
  split at h <;> cases h
  · exact pcodex_4 w
  · exact pcodex_6 w
  · exact pcodex_33 w
  · exact pcodex_41 w
  · exact pcodex_42 w
  · exact pcodex_43 w
  · exact pcodex_53 w
  · exact pcodex_54 w
  · exact pcodex_55 w
  · exact pcodex_56 w
  · exact pcodex_132 w
  · exact pcodex_273 w
  · exact pcodex_276 w
  · exact pcodex_280 w
  · exact pcodex_281 w
  · exact pcodex_290 w
  · exact pcodex_301 w
  · exact pcodex_302 w
  · exact pcodex_400 w
  · exact pcodex_421 w
  · exact pcodex_443 w
  · exact pcodex_444 w
  · exact pcodex_445 w
  · exact pcodex_446 w
  · exact pcodex_447 w
  · exact pcodex_448 w
  · exact pcodex_449 w
  · exact pcodex_454 w
  · exact pcodex_460 w
  · exact pcodex_461 w
  · exact pcodex_465 w
  · exact pcodex_466 w
  · exact pcodex_477 w
  · exact pcodex_478 w
  · exact pcodex_480 w
  · exact pcodex_481 w
  · exact pcodex_777 w
  · exact pcodex_7367777 w
theorem ptrx_x {k : Nat} {X : ProtoX} (h : protoX k = some X) (w : World) : Calls Tryz.prog 63 #[.int .i64 k] w (OutXP X k w) := by
  unfold protoX at h
  split at h <;> cases h
  · exact ptrx_4 w
  · exact ptrx_6 w
  · exact ptrx_33 w
  · exact ptrx_41 w
  · exact ptrx_42 w
  · exact ptrx_43 w
  · exact ptrx_53 w
  · exact ptrx_54 w
  · exact ptrx_55 w
  · exact ptrx_56 w
  · exact ptrx_132 w
  · exact ptrx_273 w
  · exact ptrx_276 w
  · exact ptrx_280 w
  · exact ptrx_281 w
  · exact ptrx_290 w
  · exact ptrx_301 w
  · exact ptrx_302 w
  · exact ptrx_400 w
  · exact ptrx_421 w
  · exact ptrx_443 w
  · exact ptrx_444 w
  · exact ptrx_445 w
  · exact ptrx_446 w
  · exact ptrx_447 w
  · exact ptrx_448 w
  · exact ptrx_449 w
  · exact ptrx_454 w
  · exact ptrx_460 w
  · exact ptrx_461 w
  · exact ptrx_465 w
  · exact ptrx_466 w
  · exact ptrx_477 w
  · exact ptrx_478 w
  · exact ptrx_480 w
  · exact ptrx_481 w
  · exact ptrx_777 w
  · exact ptrx_7367777 w
end Go.Proofs.YtghddiboggdhcaaGreatDoor
/- readComponent at any bytes. Conditions: the package variables as laid, or typed. -/
namespace Go.Proofs.YtghddiboggdhcaaGreatDoor
open Go.RowKit
variable {K : Nat} {f : Nat → Int}
attribute [local go_sem ↓] Go.wp_at_zero Go.wp_at_succ
def OutRC (o : Option (Nat × Nat × Nat)) (d : List UInt8) (w : World) (e : Ending) (w' : World) : Prop :=
  match o with
  | some (N, k, vs) => ∃ q p g X, protoX k = some X ∧ e = .returned (.tuple #[.int .i64 N, .pointer (some ⟨q, 0, none⟩), .nilIface]) ∧ Blk w' q 81 (ccells (d.take N) p vs) ∧ Blk w' p 77 (xcells X k g) ∧ Below w.heap.size w w'
  | none => OutE3 w e w'
theorem rvc_facts {d : List UInt8} {k n : Nat} (h : rvc d = some (k, n)) : uv d = some (k, n) ∧ k ≤ 2147483647 ∧ 1 ≤ n ∧ n ≤ d.length ∧ n ≤ 9 := by
  unfold rvc at h
  split at h
  · rename_i v m hu
    split at h
    · cases h
      have := uv_facts hu
      exact ⟨hu, by assumption, this.1, this.2.1, this.2.2.1⟩
    · cases h
  · cases h
theorem uvAt_more : ∀ (l m : List UInt8) (i x v n : Nat), uvAt i x l = some (v, n) → l.take (n - i) = m.take (n - i) → n - i ≤ m.length → uvAt i x m = some (v, n)
  | [], m, i, x, v, n, h, _, _ => by simp [uvAt] at h
  | b :: r, m, i, x, v, n, h, ht, hm => by
    have hf := uvAt_facts _ _ _ _ _ h
    obtain ⟨k, hk⟩ : ∃ k, n - i = k + 1 := ⟨n - i - 1, by omega⟩
    rw [hk] at ht hm
    match m, hm with
    | c :: r', hm =>
      rw [List.take_succ_cons, List.take_succ_cons] at ht
      injection ht with h1 h2
      subst h1
      rw [uvAt] at h ⊢
      split at h
      · cases h
      · rename_i h9
        rw [if_neg h9]
        split at h
        · rename_i hb
          rw [if_pos hb]
          exact h
        · rename_i hb
          rw [if_neg hb]
          exact uvAt_more r r' (i + 1) _ v n h (by rw [show n - (i + 1) = k by omega]; exact h2) (by simp at hm; omega)
theorem rvc_take {l : List UInt8} {v n : Nat} (h : rvc l = some (v, n)) : ∀ {r : List UInt8}, rvc (l.take n ++ r) = some (v, n) := by
  intro r
  have hf := rvc_facts h
  have h1 : uv (l.take n ++ r) = some (v, n) := uvAt_more l _ 0 0 v n hf.1 (by simp only [Nat.sub_zero]; rw [List.take_left' (by simp; omega)]) (by simp; omega)
  unfold rvc
  rw [h1]
  simp only
  rw [if_pos hf.2.1]
theorem vc_take {d : List UInt8} {k n : Nat} {X : ProtoX} (h : rvc d = some (k, n)) (hX : protoX k = some X) : d.take n = X.vc ∧ X.vc.length = n := by
  have h1 := rvc_facts h
  have h2 : d.take n = X.vc := (uv_leb h1.1).trans (protoX_vc hX).symm
  exact ⟨h2, by rw [← h2]; simp; omega⟩
theorem rd_none (A : Option Addr) (c : Nat) (d : List UInt8) (w : World) (hE : EnvX K f w) (h : RB w w.heap.size A d.length c d) (hn : d.length ≤ 1000) (hr : rvc d = none) : Calls Tryz.prog 54 #[.slice A d.length c] w (OutRC none d w) := by
  have q0 : ∀ w : World, (binOp .neq 52 .nilIface .nilIface).run Tryz.prog w = .ok (.bool false) w := fun _ => by kernel_rfl
  have qn : ∀ (t : TypeId) (v : Value) (w : World), (binOp .neq 52 (.iface t v) .nilIface).run Tryz.prog w = .ok (.bool true) w := fun _ _ _ => by kernel_rfl
  have HR := Lib.hid (rvc_x A _ c d w h hE.vrs (by omega))
  clear h hE
  rw [hr] at HR
  go_enter Tryz.func54, Tryz.ntmps54
  go_wp2_with fail
  refine HR.out.mono ?_
  rintro e w1 ⟨hb, ⟨v, m, h1, _⟩ | ⟨_, t, u, rfl⟩⟩
  · cases h1
  · have HB := Lib.hid hb
    clear hb
    go_wp2_with fail
    go_ret3
    exact ⟨t, u, rfl, HB.out⟩
theorem rd_unk (A : Option Addr) (c : Nat) (d : List UInt8) (k n : Nat) (w : World) (hE : EnvX K f w) (h : RB w w.heap.size A d.length c d) (hn : d.length ≤ 1000) (hr : rvc d = some (k, n)) (hk : protoX k = none) : Calls Tryz.prog 54 #[.slice A d.length c] w (OutRC none d w) := by
  have q0 : ∀ w : World, (binOp .neq 52 .nilIface .nilIface).run Tryz.prog w = .ok (.bool false) w := fun _ => by kernel_rfl
  have qn : ∀ (t : TypeId) (v : Value) (w : World), (binOp .neq 52 (.iface t v) .nilIface).run Tryz.prog w = .ok (.bool true) w := fun _ _ _ => by kernel_rfl
  have HR := Lib.hid (rvc_x A _ c d w h hE.vrs (by omega))
  have HP := Lib.hid (pcodex_no k hk)
  have HE := Lib.hid (fun s w => errnew_any s w)
  have hf := rvc_facts hr
  clear h hE hk
  rw [hr] at HR
  go_enter Tryz.func54, Tryz.ntmps54
  go_wp2_with fail
  refine HR.out.mono ?_
  rintro e w1 ⟨hb, ⟨v, m, h1, rfl⟩ | ⟨h1, _⟩⟩
  · cases h1
    have HB := Lib.hid hb
    clear hb
    go_wp2_with fail
    refine (HP.out _).mono ?_
    rintro e w2 ⟨rfl, hb2⟩
    have HB2 := Lib.hid (HB.out.trans (hb2.mono HB.out.size))
    clear hb2
    go_wp2_with fail
    rw [run_storeCells_new w2 77 #[.string ⟨#[]⟩, .int .i64 0, .slice none 0 0, .int .i64 0, .bool false, .nilIface] pzero rfl (by simp only [pzero, List.all_toArray, List.all_cons, List.all_nil]; rfl)]
    have hk := Blk.new w2 77 pzero
    have k1 : (w2.alloc (.cells pzero 77)).cell? ⟨w2.heap.size, 1, none⟩ = some (.int .i64 0) := hk.cell 1
    have HBA := Lib.hid (HB2.out.alloc HB2.out.size (.cells pzero 77))
    clear hk
    go_wp2_with fail
    refine (HE.out _ _).mono ?_
    rintro e w3 ⟨t, u, rfl, hb3⟩
    have HB3 := Lib.hid (HBA.out.trans (hb3.mono HBA.out.size))
    clear hb3
    go_wp2_with fail
    go_ret3
    exact ⟨t, u, rfl, HB3.out⟩
  · cases h1
theorem rd_0 (hK : 18446744073709551616 ≤ K) (A : Option Addr) (c : Nat) (d : List UInt8) (k n : Nat) (X : ProtoX) (w : World) (hE : EnvX K f w) (h : RB w w.heap.size A d.length c d) (hn : d.length ≤ 1000) (hr : rvc d = some (k, n)) (hX : protoX k = some X) (hs : X.size = 0) (o : Option (Nat × Nat × Nat)) (hok : o = if okD k ([]) then some (n, k, n) else none) : Calls Tryz.prog 54 #[.slice A d.length c] w (OutRC o d w) := by
  have HOK := Lib.hid hok
  clear hok
  have q0 : ∀ w : World, (binOp .neq 52 .nilIface .nilIface).run Tryz.prog w = .ok (.bool false) w := fun _ => by kernel_rfl
  have qn : ∀ (t : TypeId) (v : Value) (w : World), (binOp .neq 52 (.iface t v) .nilIface).run Tryz.prog w = .ok (.bool true) w := fun _ _ _ => by kernel_rfl
  have HR := Lib.hid (rvc_x A _ c d w h hE.vrs (by omega))
  have HP := Lib.hid (pcodex_x hX)
  have HPT := Lib.hid (ptrx_x hX)
  have HE := Lib.hid (fun s w => errnew_any s w)
  have HEV := Lib.hid hE
  have HD := Lib.hid h
  have hf := rvc_facts hr
  have hone := protoX_one hX
  have hk0 : ((k : Int) == 0) = false := by have := protoX_pos hX; simp; omega
  have HVC := Lib.hid (vc_take hr hX)
  have HX := Lib.hid hX
  have HRV := Lib.hid hr
  have hcap := h.cap
  have hmax : c ≤ 9223372036854775807 := h.max
  clear h hE hX
  rw [hr] at HR
  have n0 : (0 : Int) ≤ (n : Int) := by omega
  have n1 : (n : Int) ≤ (d.length : Int) := by omega
  have n2 : (n : Int) ≤ (c : Int) := by omega
  clear hr
  go_enter Tryz.func54, Tryz.ntmps54
  go_wp2_with fail
  refine HR.out.mono ?_
  intro e w0 hout
  obtain ⟨hb, rfl⟩ : Below w.heap.size w w0 ∧ e = .returned (.tuple #[.int .i64 k, .int .i64 n, .nilIface]) := by
    obtain ⟨hb, ⟨v, m', h1, rfl⟩ | ⟨h1, _⟩⟩ := hout
    · cases h1
      exact ⟨hb, rfl⟩
    · cases h1
  clear hout
  have HB0 := Lib.hid hb
  clear hb
  go_wp2_with fail
  refine (HP.out _).mono ?_
  rintro e w1 ⟨g1, rfl, _, _, hb1⟩
  have HB1 := Lib.hid (HB0.out.trans (hb1.mono HB0.out.size))
  clear hb1
  go_wp2_with fail
  rw [run_storeCells_new w1 77 #[.string ⟨#[]⟩, .int .i64 0, .slice none 0 0, .int .i64 0, .bool false, .nilIface] (xcells X k g1) rfl (xcells_one hone)]
  have hk := Blk.new w1 77 (xcells X k g1)
  have k1 : (w1.alloc (.cells (xcells X k g1) 77)).cell? ⟨w1.heap.size, 1, none⟩ = some (.int .i64 k) := hk.cell 1
  have HK := Lib.hid hk
  clear hk
  go_wp2_with fail
  clear k1
  refine (HPT.out _).mono ?_
  rintro e w3 ⟨p, g, rfl, _, _, _, hp, hv, hb3⟩
  have k3 : w3.cell? ⟨w1.heap.size, 3, none⟩ = some (.int .i64 0) := ((HK.out.below hb3 HK.out.lt).cell 3).trans (by rw [← hs]; rfl)
  have HP2 := Lib.hid hp
  have HV2 := Lib.hid hv
  have HB3 := Lib.hid ((HB1.out.alloc HB1.out.size (.cells (xcells X k g1) 77)).trans (hb3.mono (Nat.le_trans HB1.out.size (by simp))))
  clear hp hv hb3
  have HS := Lib.hid hs
  clear hs
  have cvt := run_convert_RB ((HD.out.below HB3.out).take (k := n) (by omega)) 22 5 Tryz.underlying22 Tryz.underlying5 9 Tryz.underlying9
  obtain ⟨CL, hCL⟩ : ∃ CL, CL = d.take n := ⟨_, rfl⟩
  rw [← hCL] at cvt
  have HCL := Lib.hid hCL
  clear hCL
  go_wp2_with fail
  have hcm : CmX (w3.alloc (.cells #[.string ⟨CL.toArray⟩, .pointer (some ⟨p, 0, none⟩), .int .i64 (n : Nat)] 81)) w3.heap.size CL p (n) g ⟨X.name.toArray⟩ k X.size X.path X.tc X.vc := ⟨Blk.new _ _ _, HP2.out.alloc _, HV2.out.alloc _⟩
  have HCM := Lib.hid hcm
  have HBW := Lib.hid (HB3.out.alloc HB3.out.size (.cells #[.string ⟨CL.toArray⟩, .pointer (some ⟨p, 0, none⟩), .int .i64 (n : Nat)] 81))
  clear hcm
  have hsh : Shape X CL (n) [] := by rw [HCL.out]; exact .inl ⟨HS.out, HVC.out.1, HVC.out.2.symm, rfl⟩
  refine (valid_x hK HX.out (by rw [HVC.out.2]; omega) (by rw [HVC.out.2]; omega) _ p g (n) CL [] _ (HEV.out.below HBW.out) HCM.out hsh).mono ?_
  intro e w5 hout
  obtain ⟨v, rfl, hv, hb5⟩ := hout.split
  have HF := Lib.hid (HCM.out.below hb5)
  have HBF := Lib.hid (HBW.out.trans (hb5.mono HBW.out.size))
  have HV := Lib.hid hv
  clear hb5 hv hout hsh
  rcases HV.out with ⟨h, rfl⟩ | ⟨h, t, u, rfl⟩
  · have ho := HOK.out
    rw [h, if_pos rfl] at ho
    have HO := Lib.hid ho
    clear h ho
    go_wp2_with fail
    go_ret3
    rw [HO.out]
    exact ⟨_, p, g, X, HX.out, rfl, by have := HF.out.comp; rw [HCL.out] at this; exact this, HF.out.prot, HBF.out⟩
  · have ho := HOK.out
    rw [h, if_neg (by decide)] at ho
    have HO := Lib.hid ho
    clear h ho
    go_wp2_with fail
    go_ret3
    rw [HO.out]
    exact ⟨t, u, rfl, HBF.out⟩
theorem rd_fix (hK : 18446744073709551616 ≤ K) (A : Option Addr) (c : Nat) (d : List UInt8) (k n : Nat) (X : ProtoX) (w : World) (hE : EnvX K f w) (h : RB w w.heap.size A d.length c d) (hn : d.length ≤ 1000) (hr : rvc d = some (k, n)) (hX : protoX k = some X) (m : Nat) (hs : X.size = ((8 * m : Nat) : Int)) (hm : 0 < m) (hm2 : m ≤ 1000) (hlen : n + m ≤ d.length) (o : Option (Nat × Nat × Nat)) (hok : o = if okD k ((d.drop n).take m) then some (n + m, k, n) else none) : Calls Tryz.prog 54 #[.slice A d.length c] w (OutRC o d w) := by
  have HOK := Lib.hid hok
  clear hok
  obtain ⟨Z, hZ⟩ : ∃ Z, Z = 8 * m := ⟨_, rfl⟩
  have hz8 : (Z : Int) / 8 = (m : Int) := by omega
  have hz9 : decide ((Z : Int) < 0) = false := by simp
  have hz7 : ((Z : Int) == 0) = false := by simp; omega
  have q0 : ∀ w : World, (binOp .neq 52 .nilIface .nilIface).run Tryz.prog w = .ok (.bool false) w := fun _ => by kernel_rfl
  have qn : ∀ (t : TypeId) (v : Value) (w : World), (binOp .neq 52 (.iface t v) .nilIface).run Tryz.prog w = .ok (.bool true) w := fun _ _ _ => by kernel_rfl
  have HR := Lib.hid (rvc_x A _ c d w h hE.vrs (by omega))
  have HP := Lib.hid (pcodex_x hX)
  have HPT := Lib.hid (ptrx_x hX)
  have HE := Lib.hid (fun s w => errnew_any s w)
  have HEV := Lib.hid hE
  have HD := Lib.hid h
  have hf := rvc_facts hr
  have hone := protoX_one hX
  have hk0 : ((k : Int) == 0) = false := by have := protoX_pos hX; simp; omega
  have HVC := Lib.hid (vc_take hr hX)
  have HX := Lib.hid hX
  have HRV := Lib.hid hr
  have hcap := h.cap
  have hmax : c ≤ 9223372036854775807 := h.max
  clear h hE hX
  rw [hr] at HR
  have n0 : (0 : Int) ≤ (n : Int) := by omega
  have n1 : (n : Int) ≤ (d.length : Int) := by omega
  have n2 : (n : Int) ≤ (c : Int) := by omega
  clear hr
  go_enter Tryz.func54, Tryz.ntmps54
  go_wp2_with fail
  refine HR.out.mono ?_
  intro e w0 hout
  obtain ⟨hb, rfl⟩ : Below w.heap.size w w0 ∧ e = .returned (.tuple #[.int .i64 k, .int .i64 n, .nilIface]) := by
    obtain ⟨hb, ⟨v, m', h1, rfl⟩ | ⟨h1, _⟩⟩ := hout
    · cases h1
      exact ⟨hb, rfl⟩
    · cases h1
  clear hout
  have HB0 := Lib.hid hb
  clear hb
  go_wp2_with fail
  refine (HP.out _).mono ?_
  rintro e w1 ⟨g1, rfl, _, _, hb1⟩
  have HB1 := Lib.hid (HB0.out.trans (hb1.mono HB0.out.size))
  clear hb1
  go_wp2_with fail
  rw [run_storeCells_new w1 77 #[.string ⟨#[]⟩, .int .i64 0, .slice none 0 0, .int .i64 0, .bool false, .nilIface] (xcells X k g1) rfl (xcells_one hone)]
  have hk := Blk.new w1 77 (xcells X k g1)
  have k1 : (w1.alloc (.cells (xcells X k g1) 77)).cell? ⟨w1.heap.size, 1, none⟩ = some (.int .i64 k) := hk.cell 1
  have HK := Lib.hid hk
  clear hk
  go_wp2_with fail
  clear k1
  refine (HPT.out _).mono ?_
  rintro e w3 ⟨p, g, rfl, _, _, _, hp, hv, hb3⟩
  have k3 : w3.cell? ⟨w1.heap.size, 3, none⟩ = some (.int .i64 (Z : Int)) := ((HK.out.below hb3 HK.out.lt).cell 3).trans (show some (Value.int .i64 X.size) = some (.int .i64 ((Z : Nat) : Int)) by rw [hs, hZ])
  have HP2 := Lib.hid hp
  have HV2 := Lib.hid hv
  have HB3 := Lib.hid ((HB1.out.alloc HB1.out.size (.cells (xcells X k g1) 77)).trans (hb3.mono (Nat.le_trans HB1.out.size (by simp))))
  clear hp hv hb3
  have HS := Lib.hid hs
  clear hs hZ
  have cvt := run_convert_RB ((HD.out.below HB3.out).take (k := n + m) (by omega)) 22 5 Tryz.underlying22 Tryz.underlying5 9 Tryz.underlying9
  obtain ⟨CL, hCL⟩ : ∃ CL, CL = d.take (n + m) := ⟨_, rfl⟩
  rw [← hCL] at cvt
  have HCL := Lib.hid hCL
  have m1 : (n : Int) + (m : Int) ≤ (d.length : Int) := by omega
  have m2 : (n : Int) + (m : Int) ≤ (c : Int) := by omega
  have m3 : ((n : Int) + (m : Int)).toNat = n + m := by omega
  have m4 : 0 ≤ (n : Int) + (m : Int) := by omega
  have m5 : decide (((d.length - n : Nat) : Int) < (m : Int)) = false := by simp; omega
  have m6 : decide ((m : Int) ≤ 0) = false := by simp; omega
  have m7 : IntKind.i64.wrap ((n : Int) + (m : Int)) = (n : Int) + (m : Int) := IntWalk.i64_in _ (by omega)
  have m8 : (d.length : Int) - (n : Int) = ((d.length - n : Nat) : Int) := by omega
  clear hCL
  go_wp2_with fail
  have hcm : CmX (w3.alloc (.cells #[.string ⟨CL.toArray⟩, .pointer (some ⟨p, 0, none⟩), .int .i64 (n : Nat)] 81)) w3.heap.size CL p (n) g ⟨X.name.toArray⟩ k X.size X.path X.tc X.vc := ⟨Blk.new _ _ _, HP2.out.alloc _, HV2.out.alloc _⟩
  have HCM := Lib.hid hcm
  have HBW := Lib.hid (HB3.out.alloc HB3.out.size (.cells #[.string ⟨CL.toArray⟩, .pointer (some ⟨p, 0, none⟩), .int .i64 (n : Nat)] 81))
  clear hcm
  have hsh : Shape X CL (n) ((d.drop n).take m) := by rw [HCL.out]; exact .inr (.inl ⟨by rw [HS.out]; omega, by rw [← HVC.out.1, List.take_add], HVC.out.2.symm, by rw [HS.out]; simp; omega⟩)
  refine (valid_x hK HX.out (by rw [HVC.out.2]; omega) (by rw [HVC.out.2]; omega) _ p g (n) CL ((d.drop n).take m) _ (HEV.out.below HBW.out) HCM.out hsh).mono ?_
  intro e w5 hout
  obtain ⟨v, rfl, hv, hb5⟩ := hout.split
  have HF := Lib.hid (HCM.out.below hb5)
  have HBF := Lib.hid (HBW.out.trans (hb5.mono HBW.out.size))
  have HV := Lib.hid hv
  clear hb5 hv hout hsh
  rcases HV.out with ⟨h, rfl⟩ | ⟨h, t, u, rfl⟩
  · have ho := HOK.out
    rw [h, if_pos rfl] at ho
    have HO := Lib.hid ho
    clear h ho
    go_wp2_with fail
    go_ret3
    rw [HO.out]
    exact ⟨_, p, g, X, HX.out, by rw [show ((n + m : Nat) : Int) = (n : Int) + (m : Int) by omega]; rfl, by have := HF.out.comp; rw [HCL.out] at this; exact this, HF.out.prot, HBF.out⟩
  · have ho := HOK.out
    rw [h, if_neg (by decide)] at ho
    have HO := Lib.hid ho
    clear h ho
    go_wp2_with fail
    go_ret3
    rw [HO.out]
    exact ⟨t, u, rfl, HBF.out⟩
theorem rd_fixno (A : Option Addr) (c : Nat) (d : List UInt8) (k n : Nat) (X : ProtoX) (w : World) (hE : EnvX K f w) (h : RB w w.heap.size A d.length c d) (hn : d.length ≤ 1000) (hr : rvc d = some (k, n)) (hX : protoX k = some X) (m : Nat) (hs : X.size = ((8 * m : Nat) : Int)) (hm : 0 < m) (hm2 : m ≤ 1000) (hlen : ¬ n + m ≤ d.length) : Calls Tryz.prog 54 #[.slice A d.length c] w (OutRC none d w) := by
  obtain ⟨Z, hZ⟩ : ∃ Z, Z = 8 * m := ⟨_, rfl⟩
  have hz8 : (Z : Int) / 8 = (m : Int) := by omega
  have hz9 : decide ((Z : Int) < 0) = false := by simp
  have hz7 : ((Z : Int) == 0) = false := by simp; omega
  have q0 : ∀ w : World, (binOp .neq 52 .nilIface .nilIface).run Tryz.prog w = .ok (.bool false) w := fun _ => by kernel_rfl
  have qn : ∀ (t : TypeId) (v : Value) (w : World), (binOp .neq 52 (.iface t v) .nilIface).run Tryz.prog w = .ok (.bool true) w := fun _ _ _ => by kernel_rfl
  have HR := Lib.hid (rvc_x A _ c d w h hE.vrs (by omega))
  have HP := Lib.hid (pcodex_x hX)
  have HPT := Lib.hid (ptrx_x hX)
  have HE := Lib.hid (fun s w => errnew_any s w)
  have HEV := Lib.hid hE
  have HD := Lib.hid h
  have hf := rvc_facts hr
  have hone := protoX_one hX
  have hk0 : ((k : Int) == 0) = false := by have := protoX_pos hX; simp; omega
  have HVC := Lib.hid (vc_take hr hX)
  have HX := Lib.hid hX
  have HRV := Lib.hid hr
  have hcap := h.cap
  have hmax : c ≤ 9223372036854775807 := h.max
  clear h hE hX
  rw [hr] at HR
  have n0 : (0 : Int) ≤ (n : Int) := by omega
  have n1 : (n : Int) ≤ (d.length : Int) := by omega
  have n2 : (n : Int) ≤ (c : Int) := by omega
  clear hr
  go_enter Tryz.func54, Tryz.ntmps54
  go_wp2_with fail
  refine HR.out.mono ?_
  intro e w0 hout
  obtain ⟨hb, rfl⟩ : Below w.heap.size w w0 ∧ e = .returned (.tuple #[.int .i64 k, .int .i64 n, .nilIface]) := by
    obtain ⟨hb, ⟨v, m', h1, rfl⟩ | ⟨h1, _⟩⟩ := hout
    · cases h1
      exact ⟨hb, rfl⟩
    · cases h1
  clear hout
  have HB0 := Lib.hid hb
  clear hb
  go_wp2_with fail
  refine (HP.out _).mono ?_
  rintro e w1 ⟨g1, rfl, _, _, hb1⟩
  have HB1 := Lib.hid (HB0.out.trans (hb1.mono HB0.out.size))
  clear hb1
  go_wp2_with fail
  rw [run_storeCells_new w1 77 #[.string ⟨#[]⟩, .int .i64 0, .slice none 0 0, .int .i64 0, .bool false, .nilIface] (xcells X k g1) rfl (xcells_one hone)]
  have hk := Blk.new w1 77 (xcells X k g1)
  have k1 : (w1.alloc (.cells (xcells X k g1) 77)).cell? ⟨w1.heap.size, 1, none⟩ = some (.int .i64 k) := hk.cell 1
  have HK := Lib.hid hk
  clear hk
  go_wp2_with fail
  clear k1
  refine (HPT.out _).mono ?_
  rintro e w3 ⟨p, g, rfl, _, _, _, hp, hv, hb3⟩
  have k3 : w3.cell? ⟨w1.heap.size, 3, none⟩ = some (.int .i64 (Z : Int)) := ((HK.out.below hb3 HK.out.lt).cell 3).trans (show some (Value.int .i64 X.size) = some (.int .i64 ((Z : Nat) : Int)) by rw [hs, hZ])
  have HP2 := Lib.hid hp
  have HV2 := Lib.hid hv
  have HB3 := Lib.hid ((HB1.out.alloc HB1.out.size (.cells (xcells X k g1) 77)).trans (hb3.mono (Nat.le_trans HB1.out.size (by simp))))
  clear hp hv hb3
  have HS := Lib.hid hs
  clear hs hZ
  have m5 : decide (((d.length - n : Nat) : Int) < (m : Int)) = true := by simp; omega
  have m8 : (d.length : Int) - (n : Int) = ((d.length - n : Nat) : Int) := by omega
  go_wp2_with fail
  all_goals (
    refine (HE.out _ _).mono ?_
    rintro e w5 ⟨t, u, rfl, hb5⟩
    have HBF := Lib.hid (HB3.out.trans (hb5.mono HB3.out.size))
    clear hb5
    go_wp2_with fail
    go_ret3
    exact ⟨t, u, rfl, HBF.out⟩)
theorem rd_vnone (A : Option Addr) (c : Nat) (d : List UInt8) (k n : Nat) (X : ProtoX) (w : World) (hE : EnvX K f w) (h : RB w w.heap.size A d.length c d) (hn : d.length ≤ 1000) (hr : rvc d = some (k, n)) (hX : protoX k = some X) (hs : X.size = -1) (hr2 : rvc (d.drop n) = none) : Calls Tryz.prog 54 #[.slice A d.length c] w (OutRC none d w) := by
  have q0 : ∀ w : World, (binOp .neq 52 .nilIface .nilIface).run Tryz.prog w = .ok (.bool false) w := fun _ => by kernel_rfl
  have qn : ∀ (t : TypeId) (v : Value) (w : World), (binOp .neq 52 (.iface t v) .nilIface).run Tryz.prog w = .ok (.bool true) w := fun _ _ _ => by kernel_rfl
  have HR := Lib.hid (rvc_x A _ c d w h hE.vrs (by omega))
  have HP := Lib.hid (pcodex_x hX)
  have HPT := Lib.hid (ptrx_x hX)
  have HE := Lib.hid (fun s w => errnew_any s w)
  have HEV := Lib.hid hE
  have HD := Lib.hid h
  have hf := rvc_facts hr
  have hone := protoX_one hX
  have hk0 : ((k : Int) == 0) = false := by have := protoX_pos hX; simp; omega
  have HVC := Lib.hid (vc_take hr hX)
  have HX := Lib.hid hX
  have HRV := Lib.hid hr
  have hcap := h.cap
  have hmax : c ≤ 9223372036854775807 := h.max
  clear h hE hX
  rw [hr] at HR
  have n0 : (0 : Int) ≤ (n : Int) := by omega
  have n1 : (n : Int) ≤ (d.length : Int) := by omega
  have n2 : (n : Int) ≤ (c : Int) := by omega
  clear hr
  go_enter Tryz.func54, Tryz.ntmps54
  go_wp2_with fail
  refine HR.out.mono ?_
  intro e w0 hout
  obtain ⟨hb, rfl⟩ : Below w.heap.size w w0 ∧ e = .returned (.tuple #[.int .i64 k, .int .i64 n, .nilIface]) := by
    obtain ⟨hb, ⟨v, m', h1, rfl⟩ | ⟨h1, _⟩⟩ := hout
    · cases h1
      exact ⟨hb, rfl⟩
    · cases h1
  clear hout
  have HB0 := Lib.hid hb
  clear hb
  go_wp2_with fail
  refine (HP.out _).mono ?_
  rintro e w1 ⟨g1, rfl, _, _, hb1⟩
  have HB1 := Lib.hid (HB0.out.trans (hb1.mono HB0.out.size))
  clear hb1
  go_wp2_with fail
  rw [run_storeCells_new w1 77 #[.string ⟨#[]⟩, .int .i64 0, .slice none 0 0, .int .i64 0, .bool false, .nilIface] (xcells X k g1) rfl (xcells_one hone)]
  have hk := Blk.new w1 77 (xcells X k g1)
  have k1 : (w1.alloc (.cells (xcells X k g1) 77)).cell? ⟨w1.heap.size, 1, none⟩ = some (.int .i64 k) := hk.cell 1
  have HK := Lib.hid hk
  clear hk
  go_wp2_with fail
  clear k1
  refine (HPT.out _).mono ?_
  rintro e w3 ⟨p, g, rfl, _, _, _, hp, hv, hb3⟩
  have k3 : w3.cell? ⟨w1.heap.size, 3, none⟩ = some (.int .i64 (-1)) := ((HK.out.below hb3 HK.out.lt).cell 3).trans (by rw [← hs]; rfl)
  have HP2 := Lib.hid hp
  have HV2 := Lib.hid hv
  have HB3 := Lib.hid ((HB1.out.alloc HB1.out.size (.cells (xcells X k g1) 77)).trans (hb3.mono (Nat.le_trans HB1.out.size (by simp))))
  clear hp hv hb3
  have HS := Lib.hid hs
  clear hs
  obtain ⟨A2, hsl, hA2⟩ := run_from A d.length c n (by omega) hcap
  have HRW := Lib.hid (fun (w9 : World) (hx : EnvX K f w9) (hb9 : Below w.heap.size w w9) => rvc_x A2 (d.length - n) (c - n) (d.drop n) w9 (hA2 w9 _ d ((HD.out.below hb9).more hb9.size)) hx.vrs (by omega))
  rw [hr2] at HRW
  clear hA2 hr2
  go_wp2_with fail
  refine (HRW.out _ (HEV.out.below HB3.out) HB3.out).mono ?_
  rintro e w4 ⟨hb, ⟨v, m', h1, _⟩ | ⟨_, t, u, rfl⟩⟩
  · cases h1
  · have HB := Lib.hid (HB3.out.trans (hb.mono HB3.out.size))
    clear hb
    go_wp2_with fail
    go_ret3
    exact ⟨t, u, rfl, HB.out⟩
theorem rd_vbad (A : Option Addr) (c : Nat) (d : List UInt8) (k n : Nat) (X : ProtoX) (w : World) (hE : EnvX K f w) (h : RB w w.heap.size A d.length c d) (hn : d.length ≤ 1000) (hr : rvc d = some (k, n)) (hX : protoX k = some X) (hs : X.size = -1) (s n2' : Nat) (hr2 : rvc (d.drop n) = some (s, n2')) (hbad : d.length - n - n2' < s ∨ s = 0) : Calls Tryz.prog 54 #[.slice A d.length c] w (OutRC none d w) := by
  have q0 : ∀ w : World, (binOp .neq 52 .nilIface .nilIface).run Tryz.prog w = .ok (.bool false) w := fun _ => by kernel_rfl
  have qn : ∀ (t : TypeId) (v : Value) (w : World), (binOp .neq 52 (.iface t v) .nilIface).run Tryz.prog w = .ok (.bool true) w := fun _ _ _ => by kernel_rfl
  have HR := Lib.hid (rvc_x A _ c d w h hE.vrs (by omega))
  have HP := Lib.hid (pcodex_x hX)
  have HPT := Lib.hid (ptrx_x hX)
  have HE := Lib.hid (fun s w => errnew_any s w)
  have HEV := Lib.hid hE
  have HD := Lib.hid h
  have hf := rvc_facts hr
  have hone := protoX_one hX
  have hk0 : ((k : Int) == 0) = false := by have := protoX_pos hX; simp; omega
  have HVC := Lib.hid (vc_take hr hX)
  have HX := Lib.hid hX
  have HRV := Lib.hid hr
  have hcap := h.cap
  have hmax : c ≤ 9223372036854775807 := h.max
  clear h hE hX
  rw [hr] at HR
  have n0 : (0 : Int) ≤ (n : Int) := by omega
  have n1 : (n : Int) ≤ (d.length : Int) := by omega
  have n2 : (n : Int) ≤ (c : Int) := by omega
  clear hr
  go_enter Tryz.func54, Tryz.ntmps54
  go_wp2_with fail
  refine HR.out.mono ?_
  intro e w0 hout
  obtain ⟨hb, rfl⟩ : Below w.heap.size w w0 ∧ e = .returned (.tuple #[.int .i64 k, .int .i64 n, .nilIface]) := by
    obtain ⟨hb, ⟨v, m', h1, rfl⟩ | ⟨h1, _⟩⟩ := hout
    · cases h1
      exact ⟨hb, rfl⟩
    · cases h1
  clear hout
  have HB0 := Lib.hid hb
  clear hb
  go_wp2_with fail
  refine (HP.out _).mono ?_
  rintro e w1 ⟨g1, rfl, _, _, hb1⟩
  have HB1 := Lib.hid (HB0.out.trans (hb1.mono HB0.out.size))
  clear hb1
  go_wp2_with fail
  rw [run_storeCells_new w1 77 #[.string ⟨#[]⟩, .int .i64 0, .slice none 0 0, .int .i64 0, .bool false, .nilIface] (xcells X k g1) rfl (xcells_one hone)]
  have hk := Blk.new w1 77 (xcells X k g1)
  have k1 : (w1.alloc (.cells (xcells X k g1) 77)).cell? ⟨w1.heap.size, 1, none⟩ = some (.int .i64 k) := hk.cell 1
  have HK := Lib.hid hk
  clear hk
  go_wp2_with fail
  clear k1
  refine (HPT.out _).mono ?_
  rintro e w3 ⟨p, g, rfl, _, _, _, hp, hv, hb3⟩
  have k3 : w3.cell? ⟨w1.heap.size, 3, none⟩ = some (.int .i64 (-1)) := ((HK.out.below hb3 HK.out.lt).cell 3).trans (by rw [← hs]; rfl)
  have HP2 := Lib.hid hp
  have HV2 := Lib.hid hv
  have HB3 := Lib.hid ((HB1.out.alloc HB1.out.size (.cells (xcells X k g1) 77)).trans (hb3.mono (Nat.le_trans HB1.out.size (by simp))))
  clear hp hv hb3
  have HS := Lib.hid hs
  clear hs
  have hf2 := rvc_facts hr2
  rw [List.length_drop] at hf2
  obtain ⟨A2, hsl, hA2⟩ := run_from A d.length c n (by omega) hcap
  have HRW := Lib.hid (fun (w9 : World) (hx : EnvX K f w9) (hb9 : Below w.heap.size w w9) => rvc_x A2 (d.length - n) (c - n) (d.drop n) w9 (hA2 w9 _ d ((HD.out.below hb9).more hb9.size)) hx.vrs (by omega))
  rw [hr2] at HRW
  clear hA2 hr2
  go_wp2_with fail
  refine (HRW.out _ (HEV.out.below HB3.out) HB3.out).mono ?_
  intro e w4 hout
  obtain ⟨hb4, rfl⟩ : Below w3.heap.size w3 w4 ∧ e = .returned (.tuple #[.int .i64 s, .int .i64 n2', .nilIface]) := by
    obtain ⟨hb, ⟨v, m', h1, rfl⟩ | ⟨h1, _⟩⟩ := hout
    · cases h1
      exact ⟨hb, rfl⟩
    · cases h1
  have HB4 := Lib.hid (HB3.out.trans (hb4.mono HB3.out.size))
  have HP4 := Lib.hid (HP2.out.below hb4 HP2.out.lt)
  have HV4 := Lib.hid (HV2.out.below hb4 HV2.out.lt)
  have k4 : w4.cell? ⟨w1.heap.size, 3, none⟩ = some (.int .i64 (-1)) := (hb4.cell (World.block_lt_of_cell? _ _ k3)).trans k3
  clear hout hb4 k3
  have m7 : IntKind.i64.wrap ((n : Int) + (n2' : Int)) = (n : Int) + (n2' : Int) := IntWalk.i64_in _ (by omega)
  have m8 : (d.length : Int) - ((n : Int) + (n2' : Int)) = ((d.length - (n + n2') : Nat) : Int) := by omega
  have ma : (n : Int) + (n2' : Int) ≤ (d.length : Int) := by omega
  have mb : (n : Int) + (n2' : Int) ≤ (c : Int) := by omega
  have mc : ((n : Int) + (n2' : Int)).toNat = n + n2' := by omega
  have md : 0 ≤ (n : Int) + (n2' : Int) := by omega
  by_cases hlt : d.length - n - n2' < s
  · have m5 : decide (((d.length - (n + n2') : Nat) : Int) < (s : Int)) = true := by simp; omega
    clear hbad
    go_wp2_with fail
    all_goals (
      refine (HE.out _ _).mono ?_
      rintro e w5 ⟨t, u, rfl, hb5⟩
      have HBF := Lib.hid (HB4.out.trans (hb5.mono HB4.out.size))
      clear hb5
      go_wp2_with fail
      go_ret3
      exact ⟨t, u, rfl, HBF.out⟩)
  · obtain rfl : s = 0 := by omega
    have m5 : decide (((d.length - (n + n2') : Nat) : Int) < ((0 : Nat) : Int)) = false := by simp
    clear hbad hlt
    go_wp2_with fail
    all_goals (
      refine (HE.out _ _).mono ?_
      rintro e w5 ⟨t, u, rfl, hb5⟩
      have HBF := Lib.hid (HB4.out.trans (hb5.mono HB4.out.size))
      clear hb5
      go_wp2_with fail
      go_ret3
      exact ⟨t, u, rfl, HBF.out⟩)
theorem rd_var (hK : 18446744073709551616 ≤ K) (A : Option Addr) (c : Nat) (d : List UInt8) (k n : Nat) (X : ProtoX) (w : World) (hE : EnvX K f w) (h : RB w w.heap.size A d.length c d) (hn : d.length ≤ 1000) (hr : rvc d = some (k, n)) (hX : protoX k = some X) (hs : X.size = -1) (s n2' : Nat) (hr2 : rvc (d.drop n) = some (s, n2')) (hfit : n + n2' + s ≤ d.length) (hs0 : 0 < s) (o : Option (Nat × Nat × Nat)) (hok : o = if okD k ((d.drop (n + n2')).take s) then some (n + n2' + s, k, n + n2') else none) : Calls Tryz.prog 54 #[.slice A d.length c] w (OutRC o d w) := by
  have HOK := Lib.hid hok
  clear hok
  have q0 : ∀ w : World, (binOp .neq 52 .nilIface .nilIface).run Tryz.prog w = .ok (.bool false) w := fun _ => by kernel_rfl
  have qn : ∀ (t : TypeId) (v : Value) (w : World), (binOp .neq 52 (.iface t v) .nilIface).run Tryz.prog w = .ok (.bool true) w := fun _ _ _ => by kernel_rfl
  have HR := Lib.hid (rvc_x A _ c d w h hE.vrs (by omega))
  have HP := Lib.hid (pcodex_x hX)
  have HPT := Lib.hid (ptrx_x hX)
  have HE := Lib.hid (fun s w => errnew_any s w)
  have HEV := Lib.hid hE
  have HD := Lib.hid h
  have hf := rvc_facts hr
  have hone := protoX_one hX
  have hk0 : ((k : Int) == 0) = false := by have := protoX_pos hX; simp; omega
  have HVC := Lib.hid (vc_take hr hX)
  have HX := Lib.hid hX
  have HRV := Lib.hid hr
  have hcap := h.cap
  have hmax : c ≤ 9223372036854775807 := h.max
  clear h hE hX
  rw [hr] at HR
  have n0 : (0 : Int) ≤ (n : Int) := by omega
  have n1 : (n : Int) ≤ (d.length : Int) := by omega
  have n2 : (n : Int) ≤ (c : Int) := by omega
  clear hr
  go_enter Tryz.func54, Tryz.ntmps54
  go_wp2_with fail
  refine HR.out.mono ?_
  intro e w0 hout
  obtain ⟨hb, rfl⟩ : Below w.heap.size w w0 ∧ e = .returned (.tuple #[.int .i64 k, .int .i64 n, .nilIface]) := by
    obtain ⟨hb, ⟨v, m', h1, rfl⟩ | ⟨h1, _⟩⟩ := hout
    · cases h1
      exact ⟨hb, rfl⟩
    · cases h1
  clear hout
  have HB0 := Lib.hid hb
  clear hb
  go_wp2_with fail
  refine (HP.out _).mono ?_
  rintro e w1 ⟨g1, rfl, _, _, hb1⟩
  have HB1 := Lib.hid (HB0.out.trans (hb1.mono HB0.out.size))
  clear hb1
  go_wp2_with fail
  rw [run_storeCells_new w1 77 #[.string ⟨#[]⟩, .int .i64 0, .slice none 0 0, .int .i64 0, .bool false, .nilIface] (xcells X k g1) rfl (xcells_one hone)]
  have hk := Blk.new w1 77 (xcells X k g1)
  have k1 : (w1.alloc (.cells (xcells X k g1) 77)).cell? ⟨w1.heap.size, 1, none⟩ = some (.int .i64 k) := hk.cell 1
  have HK := Lib.hid hk
  clear hk
  go_wp2_with fail
  clear k1
  refine (HPT.out _).mono ?_
  rintro e w3 ⟨p, g, rfl, _, _, _, hp, hv, hb3⟩
  have k3 : w3.cell? ⟨w1.heap.size, 3, none⟩ = some (.int .i64 (-1)) := ((HK.out.below hb3 HK.out.lt).cell 3).trans (by rw [← hs]; rfl)
  have HP2 := Lib.hid hp
  have HV2 := Lib.hid hv
  have HB3 := Lib.hid ((HB1.out.alloc HB1.out.size (.cells (xcells X k g1) 77)).trans (hb3.mono (Nat.le_trans HB1.out.size (by simp))))
  clear hp hv hb3
  have HS := Lib.hid hs
  clear hs
  have hf2 := rvc_facts hr2
  rw [List.length_drop] at hf2
  have HR2 := Lib.hid hr2
  obtain ⟨A2, hsl, hA2⟩ := run_from A d.length c n (by omega) hcap
  have HRW := Lib.hid (fun (w9 : World) (hx : EnvX K f w9) (hb9 : Below w.heap.size w w9) => rvc_x A2 (d.length - n) (c - n) (d.drop n) w9 (hA2 w9 _ d ((HD.out.below hb9).more hb9.size)) hx.vrs (by omega))
  rw [hr2] at HRW
  clear hA2 hr2
  go_wp2_with fail
  refine (HRW.out _ (HEV.out.below HB3.out) HB3.out).mono ?_
  intro e w4 hout
  obtain ⟨hb4, rfl⟩ : Below w3.heap.size w3 w4 ∧ e = .returned (.tuple #[.int .i64 s, .int .i64 n2', .nilIface]) := by
    obtain ⟨hb, ⟨v, m', h1, rfl⟩ | ⟨h1, _⟩⟩ := hout
    · cases h1
      exact ⟨hb, rfl⟩
    · cases h1
  have HB4 := Lib.hid (HB3.out.trans (hb4.mono HB3.out.size))
  have HP4 := Lib.hid (HP2.out.below hb4 HP2.out.lt)
  have HV4 := Lib.hid (HV2.out.below hb4 HV2.out.lt)
  have k4 : w4.cell? ⟨w1.heap.size, 3, none⟩ = some (.int .i64 (-1)) := (hb4.cell (World.block_lt_of_cell? _ _ k3)).trans k3
  clear hout hb4 k3
  have m7 : IntKind.i64.wrap ((n : Int) + (n2' : Int)) = (n : Int) + (n2' : Int) := IntWalk.i64_in _ (by omega)
  have m8 : (d.length : Int) - ((n : Int) + (n2' : Int)) = ((d.length - (n + n2') : Nat) : Int) := by omega
  have ma : (n : Int) + (n2' : Int) ≤ (d.length : Int) := by omega
  have mb : (n : Int) + (n2' : Int) ≤ (c : Int) := by omega
  have mc : ((n : Int) + (n2' : Int)).toNat = n + n2' := by omega
  have md : 0 ≤ (n : Int) + (n2' : Int) := by omega
  have cvt := run_convert_RB ((HD.out.below HB4.out).take (k := n + n2' + s) (by omega)) 22 5 Tryz.underlying22 Tryz.underlying5 9 Tryz.underlying9
  obtain ⟨CL, hCL⟩ : ∃ CL, CL = d.take (n + n2' + s) := ⟨_, rfl⟩
  rw [← hCL] at cvt
  have HCL := Lib.hid hCL
  have m1 : (n : Int) + (n2' : Int) + (s : Int) ≤ (d.length : Int) := by omega
  have m2 : (n : Int) + (n2' : Int) + (s : Int) ≤ (c : Int) := by omega
  have m3 : ((n : Int) + (n2' : Int) + (s : Int)).toNat = n + n2' + s := by omega
  have m4 : 0 ≤ (n : Int) + (n2' : Int) + (s : Int) := by omega
  have m5 : decide (((d.length - (n + n2') : Nat) : Int) < (s : Int)) = false := by simp; omega
  have m6 : decide ((s : Int) ≤ 0) = false := by simp; omega
  have m9 : IntKind.i64.wrap ((n : Int) + (n2' : Int) + (s : Int)) = (n : Int) + (n2' : Int) + (s : Int) := IntWalk.i64_in _ (by omega)
  clear hCL hf2
  go_wp2_with fail
  have hcm : CmX (w4.alloc (.cells #[.string ⟨CL.toArray⟩, .pointer (some ⟨p, 0, none⟩), .int .i64 (n + n2' : Nat)] 81)) w4.heap.size CL p (n + n2') g ⟨X.name.toArray⟩ k X.size X.path X.tc X.vc := ⟨Blk.new _ _ _, HP4.out.alloc _, HV4.out.alloc _⟩
  have HCM := Lib.hid hcm
  have HBW := Lib.hid (HB4.out.alloc HB4.out.size (.cells #[.string ⟨CL.toArray⟩, .pointer (some ⟨p, 0, none⟩), .int .i64 (n + n2' : Nat)] 81))
  clear hcm
  have hsh : Shape X CL (n + n2') ((d.drop (n + n2')).take s) := by
    have hf2 := rvc_facts HR2.out
    rw [List.length_drop] at hf2
    rw [HCL.out]
    have e1 : ((d.drop n).take n2').length = n2' := by rw [List.length_take, List.length_drop]; omega
    have e2 : (d.take (n + n2' + s)) = d.take n ++ ((d.drop n).take n2' ++ (d.drop (n + n2')).take s) := by
      rw [show n + n2' + s = n + (n2' + s) by omega, List.take_add, List.take_add, List.drop_drop]
    have e3 : ((d.drop (n + n2')).take s).length = s := by rw [List.length_take, List.length_drop]; omega
    refine .inr (.inr ⟨by rw [HS.out]; decide, (d.drop n).take n2', ?_, ?_, ?_, ?_, ?_, ?_, ?_⟩)
    · rw [e2, HVC.out.1]
    · rw [HVC.out.2, e1]
    · omega
    · omega
    · rw [e1, e3]
      exact rvc_take HR2.out
    · omega
    · omega
  refine (valid_x hK HX.out (by rw [HVC.out.2]; omega) (by rw [HVC.out.2]; omega) _ p g (n + n2') CL ((d.drop (n + n2')).take s) _ (HEV.out.below HBW.out) HCM.out hsh).mono ?_
  intro e w5 hout
  obtain ⟨v, rfl, hv, hb5⟩ := hout.split
  have HF := Lib.hid (HCM.out.below hb5)
  have HBF := Lib.hid (HBW.out.trans (hb5.mono HBW.out.size))
  have HV := Lib.hid hv
  clear hb5 hv hout hsh
  rcases HV.out with ⟨h, rfl⟩ | ⟨h, t, u, rfl⟩
  · have ho := HOK.out
    rw [h, if_pos rfl] at ho
    have HO := Lib.hid ho
    clear h ho
    go_wp2_with fail
    go_ret3
    rw [HO.out]
    exact ⟨_, p, g, X, HX.out, by rw [show ((n + n2' + s : Nat) : Int) = (n : Int) + (n2' : Int) + (s : Int) by omega]; rfl, by have := HF.out.comp; rw [HCL.out] at this; exact this, HF.out.prot, HBF.out⟩
  · have ho := HOK.out
    rw [h, if_neg (by decide)] at ho
    have HO := Lib.hid ho
    clear h ho
    go_wp2_with fail
    go_ret3
    rw [HO.out]
    exact ⟨t, u, rfl, HBF.out⟩
end Go.Proofs.YtghddiboggdhcaaGreatDoor
