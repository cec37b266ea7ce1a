/- Protocols by their codes: zzCoded, zzPtr. -/
import Derived.Test.YtkmieonfhcmimaaGreatDoorPc
namespace Go.Proofs.YtkmieonfhcmimaaGreatDoor
open Go.RowKit
theorem tc_one (k : Nat) : (protoOf k).tc.oneCell' = true := by
  unfold protoOf; split <;> rfl
theorem pcells_one (k g : Nat) : (pcells k g).all (·.oneCell') = true := by
  have := tc_one k
  simp only [pcells, List.all_toArray, List.all_cons, List.all_nil, this]
  rfl
/-- The cells of a protocol, on the heap, by its number. -/
def OutPP (k : Nat) (w : World) (e : Ending) (w' : World) : Prop :=
  ∃ p g, e = .returned (.pointer (some ⟨p, 0, none⟩)) ∧ w.heap.size ≤ p ∧ w.heap.size ≤ g ∧ p ≠ g ∧ Blk w' p 122 (pcells k g) ∧ Blk w' g 5 (bv (protoOf k).vc).toArray ∧ Below w.heap.size w w'

set_option maxRecDepth 100000 in
set_option maxHeartbeats 2000000 in
theorem coded_4 (w : World) : Calls Tryz.prog 106 #[.int .i64 4] w (OutP 4 w) := by
  go_enter Tryz.func106, Tryz.ntmps106
  go_wp2_with (go_at_call 108; refine (proto_4 _).mono ?_; rintro e w1 ⟨g, rfl, hg, hr, hb⟩; have hk := Lib.hid ((Blk.new w 122 pzero).below hb (by simp)); have Hb := Lib.hid hb; have Hr := Lib.hid hr; have hgg := Lib.hid (show w.heap.size + 1 ≤ g by simpa using hg); clear hr hb hg)
  rw [run_storeCells_row _ w.heap.size 122 pzero (pcells 4 g) hk.out rfl (pcells_one _ _)]
  go_wp2_with fail
  have hbb := ((Below.refl _ w).alloc (Nat.le_refl _) (.cells pzero 122)).trans (Hb.out.mono (by simp))
  exact bodyPost_ret (results_cell_row rfl _ _ w.heap.size 122 (pcells 4 g) (0, 0) _ rfl (hk.out.row _) Tryz.underlying122 rfl (proto_size.trans rfl)) rfl
    ⟨g, rfl, Nat.le_of_succ_le hgg.out, Hr.out.rowFar (by have := hgg.out; omega) _, below_setRow hbb (Nat.le_refl _) _⟩
set_option maxRecDepth 100000 in
set_option maxHeartbeats 2000000 in
theorem pcode_4 (w : World) : Calls Tryz.prog 101 #[.int .i64 4] w (OutP 4 w) := by
  go_enter Tryz.func101, Tryz.ntmps101
  go_wp2_with (go_at_call 106; refine (coded_4 _).mono ?_; rintro e w1 ⟨g, rfl, hg, hr, hb⟩; have hk := Lib.hid ((Blk.new w 122 pzero).below hb (by simp)); have Hb := Lib.hid hb; have Hr := Lib.hid hr; have hgg := Lib.hid (show w.heap.size + 1 ≤ g by simpa using hg); clear hr hb hg)
  rw [run_storeCells_row _ w.heap.size 122 pzero (pcells 4 g) hk.out rfl (pcells_one _ _)]
  go_wp2_with fail
  have hbb := ((Below.refl _ w).alloc (Nat.le_refl _) (.cells pzero 122)).trans (Hb.out.mono (by simp))
  exact bodyPost_ret (results_cell_row rfl _ _ w.heap.size 122 (pcells 4 g) (0, 0) _ rfl (hk.out.row _) Tryz.underlying122 rfl (proto_size.trans rfl)) rfl
    ⟨g, rfl, Nat.le_of_succ_le hgg.out, Hr.out.rowFar (by have := hgg.out; omega) _, below_setRow hbb (Nat.le_refl _) _⟩
set_option maxRecDepth 100000 in
set_option maxHeartbeats 2000000 in
theorem ptr_4 (w : World) : Calls Tryz.prog 102 #[.int .i64 4] w (OutPP 4 w) := by
  go_enter Tryz.func102, Tryz.ntmps102
  go_wp2_with (go_at_call 106; refine (coded_4 _).mono ?_; rintro e w1 ⟨g, rfl, hg, hr, hb⟩; have Hb := Lib.hid hb; have Hr := Lib.hid hr; have hgg := Lib.hid hg; clear hr hb hg)
  rw [run_storeCells_new w1 122 #[.string ⟨#[]⟩, .int .i64 0, .slice none 0 0, .int .i64 0, .bool false, .nilIface] (pcells 4 g) rfl (pcells_one _ _)]
  have hk := Blk.new w1 122 (pcells 4 g)
  have c1 : (w1.alloc (.cells (pcells 4 g) 122)).cell? ⟨w1.heap.size, 1, none⟩ = some (.int .i64 4) := hk.cell 1
  have HK := Lib.hid hk
  clear hk
  go_wp2_with fail
  go_ret
  exact ⟨w1.heap.size, g, rfl, Hb.out.size, hgg.out, Nat.ne_of_gt Hr.out.lt, HK.out, Hr.out.alloc _, Hb.out.alloc Hb.out.size _⟩

set_option maxRecDepth 100000 in
set_option maxHeartbeats 2000000 in
theorem coded_6 (w : World) : Calls Tryz.prog 106 #[.int .i64 6] w (OutP 6 w) := by
  go_enter Tryz.func106, Tryz.ntmps106
  go_wp2_with (go_at_call 109; refine (proto_6 _).mono ?_; rintro e w1 ⟨g, rfl, hg, hr, hb⟩; have hk := Lib.hid ((Blk.new w 122 pzero).below hb (by simp)); have Hb := Lib.hid hb; have Hr := Lib.hid hr; have hgg := Lib.hid (show w.heap.size + 1 ≤ g by simpa using hg); clear hr hb hg)
  rw [run_storeCells_row _ w.heap.size 122 pzero (pcells 6 g) hk.out rfl (pcells_one _ _)]
  go_wp2_with fail
  have hbb := ((Below.refl _ w).alloc (Nat.le_refl _) (.cells pzero 122)).trans (Hb.out.mono (by simp))
  exact bodyPost_ret (results_cell_row rfl _ _ w.heap.size 122 (pcells 6 g) (0, 0) _ rfl (hk.out.row _) Tryz.underlying122 rfl (proto_size.trans rfl)) rfl
    ⟨g, rfl, Nat.le_of_succ_le hgg.out, Hr.out.rowFar (by have := hgg.out; omega) _, below_setRow hbb (Nat.le_refl _) _⟩
set_option maxRecDepth 100000 in
set_option maxHeartbeats 2000000 in
theorem pcode_6 (w : World) : Calls Tryz.prog 101 #[.int .i64 6] w (OutP 6 w) := by
  go_enter Tryz.func101, Tryz.ntmps101
  go_wp2_with (go_at_call 106; refine (coded_6 _).mono ?_; rintro e w1 ⟨g, rfl, hg, hr, hb⟩; have hk := Lib.hid ((Blk.new w 122 pzero).below hb (by simp)); have Hb := Lib.hid hb; have Hr := Lib.hid hr; have hgg := Lib.hid (show w.heap.size + 1 ≤ g by simpa using hg); clear hr hb hg)
  rw [run_storeCells_row _ w.heap.size 122 pzero (pcells 6 g) hk.out rfl (pcells_one _ _)]
  go_wp2_with fail
  have hbb := ((Below.refl _ w).alloc (Nat.le_refl _) (.cells pzero 122)).trans (Hb.out.mono (by simp))
  exact bodyPost_ret (results_cell_row rfl _ _ w.heap.size 122 (pcells 6 g) (0, 0) _ rfl (hk.out.row _) Tryz.underlying122 rfl (proto_size.trans rfl)) rfl
    ⟨g, rfl, Nat.le_of_succ_le hgg.out, Hr.out.rowFar (by have := hgg.out; omega) _, below_setRow hbb (Nat.le_refl _) _⟩
set_option maxRecDepth 100000 in
set_option maxHeartbeats 2000000 in
theorem ptr_6 (w : World) : Calls Tryz.prog 102 #[.int .i64 6] w (OutPP 6 w) := by
  go_enter Tryz.func102, Tryz.ntmps102
  go_wp2_with (go_at_call 106; refine (coded_6 _).mono ?_; rintro e w1 ⟨g, rfl, hg, hr, hb⟩; have Hb := Lib.hid hb; have Hr := Lib.hid hr; have hgg := Lib.hid hg; clear hr hb hg)
  rw [run_storeCells_new w1 122 #[.string ⟨#[]⟩, .int .i64 0, .slice none 0 0, .int .i64 0, .bool false, .nilIface] (pcells 6 g) rfl (pcells_one _ _)]
  have hk := Blk.new w1 122 (pcells 6 g)
  have c1 : (w1.alloc (.cells (pcells 6 g) 122)).cell? ⟨w1.heap.size, 1, none⟩ = some (.int .i64 6) := hk.cell 1
  have HK := Lib.hid hk
  clear hk
  go_wp2_with fail
  go_ret
  exact ⟨w1.heap.size, g, rfl, Hb.out.size, hgg.out, Nat.ne_of_gt Hr.out.lt, HK.out, Hr.out.alloc _, Hb.out.alloc Hb.out.size _⟩

set_option maxRecDepth 100000 in
set_option maxHeartbeats 2000000 in
theorem coded_41 (w : World) : Calls Tryz.prog 106 #[.int .i64 41] w (OutP 41 w) := by
  go_enter Tryz.func106, Tryz.ntmps106
  go_wp2_with (go_at_call 116; refine (proto_41 _).mono ?_; rintro e w1 ⟨g, rfl, hg, hr, hb⟩; have hk := Lib.hid ((Blk.new w 122 pzero).below hb (by simp)); have Hb := Lib.hid hb; have Hr := Lib.hid hr; have hgg := Lib.hid (show w.heap.size + 1 ≤ g by simpa using hg); clear hr hb hg)
  rw [run_storeCells_row _ w.heap.size 122 pzero (pcells 41 g) hk.out rfl (pcells_one _ _)]
  go_wp2_with fail
  have hbb := ((Below.refl _ w).alloc (Nat.le_refl _) (.cells pzero 122)).trans (Hb.out.mono (by simp))
  exact bodyPost_ret (results_cell_row rfl _ _ w.heap.size 122 (pcells 41 g) (0, 0) _ rfl (hk.out.row _) Tryz.underlying122 rfl (proto_size.trans rfl)) rfl
    ⟨g, rfl, Nat.le_of_succ_le hgg.out, Hr.out.rowFar (by have := hgg.out; omega) _, below_setRow hbb (Nat.le_refl _) _⟩
set_option maxRecDepth 100000 in
set_option maxHeartbeats 2000000 in
theorem pcode_41 (w : World) : Calls Tryz.prog 101 #[.int .i64 41] w (OutP 41 w) := by
  go_enter Tryz.func101, Tryz.ntmps101
  go_wp2_with (go_at_call 106; refine (coded_41 _).mono ?_; rintro e w1 ⟨g, rfl, hg, hr, hb⟩; have hk := Lib.hid ((Blk.new w 122 pzero).below hb (by simp)); have Hb := Lib.hid hb; have Hr := Lib.hid hr; have hgg := Lib.hid (show w.heap.size + 1 ≤ g by simpa using hg); clear hr hb hg)
  rw [run_storeCells_row _ w.heap.size 122 pzero (pcells 41 g) hk.out rfl (pcells_one _ _)]
  go_wp2_with fail
  have hbb := ((Below.refl _ w).alloc (Nat.le_refl _) (.cells pzero 122)).trans (Hb.out.mono (by simp))
  exact bodyPost_ret (results_cell_row rfl _ _ w.heap.size 122 (pcells 41 g) (0, 0) _ rfl (hk.out.row _) Tryz.underlying122 rfl (proto_size.trans rfl)) rfl
    ⟨g, rfl, Nat.le_of_succ_le hgg.out, Hr.out.rowFar (by have := hgg.out; omega) _, below_setRow hbb (Nat.le_refl _) _⟩
set_option maxRecDepth 100000 in
set_option maxHeartbeats 2000000 in
theorem ptr_41 (w : World) : Calls Tryz.prog 102 #[.int .i64 41] w (OutPP 41 w) := by
  go_enter Tryz.func102, Tryz.ntmps102
  go_wp2_with (go_at_call 106; refine (coded_41 _).mono ?_; rintro e w1 ⟨g, rfl, hg, hr, hb⟩; have Hb := Lib.hid hb; have Hr := Lib.hid hr; have hgg := Lib.hid hg; clear hr hb hg)
  rw [run_storeCells_new w1 122 #[.string ⟨#[]⟩, .int .i64 0, .slice none 0 0, .int .i64 0, .bool false, .nilIface] (pcells 41 g) rfl (pcells_one _ _)]
  have hk := Blk.new w1 122 (pcells 41 g)
  have c1 : (w1.alloc (.cells (pcells 41 g) 122)).cell? ⟨w1.heap.size, 1, none⟩ = some (.int .i64 41) := hk.cell 1
  have HK := Lib.hid hk
  clear hk
  go_wp2_with fail
  go_ret
  exact ⟨w1.heap.size, g, rfl, Hb.out.size, hgg.out, Nat.ne_of_gt Hr.out.lt, HK.out, Hr.out.alloc _, Hb.out.alloc Hb.out.size _⟩

set_option maxRecDepth 100000 in
set_option maxHeartbeats 2000000 in
theorem coded_273 (w : World) : Calls Tryz.prog 106 #[.int .i64 273] w (OutP 273 w) := by
  go_enter Tryz.func106, Tryz.ntmps106
  go_wp2_with (go_at_call 114; refine (proto_273 _).mono ?_; rintro e w1 ⟨g, rfl, hg, hr, hb⟩; have hk := Lib.hid ((Blk.new w 122 pzero).below hb (by simp)); have Hb := Lib.hid hb; have Hr := Lib.hid hr; have hgg := Lib.hid (show w.heap.size + 1 ≤ g by simpa using hg); clear hr hb hg)
  rw [run_storeCells_row _ w.heap.size 122 pzero (pcells 273 g) hk.out rfl (pcells_one _ _)]
  go_wp2_with fail
  have hbb := ((Below.refl _ w).alloc (Nat.le_refl _) (.cells pzero 122)).trans (Hb.out.mono (by simp))
  exact bodyPost_ret (results_cell_row rfl _ _ w.heap.size 122 (pcells 273 g) (0, 0) _ rfl (hk.out.row _) Tryz.underlying122 rfl (proto_size.trans rfl)) rfl
    ⟨g, rfl, Nat.le_of_succ_le hgg.out, Hr.out.rowFar (by have := hgg.out; omega) _, below_setRow hbb (Nat.le_refl _) _⟩
set_option maxRecDepth 100000 in
set_option maxHeartbeats 2000000 in
theorem pcode_273 (w : World) : Calls Tryz.prog 101 #[.int .i64 273] w (OutP 273 w) := by
  go_enter Tryz.func101, Tryz.ntmps101
  go_wp2_with (go_at_call 106; refine (coded_273 _).mono ?_; rintro e w1 ⟨g, rfl, hg, hr, hb⟩; have hk := Lib.hid ((Blk.new w 122 pzero).below hb (by simp)); have Hb := Lib.hid hb; have Hr := Lib.hid hr; have hgg := Lib.hid (show w.heap.size + 1 ≤ g by simpa using hg); clear hr hb hg)
  rw [run_storeCells_row _ w.heap.size 122 pzero (pcells 273 g) hk.out rfl (pcells_one _ _)]
  go_wp2_with fail
  have hbb := ((Below.refl _ w).alloc (Nat.le_refl _) (.cells pzero 122)).trans (Hb.out.mono (by simp))
  exact bodyPost_ret (results_cell_row rfl _ _ w.heap.size 122 (pcells 273 g) (0, 0) _ rfl (hk.out.row _) Tryz.underlying122 rfl (proto_size.trans rfl)) rfl
    ⟨g, rfl, Nat.le_of_succ_le hgg.out, Hr.out.rowFar (by have := hgg.out; omega) _, below_setRow hbb (Nat.le_refl _) _⟩
set_option maxRecDepth 100000 in
set_option maxHeartbeats 2000000 in
theorem ptr_273 (w : World) : Calls Tryz.prog 102 #[.int .i64 273] w (OutPP 273 w) := by
  go_enter Tryz.func102, Tryz.ntmps102
  go_wp2_with (go_at_call 106; refine (coded_273 _).mono ?_; rintro e w1 ⟨g, rfl, hg, hr, hb⟩; have Hb := Lib.hid hb; have Hr := Lib.hid hr; have hgg := Lib.hid hg; clear hr hb hg)
  rw [run_storeCells_new w1 122 #[.string ⟨#[]⟩, .int .i64 0, .slice none 0 0, .int .i64 0, .bool false, .nilIface] (pcells 273 g) rfl (pcells_one _ _)]
  have hk := Blk.new w1 122 (pcells 273 g)
  have c1 : (w1.alloc (.cells (pcells 273 g) 122)).cell? ⟨w1.heap.size, 1, none⟩ = some (.int .i64 273) := hk.cell 1
  have HK := Lib.hid hk
  clear hk
  go_wp2_with fail
  go_ret
  exact ⟨w1.heap.size, g, rfl, Hb.out.size, hgg.out, Nat.ne_of_gt Hr.out.lt, HK.out, Hr.out.alloc _, Hb.out.alloc Hb.out.size _⟩

set_option maxRecDepth 100000 in
set_option maxHeartbeats 2000000 in
theorem coded_290 (w : World) : Calls Tryz.prog 106 #[.int .i64 290] w (OutP 290 w) := by
  go_enter Tryz.func106, Tryz.ntmps106
  go_wp2_with (go_at_call 120; refine (proto_290 _).mono ?_; rintro e w1 ⟨g, rfl, hg, hr, hb⟩; have hk := Lib.hid ((Blk.new w 122 pzero).below hb (by simp)); have Hb := Lib.hid hb; have Hr := Lib.hid hr; have hgg := Lib.hid (show w.heap.size + 1 ≤ g by simpa using hg); clear hr hb hg)
  rw [run_storeCells_row _ w.heap.size 122 pzero (pcells 290 g) hk.out rfl (pcells_one _ _)]
  go_wp2_with fail
  have hbb := ((Below.refl _ w).alloc (Nat.le_refl _) (.cells pzero 122)).trans (Hb.out.mono (by simp))
  exact bodyPost_ret (results_cell_row rfl _ _ w.heap.size 122 (pcells 290 g) (0, 0) _ rfl (hk.out.row _) Tryz.underlying122 rfl (proto_size.trans rfl)) rfl
    ⟨g, rfl, Nat.le_of_succ_le hgg.out, Hr.out.rowFar (by have := hgg.out; omega) _, below_setRow hbb (Nat.le_refl _) _⟩
set_option maxRecDepth 100000 in
set_option maxHeartbeats 2000000 in
theorem pcode_290 (w : World) : Calls Tryz.prog 101 #[.int .i64 290] w (OutP 290 w) := by
  go_enter Tryz.func101, Tryz.ntmps101
  go_wp2_with (go_at_call 106; refine (coded_290 _).mono ?_; rintro e w1 ⟨g, rfl, hg, hr, hb⟩; have hk := Lib.hid ((Blk.new w 122 pzero).below hb (by simp)); have Hb := Lib.hid hb; have Hr := Lib.hid hr; have hgg := Lib.hid (show w.heap.size + 1 ≤ g by simpa using hg); clear hr hb hg)
  rw [run_storeCells_row _ w.heap.size 122 pzero (pcells 290 g) hk.out rfl (pcells_one _ _)]
  go_wp2_with fail
  have hbb := ((Below.refl _ w).alloc (Nat.le_refl _) (.cells pzero 122)).trans (Hb.out.mono (by simp))
  exact bodyPost_ret (results_cell_row rfl _ _ w.heap.size 122 (pcells 290 g) (0, 0) _ rfl (hk.out.row _) Tryz.underlying122 rfl (proto_size.trans rfl)) rfl
    ⟨g, rfl, Nat.le_of_succ_le hgg.out, Hr.out.rowFar (by have := hgg.out; omega) _, below_setRow hbb (Nat.le_refl _) _⟩
set_option maxRecDepth 100000 in
set_option maxHeartbeats 2000000 in
theorem ptr_290 (w : World) : Calls Tryz.prog 102 #[.int .i64 290] w (OutPP 290 w) := by
  go_enter Tryz.func102, Tryz.ntmps102
  go_wp2_with (go_at_call 106; refine (coded_290 _).mono ?_; rintro e w1 ⟨g, rfl, hg, hr, hb⟩; have Hb := Lib.hid hb; have Hr := Lib.hid hr; have hgg := Lib.hid hg; clear hr hb hg)
  rw [run_storeCells_new w1 122 #[.string ⟨#[]⟩, .int .i64 0, .slice none 0 0, .int .i64 0, .bool false, .nilIface] (pcells 290 g) rfl (pcells_one _ _)]
  have hk := Blk.new w1 122 (pcells 290 g)
  have c1 : (w1.alloc (.cells (pcells 290 g) 122)).cell? ⟨w1.heap.size, 1, none⟩ = some (.int .i64 290) := hk.cell 1
  have HK := Lib.hid hk
  clear hk
  go_wp2_with fail
  go_ret
  exact ⟨w1.heap.size, g, rfl, Hb.out.size, hgg.out, Nat.ne_of_gt Hr.out.lt, HK.out, Hr.out.alloc _, Hb.out.alloc Hb.out.size _⟩

set_option maxRecDepth 100000 in
set_option maxHeartbeats 2000000 in
theorem coded_421 (w : World) : Calls Tryz.prog 106 #[.int .i64 421] w (OutP 421 w) := by
  go_enter Tryz.func106, Tryz.ntmps106
  go_wp2_with (go_at_call 134; refine (proto_421 _).mono ?_; rintro e w1 ⟨g, rfl, hg, hr, hb⟩; have hk := Lib.hid ((Blk.new w 122 pzero).below hb (by simp)); have Hb := Lib.hid hb; have Hr := Lib.hid hr; have hgg := Lib.hid (show w.heap.size + 1 ≤ g by simpa using hg); clear hr hb hg)
  rw [run_storeCells_row _ w.heap.size 122 pzero (pcells 421 g) hk.out rfl (pcells_one _ _)]
  go_wp2_with fail
  have hbb := ((Below.refl _ w).alloc (Nat.le_refl _) (.cells pzero 122)).trans (Hb.out.mono (by simp))
  exact bodyPost_ret (results_cell_row rfl _ _ w.heap.size 122 (pcells 421 g) (0, 0) _ rfl (hk.out.row _) Tryz.underlying122 rfl (proto_size.trans rfl)) rfl
    ⟨g, rfl, Nat.le_of_succ_le hgg.out, Hr.out.rowFar (by have := hgg.out; omega) _, below_setRow hbb (Nat.le_refl _) _⟩
set_option maxRecDepth 100000 in
set_option maxHeartbeats 2000000 in
theorem pcode_421 (w : World) : Calls Tryz.prog 101 #[.int .i64 421] w (OutP 421 w) := by
  go_enter Tryz.func101, Tryz.ntmps101
  go_wp2_with (go_at_call 106; refine (coded_421 _).mono ?_; rintro e w1 ⟨g, rfl, hg, hr, hb⟩; have hk := Lib.hid ((Blk.new w 122 pzero).below hb (by simp)); have Hb := Lib.hid hb; have Hr := Lib.hid hr; have hgg := Lib.hid (show w.heap.size + 1 ≤ g by simpa using hg); clear hr hb hg)
  rw [run_storeCells_row _ w.heap.size 122 pzero (pcells 421 g) hk.out rfl (pcells_one _ _)]
  go_wp2_with fail
  have hbb := ((Below.refl _ w).alloc (Nat.le_refl _) (.cells pzero 122)).trans (Hb.out.mono (by simp))
  exact bodyPost_ret (results_cell_row rfl _ _ w.heap.size 122 (pcells 421 g) (0, 0) _ rfl (hk.out.row _) Tryz.underlying122 rfl (proto_size.trans rfl)) rfl
    ⟨g, rfl, Nat.le_of_succ_le hgg.out, Hr.out.rowFar (by have := hgg.out; omega) _, below_setRow hbb (Nat.le_refl _) _⟩
set_option maxRecDepth 100000 in
set_option maxHeartbeats 2000000 in
theorem ptr_421 (w : World) : Calls Tryz.prog 102 #[.int .i64 421] w (OutPP 421 w) := by
  go_enter Tryz.func102, Tryz.ntmps102
  go_wp2_with (go_at_call 106; refine (coded_421 _).mono ?_; rintro e w1 ⟨g, rfl, hg, hr, hb⟩; have Hb := Lib.hid hb; have Hr := Lib.hid hr; have hgg := Lib.hid hg; clear hr hb hg)
  rw [run_storeCells_new w1 122 #[.string ⟨#[]⟩, .int .i64 0, .slice none 0 0, .int .i64 0, .bool false, .nilIface] (pcells 421 g) rfl (pcells_one _ _)]
  have hk := Blk.new w1 122 (pcells 421 g)
  have c1 : (w1.alloc (.cells (pcells 421 g) 122)).cell? ⟨w1.heap.size, 1, none⟩ = some (.int .i64 421) := hk.cell 1
  have HK := Lib.hid hk
  clear hk
  go_wp2_with fail
  go_ret
  exact ⟨w1.heap.size, g, rfl, Hb.out.size, hgg.out, Nat.ne_of_gt Hr.out.lt, HK.out, Hr.out.alloc _, Hb.out.alloc Hb.out.size _⟩

set_option maxRecDepth 100000 in
set_option maxHeartbeats 2000000 in
theorem coded_461 (w : World) : Calls Tryz.prog 106 #[.int .i64 461] w (OutP 461 w) := by
  go_enter Tryz.func106, Tryz.ntmps106
  go_wp2_with (go_at_call 128; refine (proto_461 _).mono ?_; rintro e w1 ⟨g, rfl, hg, hr, hb⟩; have hk := Lib.hid ((Blk.new w 122 pzero).below hb (by simp)); have Hb := Lib.hid hb; have Hr := Lib.hid hr; have hgg := Lib.hid (show w.heap.size + 1 ≤ g by simpa using hg); clear hr hb hg)
  rw [run_storeCells_row _ w.heap.size 122 pzero (pcells 461 g) hk.out rfl (pcells_one _ _)]
  go_wp2_with fail
  have hbb := ((Below.refl _ w).alloc (Nat.le_refl _) (.cells pzero 122)).trans (Hb.out.mono (by simp))
  exact bodyPost_ret (results_cell_row rfl _ _ w.heap.size 122 (pcells 461 g) (0, 0) _ rfl (hk.out.row _) Tryz.underlying122 rfl (proto_size.trans rfl)) rfl
    ⟨g, rfl, Nat.le_of_succ_le hgg.out, Hr.out.rowFar (by have := hgg.out; omega) _, below_setRow hbb (Nat.le_refl _) _⟩
set_option maxRecDepth 100000 in
set_option maxHeartbeats 2000000 in
theorem pcode_461 (w : World) : Calls Tryz.prog 101 #[.int .i64 461] w (OutP 461 w) := by
  go_enter Tryz.func101, Tryz.ntmps101
  go_wp2_with (go_at_call 106; refine (coded_461 _).mono ?_; rintro e w1 ⟨g, rfl, hg, hr, hb⟩; have hk := Lib.hid ((Blk.new w 122 pzero).below hb (by simp)); have Hb := Lib.hid hb; have Hr := Lib.hid hr; have hgg := Lib.hid (show w.heap.size + 1 ≤ g by simpa using hg); clear hr hb hg)
  rw [run_storeCells_row _ w.heap.size 122 pzero (pcells 461 g) hk.out rfl (pcells_one _ _)]
  go_wp2_with fail
  have hbb := ((Below.refl _ w).alloc (Nat.le_refl _) (.cells pzero 122)).trans (Hb.out.mono (by simp))
  exact bodyPost_ret (results_cell_row rfl _ _ w.heap.size 122 (pcells 461 g) (0, 0) _ rfl (hk.out.row _) Tryz.underlying122 rfl (proto_size.trans rfl)) rfl
    ⟨g, rfl, Nat.le_of_succ_le hgg.out, Hr.out.rowFar (by have := hgg.out; omega) _, below_setRow hbb (Nat.le_refl _) _⟩
set_option maxRecDepth 100000 in
set_option maxHeartbeats 2000000 in
theorem ptr_461 (w : World) : Calls Tryz.prog 102 #[.int .i64 461] w (OutPP 461 w) := by
  go_enter Tryz.func102, Tryz.ntmps102
  go_wp2_with (go_at_call 106; refine (coded_461 _).mono ?_; rintro e w1 ⟨g, rfl, hg, hr, hb⟩; have Hb := Lib.hid hb; have Hr := Lib.hid hr; have hgg := Lib.hid hg; clear hr hb hg)
  rw [run_storeCells_new w1 122 #[.string ⟨#[]⟩, .int .i64 0, .slice none 0 0, .int .i64 0, .bool false, .nilIface] (pcells 461 g) rfl (pcells_one _ _)]
  have hk := Blk.new w1 122 (pcells 461 g)
  have c1 : (w1.alloc (.cells (pcells 461 g) 122)).cell? ⟨w1.heap.size, 1, none⟩ = some (.int .i64 461) := hk.cell 1
  have HK := Lib.hid hk
  clear hk
  go_wp2_with fail
  go_ret
  exact ⟨w1.heap.size, g, rfl, Hb.out.size, hgg.out, Nat.ne_of_gt Hr.out.lt, HK.out, Hr.out.alloc _, Hb.out.alloc Hb.out.size _⟩

set_option maxRecDepth 100000 in
set_option maxHeartbeats 2000000 in
theorem coded_477 (w : World) : Calls Tryz.prog 106 #[.int .i64 477] w (OutP 477 w) := by
  go_enter Tryz.func106, Tryz.ntmps106
  go_wp2_with (go_at_call 140; refine (proto_477 _).mono ?_; rintro e w1 ⟨g, rfl, hg, hr, hb⟩; have hk := Lib.hid ((Blk.new w 122 pzero).below hb (by simp)); have Hb := Lib.hid hb; have Hr := Lib.hid hr; have hgg := Lib.hid (show w.heap.size + 1 ≤ g by simpa using hg); clear hr hb hg)
  rw [run_storeCells_row _ w.heap.size 122 pzero (pcells 477 g) hk.out rfl (pcells_one _ _)]
  go_wp2_with fail
  have hbb := ((Below.refl _ w).alloc (Nat.le_refl _) (.cells pzero 122)).trans (Hb.out.mono (by simp))
  exact bodyPost_ret (results_cell_row rfl _ _ w.heap.size 122 (pcells 477 g) (0, 0) _ rfl (hk.out.row _) Tryz.underlying122 rfl (proto_size.trans rfl)) rfl
    ⟨g, rfl, Nat.le_of_succ_le hgg.out, Hr.out.rowFar (by have := hgg.out; omega) _, below_setRow hbb (Nat.le_refl _) _⟩
set_option maxRecDepth 100000 in
set_option maxHeartbeats 2000000 in
theorem pcode_477 (w : World) : Calls Tryz.prog 101 #[.int .i64 477] w (OutP 477 w) := by
  go_enter Tryz.func101, Tryz.ntmps101
  go_wp2_with (go_at_call 106; refine (coded_477 _).mono ?_; rintro e w1 ⟨g, rfl, hg, hr, hb⟩; have hk := Lib.hid ((Blk.new w 122 pzero).below hb (by simp)); have Hb := Lib.hid hb; have Hr := Lib.hid hr; have hgg := Lib.hid (show w.heap.size + 1 ≤ g by simpa using hg); clear hr hb hg)
  rw [run_storeCells_row _ w.heap.size 122 pzero (pcells 477 g) hk.out rfl (pcells_one _ _)]
  go_wp2_with fail
  have hbb := ((Below.refl _ w).alloc (Nat.le_refl _) (.cells pzero 122)).trans (Hb.out.mono (by simp))
  exact bodyPost_ret (results_cell_row rfl _ _ w.heap.size 122 (pcells 477 g) (0, 0) _ rfl (hk.out.row _) Tryz.underlying122 rfl (proto_size.trans rfl)) rfl
    ⟨g, rfl, Nat.le_of_succ_le hgg.out, Hr.out.rowFar (by have := hgg.out; omega) _, below_setRow hbb (Nat.le_refl _) _⟩
set_option maxRecDepth 100000 in
set_option maxHeartbeats 2000000 in
theorem ptr_477 (w : World) : Calls Tryz.prog 102 #[.int .i64 477] w (OutPP 477 w) := by
  go_enter Tryz.func102, Tryz.ntmps102
  go_wp2_with (go_at_call 106; refine (coded_477 _).mono ?_; rintro e w1 ⟨g, rfl, hg, hr, hb⟩; have Hb := Lib.hid hb; have Hr := Lib.hid hr; have hgg := Lib.hid hg; clear hr hb hg)
  rw [run_storeCells_new w1 122 #[.string ⟨#[]⟩, .int .i64 0, .slice none 0 0, .int .i64 0, .bool false, .nilIface] (pcells 477 g) rfl (pcells_one _ _)]
  have hk := Blk.new w1 122 (pcells 477 g)
  have c1 : (w1.alloc (.cells (pcells 477 g) 122)).cell? ⟨w1.heap.size, 1, none⟩ = some (.int .i64 477) := hk.cell 1
  have HK := Lib.hid hk
  clear hk
  go_wp2_with fail
  go_ret
  exact ⟨w1.heap.size, g, rfl, Hb.out.size, hgg.out, Nat.ne_of_gt Hr.out.lt, HK.out, Hr.out.alloc _, Hb.out.alloc Hb.out.size _⟩
end Go.Proofs.YtkmieonfhcmimaaGreatDoor
