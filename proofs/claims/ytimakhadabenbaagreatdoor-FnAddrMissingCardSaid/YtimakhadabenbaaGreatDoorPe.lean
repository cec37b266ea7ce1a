/- Protocols by their codes: zzCoded, zzPtr. -/
import Derived.Test.YtimakhadabenbaaGreatDoorPc
import Derived.BigQuiet
import Derived.Deep.QuietTactic
import Derived.Outline
namespace Go.Proofs.YtimakhadabenbaaGreatDoor
open Go.RowKit
theorem tc_one (k : Nat) : (protoOf k).tc.oneCell' = true := by
  unfold protoOf; split <;> rfl
theorem pcells_one (k g : Nat) : (pcells k g).all (·.oneCell') = true := by
  have := tc_one k
  simp only [pcells, List.all_toArray, List.all_cons, List.all_nil, this]
  rfl
/-- The cells of a protocol, on the heap, by its number. -/
def OutPP (k : Nat) (w : World) (e : Ending) (w' : World) : Prop :=
  ∃ p g, e = .returned (.pointer (some ⟨p, 0, none⟩)) ∧ w.heap.size ≤ p ∧ w.heap.size ≤ g ∧ p ≠ g ∧ Blk w' p 83 (pcells k g) ∧ Blk w' g 5 (bv (protoOf k).vc).toArray ∧ Below w.heap.size w w'

set_option maxRecDepth 100000 in
set_option maxHeartbeats 2000000 in
theorem coded_4 (w : World) : Calls Tryz.prog 73 #[.int .i64 4] w (OutP 4 w) := by
  go_enter Tryz.func73, Tryz.ntmps73
  go_wp2_with (go_at_call 75; refine (proto_4 _).mono ?_; rintro e w1 ⟨g, rfl, hg, hr, hb⟩; have hk := Lib.hid ((Blk.new w 83 pzero).below hb (by simp)); have Hb := Lib.hid hb; have Hr := Lib.hid hr; have hgg := Lib.hid (show w.heap.size + 1 ≤ g by simpa using hg); clear hr hb hg)
  rw [run_storeCells_row _ w.heap.size 83 pzero (pcells 4 g) hk.out rfl (pcells_one _ _)]
  go_wp2_with fail
  have hbb := ((Below.refl _ w).alloc (Nat.le_refl _) (.cells pzero 83)).trans (Hb.out.mono (by simp))
  exact bodyPost_ret (results_cell_row rfl _ _ w.heap.size 83 (pcells 4 g) (0, 0) _ rfl (hk.out.row _) Tryz.underlying83 rfl (proto_size.trans rfl)) rfl
    ⟨g, rfl, Nat.le_of_succ_le hgg.out, Hr.out.rowFar (by have := hgg.out; omega) _, below_setRow hbb (Nat.le_refl _) _⟩
set_option maxRecDepth 100000 in
set_option maxHeartbeats 2000000 in
theorem pcode_4 (w : World) : Calls Tryz.prog 66 #[.int .i64 4] w (OutP 4 w) := by
  go_enter Tryz.func66, Tryz.ntmps66
  go_wp2_with (go_at_call 73; refine (coded_4 _).mono ?_; rintro e w1 ⟨g, rfl, hg, hr, hb⟩; have hk := Lib.hid ((Blk.new w 83 pzero).below hb (by simp)); have Hb := Lib.hid hb; have Hr := Lib.hid hr; have hgg := Lib.hid (show w.heap.size + 1 ≤ g by simpa using hg); clear hr hb hg)
  rw [run_storeCells_row _ w.heap.size 83 pzero (pcells 4 g) hk.out rfl (pcells_one _ _)]
  go_wp2_with fail
  have hbb := ((Below.refl _ w).alloc (Nat.le_refl _) (.cells pzero 83)).trans (Hb.out.mono (by simp))
  exact bodyPost_ret (results_cell_row rfl _ _ w.heap.size 83 (pcells 4 g) (0, 0) _ rfl (hk.out.row _) Tryz.underlying83 rfl (proto_size.trans rfl)) rfl
    ⟨g, rfl, Nat.le_of_succ_le hgg.out, Hr.out.rowFar (by have := hgg.out; omega) _, below_setRow hbb (Nat.le_refl _) _⟩
set_option maxRecDepth 100000 in
set_option maxHeartbeats 2000000 in
theorem ptr_4 (w : World) : Calls Tryz.prog 67 #[.int .i64 4] w (OutPP 4 w) := by
  go_enter Tryz.func67, Tryz.ntmps67
  go_wp2_with (go_at_call 73; refine (coded_4 _).mono ?_; rintro e w1 ⟨g, rfl, hg, hr, hb⟩; have Hb := Lib.hid hb; have Hr := Lib.hid hr; have hgg := Lib.hid hg; clear hr hb hg)
  rw [run_storeCells_new w1 83 #[.string ⟨#[]⟩, .int .i64 0, .slice none 0 0, .int .i64 0, .bool false, .nilIface] (pcells 4 g) rfl (pcells_one _ _)]
  have hk := Blk.new w1 83 (pcells 4 g)
  have c1 : (w1.alloc (.cells (pcells 4 g) 83)).cell? ⟨w1.heap.size, 1, none⟩ = some (.int .i64 4) := hk.cell 1
  have HK := Lib.hid hk
  clear hk
  go_wp2_with fail
  go_ret
  exact ⟨w1.heap.size, g, rfl, Hb.out.size, hgg.out, Nat.ne_of_gt Hr.out.lt, HK.out, Hr.out.alloc _, Hb.out.alloc Hb.out.size _⟩

set_option maxRecDepth 100000 in
set_option maxHeartbeats 2000000 in
theorem coded_6 (w : World) : Calls Tryz.prog 73 #[.int .i64 6] w (OutP 6 w) := by
  go_enter Tryz.func73, Tryz.ntmps73
  go_wp2_with (go_at_call 76; refine (proto_6 _).mono ?_; rintro e w1 ⟨g, rfl, hg, hr, hb⟩; have hk := Lib.hid ((Blk.new w 83 pzero).below hb (by simp)); have Hb := Lib.hid hb; have Hr := Lib.hid hr; have hgg := Lib.hid (show w.heap.size + 1 ≤ g by simpa using hg); clear hr hb hg)
  rw [run_storeCells_row _ w.heap.size 83 pzero (pcells 6 g) hk.out rfl (pcells_one _ _)]
  go_wp2_with fail
  have hbb := ((Below.refl _ w).alloc (Nat.le_refl _) (.cells pzero 83)).trans (Hb.out.mono (by simp))
  exact bodyPost_ret (results_cell_row rfl _ _ w.heap.size 83 (pcells 6 g) (0, 0) _ rfl (hk.out.row _) Tryz.underlying83 rfl (proto_size.trans rfl)) rfl
    ⟨g, rfl, Nat.le_of_succ_le hgg.out, Hr.out.rowFar (by have := hgg.out; omega) _, below_setRow hbb (Nat.le_refl _) _⟩
set_option maxRecDepth 100000 in
set_option maxHeartbeats 2000000 in
theorem pcode_6 (w : World) : Calls Tryz.prog 66 #[.int .i64 6] w (OutP 6 w) := by
  go_enter Tryz.func66, Tryz.ntmps66
  go_wp2_with (go_at_call 73; refine (coded_6 _).mono ?_; rintro e w1 ⟨g, rfl, hg, hr, hb⟩; have hk := Lib.hid ((Blk.new w 83 pzero).below hb (by simp)); have Hb := Lib.hid hb; have Hr := Lib.hid hr; have hgg := Lib.hid (show w.heap.size + 1 ≤ g by simpa using hg); clear hr hb hg)
  rw [run_storeCells_row _ w.heap.size 83 pzero (pcells 6 g) hk.out rfl (pcells_one _ _)]
  go_wp2_with fail
  have hbb := ((Below.refl _ w).alloc (Nat.le_refl _) (.cells pzero 83)).trans (Hb.out.mono (by simp))
  exact bodyPost_ret (results_cell_row rfl _ _ w.heap.size 83 (pcells 6 g) (0, 0) _ rfl (hk.out.row _) Tryz.underlying83 rfl (proto_size.trans rfl)) rfl
    ⟨g, rfl, Nat.le_of_succ_le hgg.out, Hr.out.rowFar (by have := hgg.out; omega) _, below_setRow hbb (Nat.le_refl _) _⟩
set_option maxRecDepth 100000 in
set_option maxHeartbeats 2000000 in
theorem ptr_6 (w : World) : Calls Tryz.prog 67 #[.int .i64 6] w (OutPP 6 w) := by
  go_enter Tryz.func67, Tryz.ntmps67
  go_wp2_with (go_at_call 73; refine (coded_6 _).mono ?_; rintro e w1 ⟨g, rfl, hg, hr, hb⟩; have Hb := Lib.hid hb; have Hr := Lib.hid hr; have hgg := Lib.hid hg; clear hr hb hg)
  rw [run_storeCells_new w1 83 #[.string ⟨#[]⟩, .int .i64 0, .slice none 0 0, .int .i64 0, .bool false, .nilIface] (pcells 6 g) rfl (pcells_one _ _)]
  have hk := Blk.new w1 83 (pcells 6 g)
  have c1 : (w1.alloc (.cells (pcells 6 g) 83)).cell? ⟨w1.heap.size, 1, none⟩ = some (.int .i64 6) := hk.cell 1
  have HK := Lib.hid hk
  clear hk
  go_wp2_with fail
  go_ret
  exact ⟨w1.heap.size, g, rfl, Hb.out.size, hgg.out, Nat.ne_of_gt Hr.out.lt, HK.out, Hr.out.alloc _, Hb.out.alloc Hb.out.size _⟩

set_option maxRecDepth 100000 in
set_option maxHeartbeats 2000000 in
theorem coded_41 (w : World) : Calls Tryz.prog 73 #[.int .i64 41] w (OutP 41 w) := by
  go_enter Tryz.func73, Tryz.ntmps73
  go_wp2_with (go_at_call 83; refine (proto_41 _).mono ?_; rintro e w1 ⟨g, rfl, hg, hr, hb⟩; have hk := Lib.hid ((Blk.new w 83 pzero).below hb (by simp)); have Hb := Lib.hid hb; have Hr := Lib.hid hr; have hgg := Lib.hid (show w.heap.size + 1 ≤ g by simpa using hg); clear hr hb hg)
  rw [run_storeCells_row _ w.heap.size 83 pzero (pcells 41 g) hk.out rfl (pcells_one _ _)]
  go_wp2_with fail
  have hbb := ((Below.refl _ w).alloc (Nat.le_refl _) (.cells pzero 83)).trans (Hb.out.mono (by simp))
  exact bodyPost_ret (results_cell_row rfl _ _ w.heap.size 83 (pcells 41 g) (0, 0) _ rfl (hk.out.row _) Tryz.underlying83 rfl (proto_size.trans rfl)) rfl
    ⟨g, rfl, Nat.le_of_succ_le hgg.out, Hr.out.rowFar (by have := hgg.out; omega) _, below_setRow hbb (Nat.le_refl _) _⟩
set_option maxRecDepth 100000 in
set_option maxHeartbeats 2000000 in
theorem pcode_41 (w : World) : Calls Tryz.prog 66 #[.int .i64 41] w (OutP 41 w) := by
  go_enter Tryz.func66, Tryz.ntmps66
  go_wp2_with (go_at_call 73; refine (coded_41 _).mono ?_; rintro e w1 ⟨g, rfl, hg, hr, hb⟩; have hk := Lib.hid ((Blk.new w 83 pzero).below hb (by simp)); have Hb := Lib.hid hb; have Hr := Lib.hid hr; have hgg := Lib.hid (show w.heap.size + 1 ≤ g by simpa using hg); clear hr hb hg)
  rw [run_storeCells_row _ w.heap.size 83 pzero (pcells 41 g) hk.out rfl (pcells_one _ _)]
  go_wp2_with fail
  have hbb := ((Below.refl _ w).alloc (Nat.le_refl _) (.cells pzero 83)).trans (Hb.out.mono (by simp))
  exact bodyPost_ret (results_cell_row rfl _ _ w.heap.size 83 (pcells 41 g) (0, 0) _ rfl (hk.out.row _) Tryz.underlying83 rfl (proto_size.trans rfl)) rfl
    ⟨g, rfl, Nat.le_of_succ_le hgg.out, Hr.out.rowFar (by have := hgg.out; omega) _, below_setRow hbb (Nat.le_refl _) _⟩
set_option maxRecDepth 100000 in
set_option maxHeartbeats 2000000 in
theorem ptr_41 (w : World) : Calls Tryz.prog 67 #[.int .i64 41] w (OutPP 41 w) := by
  go_enter Tryz.func67, Tryz.ntmps67
  go_wp2_with (go_at_call 73; refine (coded_41 _).mono ?_; rintro e w1 ⟨g, rfl, hg, hr, hb⟩; have Hb := Lib.hid hb; have Hr := Lib.hid hr; have hgg := Lib.hid hg; clear hr hb hg)
  rw [run_storeCells_new w1 83 #[.string ⟨#[]⟩, .int .i64 0, .slice none 0 0, .int .i64 0, .bool false, .nilIface] (pcells 41 g) rfl (pcells_one _ _)]
  have hk := Blk.new w1 83 (pcells 41 g)
  have c1 : (w1.alloc (.cells (pcells 41 g) 83)).cell? ⟨w1.heap.size, 1, none⟩ = some (.int .i64 41) := hk.cell 1
  have HK := Lib.hid hk
  clear hk
  go_wp2_with fail
  go_ret
  exact ⟨w1.heap.size, g, rfl, Hb.out.size, hgg.out, Nat.ne_of_gt Hr.out.lt, HK.out, Hr.out.alloc _, Hb.out.alloc Hb.out.size _⟩

set_option maxRecDepth 100000 in
set_option maxHeartbeats 2000000 in
theorem coded_273 (w : World) : Calls Tryz.prog 73 #[.int .i64 273] w (OutP 273 w) := by
  go_enter Tryz.func73, Tryz.ntmps73
  go_wp2_with (go_at_call 81; refine (proto_273 _).mono ?_; rintro e w1 ⟨g, rfl, hg, hr, hb⟩; have hk := Lib.hid ((Blk.new w 83 pzero).below hb (by simp)); have Hb := Lib.hid hb; have Hr := Lib.hid hr; have hgg := Lib.hid (show w.heap.size + 1 ≤ g by simpa using hg); clear hr hb hg)
  rw [run_storeCells_row _ w.heap.size 83 pzero (pcells 273 g) hk.out rfl (pcells_one _ _)]
  go_wp2_with fail
  have hbb := ((Below.refl _ w).alloc (Nat.le_refl _) (.cells pzero 83)).trans (Hb.out.mono (by simp))
  exact bodyPost_ret (results_cell_row rfl _ _ w.heap.size 83 (pcells 273 g) (0, 0) _ rfl (hk.out.row _) Tryz.underlying83 rfl (proto_size.trans rfl)) rfl
    ⟨g, rfl, Nat.le_of_succ_le hgg.out, Hr.out.rowFar (by have := hgg.out; omega) _, below_setRow hbb (Nat.le_refl _) _⟩
set_option maxRecDepth 100000 in
set_option maxHeartbeats 2000000 in
theorem pcode_273 (w : World) : Calls Tryz.prog 66 #[.int .i64 273] w (OutP 273 w) := by
  go_enter Tryz.func66, Tryz.ntmps66
  go_wp2_with (go_at_call 73; refine (coded_273 _).mono ?_; rintro e w1 ⟨g, rfl, hg, hr, hb⟩; have hk := Lib.hid ((Blk.new w 83 pzero).below hb (by simp)); have Hb := Lib.hid hb; have Hr := Lib.hid hr; have hgg := Lib.hid (show w.heap.size + 1 ≤ g by simpa using hg); clear hr hb hg)
  rw [run_storeCells_row _ w.heap.size 83 pzero (pcells 273 g) hk.out rfl (pcells_one _ _)]
  go_wp2_with fail
  have hbb := ((Below.refl _ w).alloc (Nat.le_refl _) (.cells pzero 83)).trans (Hb.out.mono (by simp))
  exact bodyPost_ret (results_cell_row rfl _ _ w.heap.size 83 (pcells 273 g) (0, 0) _ rfl (hk.out.row _) Tryz.underlying83 rfl (proto_size.trans rfl)) rfl
    ⟨g, rfl, Nat.le_of_succ_le hgg.out, Hr.out.rowFar (by have := hgg.out; omega) _, below_setRow hbb (Nat.le_refl _) _⟩
set_option maxRecDepth 100000 in
set_option maxHeartbeats 2000000 in
theorem ptr_273 (w : World) : Calls Tryz.prog 67 #[.int .i64 273] w (OutPP 273 w) := by
  go_enter Tryz.func67, Tryz.ntmps67
  go_wp2_with (go_at_call 73; refine (coded_273 _).mono ?_; rintro e w1 ⟨g, rfl, hg, hr, hb⟩; have Hb := Lib.hid hb; have Hr := Lib.hid hr; have hgg := Lib.hid hg; clear hr hb hg)
  rw [run_storeCells_new w1 83 #[.string ⟨#[]⟩, .int .i64 0, .slice none 0 0, .int .i64 0, .bool false, .nilIface] (pcells 273 g) rfl (pcells_one _ _)]
  have hk := Blk.new w1 83 (pcells 273 g)
  have c1 : (w1.alloc (.cells (pcells 273 g) 83)).cell? ⟨w1.heap.size, 1, none⟩ = some (.int .i64 273) := hk.cell 1
  have HK := Lib.hid hk
  clear hk
  go_wp2_with fail
  go_ret
  exact ⟨w1.heap.size, g, rfl, Hb.out.size, hgg.out, Nat.ne_of_gt Hr.out.lt, HK.out, Hr.out.alloc _, Hb.out.alloc Hb.out.size _⟩

set_option maxRecDepth 100000 in
set_option maxHeartbeats 2000000 in
theorem coded_290 (w : World) : Calls Tryz.prog 73 #[.int .i64 290] w (OutP 290 w) := by
  go_enter Tryz.func73, Tryz.ntmps73
  go_wp2_with (go_at_call 87; refine (proto_290 _).mono ?_; rintro e w1 ⟨g, rfl, hg, hr, hb⟩; have hk := Lib.hid ((Blk.new w 83 pzero).below hb (by simp)); have Hb := Lib.hid hb; have Hr := Lib.hid hr; have hgg := Lib.hid (show w.heap.size + 1 ≤ g by simpa using hg); clear hr hb hg)
  rw [run_storeCells_row _ w.heap.size 83 pzero (pcells 290 g) hk.out rfl (pcells_one _ _)]
  go_wp2_with fail
  have hbb := ((Below.refl _ w).alloc (Nat.le_refl _) (.cells pzero 83)).trans (Hb.out.mono (by simp))
  exact bodyPost_ret (results_cell_row rfl _ _ w.heap.size 83 (pcells 290 g) (0, 0) _ rfl (hk.out.row _) Tryz.underlying83 rfl (proto_size.trans rfl)) rfl
    ⟨g, rfl, Nat.le_of_succ_le hgg.out, Hr.out.rowFar (by have := hgg.out; omega) _, below_setRow hbb (Nat.le_refl _) _⟩
set_option maxRecDepth 100000 in
set_option maxHeartbeats 2000000 in
theorem pcode_290 (w : World) : Calls Tryz.prog 66 #[.int .i64 290] w (OutP 290 w) := by
  go_enter Tryz.func66, Tryz.ntmps66
  go_wp2_with (go_at_call 73; refine (coded_290 _).mono ?_; rintro e w1 ⟨g, rfl, hg, hr, hb⟩; have hk := Lib.hid ((Blk.new w 83 pzero).below hb (by simp)); have Hb := Lib.hid hb; have Hr := Lib.hid hr; have hgg := Lib.hid (show w.heap.size + 1 ≤ g by simpa using hg); clear hr hb hg)
  rw [run_storeCells_row _ w.heap.size 83 pzero (pcells 290 g) hk.out rfl (pcells_one _ _)]
  go_wp2_with fail
  have hbb := ((Below.refl _ w).alloc (Nat.le_refl _) (.cells pzero 83)).trans (Hb.out.mono (by simp))
  exact bodyPost_ret (results_cell_row rfl _ _ w.heap.size 83 (pcells 290 g) (0, 0) _ rfl (hk.out.row _) Tryz.underlying83 rfl (proto_size.trans rfl)) rfl
    ⟨g, rfl, Nat.le_of_succ_le hgg.out, Hr.out.rowFar (by have := hgg.out; omega) _, below_setRow hbb (Nat.le_refl _) _⟩
set_option maxRecDepth 100000 in
set_option maxHeartbeats 2000000 in
theorem ptr_290 (w : World) : Calls Tryz.prog 67 #[.int .i64 290] w (OutPP 290 w) := by
  go_enter Tryz.func67, Tryz.ntmps67
  go_wp2_with (go_at_call 73; refine (coded_290 _).mono ?_; rintro e w1 ⟨g, rfl, hg, hr, hb⟩; have Hb := Lib.hid hb; have Hr := Lib.hid hr; have hgg := Lib.hid hg; clear hr hb hg)
  rw [run_storeCells_new w1 83 #[.string ⟨#[]⟩, .int .i64 0, .slice none 0 0, .int .i64 0, .bool false, .nilIface] (pcells 290 g) rfl (pcells_one _ _)]
  have hk := Blk.new w1 83 (pcells 290 g)
  have c1 : (w1.alloc (.cells (pcells 290 g) 83)).cell? ⟨w1.heap.size, 1, none⟩ = some (.int .i64 290) := hk.cell 1
  have HK := Lib.hid hk
  clear hk
  go_wp2_with fail
  go_ret
  exact ⟨w1.heap.size, g, rfl, Hb.out.size, hgg.out, Nat.ne_of_gt Hr.out.lt, HK.out, Hr.out.alloc _, Hb.out.alloc Hb.out.size _⟩

set_option maxRecDepth 100000 in
set_option maxHeartbeats 2000000 in
theorem coded_421 (w : World) : Calls Tryz.prog 73 #[.int .i64 421] w (OutP 421 w) := by
  go_enter Tryz.func73, Tryz.ntmps73
  go_wp2_with (go_at_call 101; refine (proto_421 _).mono ?_; rintro e w1 ⟨g, rfl, hg, hr, hb⟩; have hk := Lib.hid ((Blk.new w 83 pzero).below hb (by simp)); have Hb := Lib.hid hb; have Hr := Lib.hid hr; have hgg := Lib.hid (show w.heap.size + 1 ≤ g by simpa using hg); clear hr hb hg)
  rw [run_storeCells_row _ w.heap.size 83 pzero (pcells 421 g) hk.out rfl (pcells_one _ _)]
  go_wp2_with fail
  have hbb := ((Below.refl _ w).alloc (Nat.le_refl _) (.cells pzero 83)).trans (Hb.out.mono (by simp))
  exact bodyPost_ret (results_cell_row rfl _ _ w.heap.size 83 (pcells 421 g) (0, 0) _ rfl (hk.out.row _) Tryz.underlying83 rfl (proto_size.trans rfl)) rfl
    ⟨g, rfl, Nat.le_of_succ_le hgg.out, Hr.out.rowFar (by have := hgg.out; omega) _, below_setRow hbb (Nat.le_refl _) _⟩
set_option maxRecDepth 100000 in
set_option maxHeartbeats 2000000 in
theorem pcode_421 (w : World) : Calls Tryz.prog 66 #[.int .i64 421] w (OutP 421 w) := by
  go_enter Tryz.func66, Tryz.ntmps66
  go_wp2_with (go_at_call 73; refine (coded_421 _).mono ?_; rintro e w1 ⟨g, rfl, hg, hr, hb⟩; have hk := Lib.hid ((Blk.new w 83 pzero).below hb (by simp)); have Hb := Lib.hid hb; have Hr := Lib.hid hr; have hgg := Lib.hid (show w.heap.size + 1 ≤ g by simpa using hg); clear hr hb hg)
  rw [run_storeCells_row _ w.heap.size 83 pzero (pcells 421 g) hk.out rfl (pcells_one _ _)]
  go_wp2_with fail
  have hbb := ((Below.refl _ w).alloc (Nat.le_refl _) (.cells pzero 83)).trans (Hb.out.mono (by simp))
  exact bodyPost_ret (results_cell_row rfl _ _ w.heap.size 83 (pcells 421 g) (0, 0) _ rfl (hk.out.row _) Tryz.underlying83 rfl (proto_size.trans rfl)) rfl
    ⟨g, rfl, Nat.le_of_succ_le hgg.out, Hr.out.rowFar (by have := hgg.out; omega) _, below_setRow hbb (Nat.le_refl _) _⟩
set_option maxRecDepth 100000 in
set_option maxHeartbeats 2000000 in
theorem ptr_421 (w : World) : Calls Tryz.prog 67 #[.int .i64 421] w (OutPP 421 w) := by
  go_enter Tryz.func67, Tryz.ntmps67
  go_wp2_with (go_at_call 73; refine (coded_421 _).mono ?_; rintro e w1 ⟨g, rfl, hg, hr, hb⟩; have Hb := Lib.hid hb; have Hr := Lib.hid hr; have hgg := Lib.hid hg; clear hr hb hg)
  rw [run_storeCells_new w1 83 #[.string ⟨#[]⟩, .int .i64 0, .slice none 0 0, .int .i64 0, .bool false, .nilIface] (pcells 421 g) rfl (pcells_one _ _)]
  have hk := Blk.new w1 83 (pcells 421 g)
  have c1 : (w1.alloc (.cells (pcells 421 g) 83)).cell? ⟨w1.heap.size, 1, none⟩ = some (.int .i64 421) := hk.cell 1
  have HK := Lib.hid hk
  clear hk
  go_wp2_with fail
  go_ret
  exact ⟨w1.heap.size, g, rfl, Hb.out.size, hgg.out, Nat.ne_of_gt Hr.out.lt, HK.out, Hr.out.alloc _, Hb.out.alloc Hb.out.size _⟩

set_option maxRecDepth 100000 in
set_option maxHeartbeats 2000000 in
theorem coded_461 (w : World) : Calls Tryz.prog 73 #[.int .i64 461] w (OutP 461 w) := by
  go_enter Tryz.func73, Tryz.ntmps73
  go_wp2_with (go_at_call 95; refine (proto_461 _).mono ?_; rintro e w1 ⟨g, rfl, hg, hr, hb⟩; have hk := Lib.hid ((Blk.new w 83 pzero).below hb (by simp)); have Hb := Lib.hid hb; have Hr := Lib.hid hr; have hgg := Lib.hid (show w.heap.size + 1 ≤ g by simpa using hg); clear hr hb hg)
  rw [run_storeCells_row _ w.heap.size 83 pzero (pcells 461 g) hk.out rfl (pcells_one _ _)]
  go_wp2_with fail
  have hbb := ((Below.refl _ w).alloc (Nat.le_refl _) (.cells pzero 83)).trans (Hb.out.mono (by simp))
  exact bodyPost_ret (results_cell_row rfl _ _ w.heap.size 83 (pcells 461 g) (0, 0) _ rfl (hk.out.row _) Tryz.underlying83 rfl (proto_size.trans rfl)) rfl
    ⟨g, rfl, Nat.le_of_succ_le hgg.out, Hr.out.rowFar (by have := hgg.out; omega) _, below_setRow hbb (Nat.le_refl _) _⟩
set_option maxRecDepth 100000 in
set_option maxHeartbeats 2000000 in
theorem pcode_461 (w : World) : Calls Tryz.prog 66 #[.int .i64 461] w (OutP 461 w) := by
  go_enter Tryz.func66, Tryz.ntmps66
  go_wp2_with (go_at_call 73; refine (coded_461 _).mono ?_; rintro e w1 ⟨g, rfl, hg, hr, hb⟩; have hk := Lib.hid ((Blk.new w 83 pzero).below hb (by simp)); have Hb := Lib.hid hb; have Hr := Lib.hid hr; have hgg := Lib.hid (show w.heap.size + 1 ≤ g by simpa using hg); clear hr hb hg)
  rw [run_storeCells_row _ w.heap.size 83 pzero (pcells 461 g) hk.out rfl (pcells_one _ _)]
  go_wp2_with fail
  have hbb := ((Below.refl _ w).alloc (Nat.le_refl _) (.cells pzero 83)).trans (Hb.out.mono (by simp))
  exact bodyPost_ret (results_cell_row rfl _ _ w.heap.size 83 (pcells 461 g) (0, 0) _ rfl (hk.out.row _) Tryz.underlying83 rfl (proto_size.trans rfl)) rfl
    ⟨g, rfl, Nat.le_of_succ_le hgg.out, Hr.out.rowFar (by have := hgg.out; omega) _, below_setRow hbb (Nat.le_refl _) _⟩
set_option maxRecDepth 100000 in
set_option maxHeartbeats 2000000 in
theorem ptr_461 (w : World) : Calls Tryz.prog 67 #[.int .i64 461] w (OutPP 461 w) := by
  go_enter Tryz.func67, Tryz.ntmps67
  go_wp2_with (go_at_call 73; refine (coded_461 _).mono ?_; rintro e w1 ⟨g, rfl, hg, hr, hb⟩; have Hb := Lib.hid hb; have Hr := Lib.hid hr; have hgg := Lib.hid hg; clear hr hb hg)
  rw [run_storeCells_new w1 83 #[.string ⟨#[]⟩, .int .i64 0, .slice none 0 0, .int .i64 0, .bool false, .nilIface] (pcells 461 g) rfl (pcells_one _ _)]
  have hk := Blk.new w1 83 (pcells 461 g)
  have c1 : (w1.alloc (.cells (pcells 461 g) 83)).cell? ⟨w1.heap.size, 1, none⟩ = some (.int .i64 461) := hk.cell 1
  have HK := Lib.hid hk
  clear hk
  go_wp2_with fail
  go_ret
  exact ⟨w1.heap.size, g, rfl, Hb.out.size, hgg.out, Nat.ne_of_gt Hr.out.lt, HK.out, Hr.out.alloc _, Hb.out.alloc Hb.out.size _⟩

set_option maxRecDepth 100000 in
set_option maxHeartbeats 2000000 in
theorem coded_477 (w : World) : Calls Tryz.prog 73 #[.int .i64 477] w (OutP 477 w) := by
  go_enter Tryz.func73, Tryz.ntmps73
  go_wp2_with (go_at_call 107; refine (proto_477 _).mono ?_; rintro e w1 ⟨g, rfl, hg, hr, hb⟩; have hk := Lib.hid ((Blk.new w 83 pzero).below hb (by simp)); have Hb := Lib.hid hb; have Hr := Lib.hid hr; have hgg := Lib.hid (show w.heap.size + 1 ≤ g by simpa using hg); clear hr hb hg)
  rw [run_storeCells_row _ w.heap.size 83 pzero (pcells 477 g) hk.out rfl (pcells_one _ _)]
  go_wp2_with fail
  have hbb := ((Below.refl _ w).alloc (Nat.le_refl _) (.cells pzero 83)).trans (Hb.out.mono (by simp))
  exact bodyPost_ret (results_cell_row rfl _ _ w.heap.size 83 (pcells 477 g) (0, 0) _ rfl (hk.out.row _) Tryz.underlying83 rfl (proto_size.trans rfl)) rfl
    ⟨g, rfl, Nat.le_of_succ_le hgg.out, Hr.out.rowFar (by have := hgg.out; omega) _, below_setRow hbb (Nat.le_refl _) _⟩
set_option maxRecDepth 100000 in
set_option maxHeartbeats 2000000 in
theorem pcode_477 (w : World) : Calls Tryz.prog 66 #[.int .i64 477] w (OutP 477 w) := by
  go_enter Tryz.func66, Tryz.ntmps66
  go_wp2_with (go_at_call 73; refine (coded_477 _).mono ?_; rintro e w1 ⟨g, rfl, hg, hr, hb⟩; have hk := Lib.hid ((Blk.new w 83 pzero).below hb (by simp)); have Hb := Lib.hid hb; have Hr := Lib.hid hr; have hgg := Lib.hid (show w.heap.size + 1 ≤ g by simpa using hg); clear hr hb hg)
  rw [run_storeCells_row _ w.heap.size 83 pzero (pcells 477 g) hk.out rfl (pcells_one _ _)]
  go_wp2_with fail
  have hbb := ((Below.refl _ w).alloc (Nat.le_refl _) (.cells pzero 83)).trans (Hb.out.mono (by simp))
  exact bodyPost_ret (results_cell_row rfl _ _ w.heap.size 83 (pcells 477 g) (0, 0) _ rfl (hk.out.row _) Tryz.underlying83 rfl (proto_size.trans rfl)) rfl
    ⟨g, rfl, Nat.le_of_succ_le hgg.out, Hr.out.rowFar (by have := hgg.out; omega) _, below_setRow hbb (Nat.le_refl _) _⟩
set_option maxRecDepth 100000 in
set_option maxHeartbeats 2000000 in
theorem ptr_477 (w : World) : Calls Tryz.prog 67 #[.int .i64 477] w (OutPP 477 w) := by
  go_enter Tryz.func67, Tryz.ntmps67
  go_wp2_with (go_at_call 73; refine (coded_477 _).mono ?_; rintro e w1 ⟨g, rfl, hg, hr, hb⟩; have Hb := Lib.hid hb; have Hr := Lib.hid hr; have hgg := Lib.hid hg; clear hr hb hg)
  rw [run_storeCells_new w1 83 #[.string ⟨#[]⟩, .int .i64 0, .slice none 0 0, .int .i64 0, .bool false, .nilIface] (pcells 477 g) rfl (pcells_one _ _)]
  have hk := Blk.new w1 83 (pcells 477 g)
  have c1 : (w1.alloc (.cells (pcells 477 g) 83)).cell? ⟨w1.heap.size, 1, none⟩ = some (.int .i64 477) := hk.cell 1
  have HK := Lib.hid hk
  clear hk
  go_wp2_with fail
  go_ret
  exact ⟨w1.heap.size, g, rfl, Hb.out.size, hgg.out, Nat.ne_of_gt Hr.out.lt, HK.out, Hr.out.alloc _, Hb.out.alloc Hb.out.size _⟩
end Go.Proofs.YtimakhadabenbaaGreatDoor

/- Multihashes of one byte of code and one byte of length: what the package makes of them. -/
namespace Go.Proofs.YtimakhadabenbaaGreatDoor
open Go.RowKit
theorem RB.drewN {w : World} {B n c : Nat} {A : Option Addr} {l : List UInt8} (h : RB w B A n c l) (k : Nat) : RB (w.drewN k) B A n c l := ⟨h.reads.drewN k, h.cap, h.max⟩
theorem RB.undrewN {w : World} {B n c k : Nat} {A : Option Addr} {l : List UInt8} (h : RB (w.drewN k) B A n c l) : RB w B A n c l := ⟨h.reads, h.cap, h.max⟩
theorem RB.alloc {w : World} {n c : Nat} {A : Option Addr} {l : List UInt8} (h : RB w w.heap.size A n c l) (o : Obj) : RB (w.alloc o) (w.alloc o).heap.size A n c l := h.next ((Below.refl _ _).alloc (Nat.le_refl _) _)
/-- The rest of the bytes, behind a number. -/
def OutU (v : Nat) (l : List UInt8) (w : World) (e : Ending) (w' : World) : Prop :=
  ∃ A c k, e = .returned (.tuple #[.int .u64 v, .slice A l.length c, .nilIface]) ∧ w' = w.drewN k ∧ RB w w.heap.size A l.length c l

set_option maxRecDepth 100000 in
set_option maxHeartbeats 1000000 in
theorem muv_any (A : Option Addr) (n c : Nat) (b : UInt8) (v : Nat) (l : List UInt8) (w : World) (h : RB w w.heap.size A n c (b :: l)) (hv : b.toNat = v) (hb : v < 128) :
    Calls Tryz.prog 340 #[.slice A n c] w (OutU v l w) := by
  have hlen := h.len
  have hn : n = l.length + 1 := by simp at hlen; omega
  subst hn
  have hd := Lib.hid (h.drop (k := 1) (by omega))
  have hcap := h.cap
  have hm := h.max
  unfold maxLen at hm
  have hc := from_one A (l.length + 1) c b l w h (by omega)
  rw [hv] at hc
  have HC := Lib.hid hc
  clear h hlen hv hc
  go_enter Tryz.func340, Tryz.ntmps340
  go_wp2_with (go_at_call 72; refine HC.out.mono ?_; rintro e w' ⟨rfl, rfl⟩)
  go_quiet (fail)
  go_wp2_with fail
  · go_ret3
    have hd := hd.out
    rw [if_pos h] at hd
    subst h
    exact ⟨_, _, _, rfl, rfl, hd⟩
  · go_ret3
    have hd := hd.out
    rw [if_neg h] at hd
    exact ⟨_, _, _, rfl, rfl, hd⟩

/-- What a multihash holds. -/
def OutM (v : Nat) (l : List UInt8) (w : World) (e : Ending) (w' : World) : Prop :=
  ∃ A c k, e = .returned (.tuple #[.int .i64 (l.length + 2 : Nat), .int .u64 v, .slice A l.length c, .nilIface]) ∧ w' = w.drewN k ∧ RB w w.heap.size A l.length c l

set_option maxRecDepth 100000 in
set_option maxHeartbeats 1000000 in
theorem readmh_any (A : Option Addr) (c : Nat) (b b2 : UInt8) (v : Nat) (l : List UInt8) (w : World) (h : RB w w.heap.size A (l.length + 2) c (b :: b2 :: l)) (hv : b.toNat = v) (hb : v < 128) (hv2 : b2.toNat = l.length) (hb2 : l.length < 128) :
    Calls Tryz.prog 306 #[.slice A (l.length + 2 : Nat) c] w (OutM v l w) := by
  have HC := Lib.hid (muv_any A (l.length + 2) c b v (b2 :: l) w h hv hb)
  have HV := Lib.hid hv2
  clear h hv hv2
  go_enter Tryz.func306, Tryz.ntmps306
  go_wp2_with fail
  refine HC.out.mono ?_
  rintro e w' ⟨A1, c1, k1, rfl, rfl, hr⟩
  have HR := Lib.hid (muv_any A1 _ c1 b2 l.length l _ (hr.drewN k1) HV.out hb2)
  clear hr
  go_wp2_with fail
  refine HR.out.mono ?_
  rintro e w' ⟨A2, c2, k2, rfl, rfl, hr⟩
  have hcap := hr.cap
  have hmax : c2 ≤ 9223372036854775807 := hr.max
  have HR2 := Lib.hid (hr.drewN k1)
  clear hr
  go_wp2_with fail
  go_quiet (fail)
  go_wp2_with fail
  refine bodyPost_ret (results_tmp4 rfl _ _ _) rfl ?_
  exact ⟨A2, c2, _, rfl, by simp only [World.drewN_drewN]; rfl, HR2.out.undrewN.undrewN⟩

theorem dm_size : (Tryz.prog.info? 192).map (·.size) = some 4 := by kernel_rfl
/-- A multihash, read. -/
def OutD (v : Nat) (l : List UInt8) (w : World) (e : Ending) (w' : World) : Prop :=
  ∃ A c, e = .returned (.tuple #[.agg #[.int .u64 v, .string ⟨#[]⟩, .int .i64 l.length, .slice A l.length c], .nilIface]) ∧ Below w.heap.size w w'
set_option maxRecDepth 100000 in
set_option maxHeartbeats 1000000 in
theorem decode_any (A : Option Addr) (c : Nat) (b b2 : UInt8) (v : Nat) (l : List UInt8) (w : World) (h : RB w w.heap.size A (l.length + 2) c (b :: b2 :: l)) (hv : b.toNat = v) (hb : v < 128) (hv2 : b2.toNat = l.length) (hb2 : l.length < 128) :
    Calls Tryz.prog 246 #[.slice A (l.length + 2 : Nat) c] w (OutD v l w) := by
  have HC := Lib.hid (readmh_any A c b b2 v l _ (h.alloc (.cells #[.int .u64 0, .string ⟨#[]⟩, .int .i64 0, .slice none 0 0] 192)) hv hb hv2 hb2)
  clear h hv hv2
  go_enter Tryz.func246, Tryz.ntmps246
  go_wp2_with fail
  refine HC.out.mono ?_
  rintro e w1 ⟨A1, cc, k1, rfl, hw, hr⟩
  have hk : Blk w1 w.heap.size 192 #[.int .u64 0, .string ⟨#[]⟩, .int .i64 0, .slice none 0 0] := by rw [hw]; exact (Blk.new _ _ _).drewN _
  have hb1 : Below w.heap.size w w1 := by rw [hw]; exact below_drewN ((Below.refl _ w).alloc (Nat.le_refl _) _) _
  have c0 : w1.cell? ⟨w.heap.size, 0, none⟩ = some (.int .u64 0) := hk.cell 0
  have c1 : w1.cell? ⟨w.heap.size, 1, none⟩ = some (.string ⟨#[]⟩) := hk.cell 1
  have c2 : w1.cell? ⟨w.heap.size, 2, none⟩ = some (.int .i64 0) := hk.cell 2
  have c3 : w1.cell? ⟨w.heap.size, 3, none⟩ = some (.slice none 0 0) := hk.cell 3
  obtain ⟨f0, f1, f2, f3, _, _⟩ := six_frozen hk
  have HB := Lib.hid hb1
  have HK := Lib.hid hk
  clear hr hw hk hb1
  go_wp2_with fail
  exact bodyPost_ret (results_cell_tmp rfl _ _ w.heap.size 192 #[.int .u64 v, .string ⟨#[]⟩, .int .i64 l.length, .slice A1 l.length cc] (0, 0) _ rfl ((((((((HK.out.set_ 0 (.int .u64 v)).set_ 1 (.string ⟨#[]⟩)).set_ 2 (.int .i64 l.length)).set_ 3 (.slice A1 l.length cc)).set_ 0 (.int .u64 v)).set_ 1 (.string ⟨#[]⟩)).set_ 2 (.int .i64 l.length)).set_ 3 (.slice A1 l.length cc)) Tryz.underlying192 rfl dm_size) rfl
    ⟨A1, cc, rfl, ((((((((HB.out.setCell (Nat.le_refl _) _).setCell (Nat.le_refl _) _).setCell (Nat.le_refl _) _).setCell (Nat.le_refl _) _).setCell (Nat.le_refl _) _).setCell (Nat.le_refl _) _).setCell (Nat.le_refl _) _).setCell (Nat.le_refl _) _)⟩

/-- A multihash, read, on the heap. -/
def OutDP (v : Nat) (l : List UInt8) (w : World) (e : Ending) (w' : World) : Prop :=
  ∃ g A c, e = .returned (.tuple #[.pointer (some ⟨g, 0, none⟩), .nilIface]) ∧ Blk w' g 192 #[.int .u64 v, .string ⟨#[]⟩, .int .i64 l.length, .slice A l.length c] ∧ Below w.heap.size w w'
set_option maxRecDepth 100000 in
set_option maxHeartbeats 1000000 in
theorem mdecode_any (A : Option Addr) (c : Nat) (b b2 : UInt8) (v : Nat) (l : List UInt8) (w : World) (h : RB w w.heap.size A (l.length + 2) c (b :: b2 :: l)) (hv : b.toNat = v) (hb : v < 128) (hv2 : b2.toNat = l.length) (hb2 : l.length < 128) :
    Calls Tryz.prog 198 #[.slice A (l.length + 2 : Nat) c] w (OutDP v l w) := by
  have HC := Lib.hid (decode_any A c b b2 v l _ h hv hb hv2 hb2)
  clear h hv hv2
  go_enter Tryz.func198, Tryz.ntmps198
  go_wp2_with fail
  refine HC.out.mono ?_
  rintro e w1 ⟨A1, cc, rfl, hb1⟩
  have HB := Lib.hid hb1
  clear hb1
  go_wp2_with fail
  go_ret2
  exact ⟨w1.heap.size, A1, cc, rfl, Blk.new _ _ _, HB.out.alloc HB.out.size _⟩
set_option maxRecDepth 100000 in
set_option maxHeartbeats 1000000 in
theorem cast_any (A : Option Addr) (c : Nat) (b b2 : UInt8) (v : Nat) (l : List UInt8) (w : World) (h : RB w w.heap.size A (l.length + 2) c (b :: b2 :: l)) (hv : b.toNat = v) (hb : v < 128) (hv2 : b2.toNat = l.length) (hb2 : l.length < 128) :
    Calls Tryz.prog 207 #[.slice A (l.length + 2 : Nat) c] w fun e w' => e = .returned (.tuple #[.slice A (l.length + 2 : Nat) c, .nilIface]) ∧ Below w.heap.size w w' := by
  have HC := Lib.hid (mdecode_any A c b b2 v l _ h hv hb hv2 hb2)
  clear h hv hv2
  go_enter Tryz.func207, Tryz.ntmps207
  go_wp2_with fail
  refine HC.out.mono ?_
  rintro e w1 ⟨g, A1, cc, rfl, _, hb1⟩
  have HB := Lib.hid hb1
  clear hb1
  go_wp2_with fail
  go_ret2
  exact ⟨rfl, HB.out⟩
set_option maxRecDepth 100000 in
set_option maxHeartbeats 1000000 in
theorem pval_0 (A : Option Addr) (c : Nat) (b b2 : UInt8) (l : List UInt8) (w : World) (h : RB w w.heap.size A (l.length + 2) c (b :: b2 :: l)) (hv : b.toNat = 0) (hv2 : b2.toNat = l.length) (hb2 : l.length < 128) :
    Calls Tryz.prog 166 #[.slice A (l.length + 2 : Nat) c] w fun e w' => e = .returned .nilIface ∧ Below w.heap.size w w' := by
  have HC := Lib.hid (mdecode_any A c b b2 0 l _ h hv (by omega) hv2 hb2)
  clear h hv hv2
  go_enter Tryz.func166, Tryz.ntmps166
  go_wp2_with fail
  refine HC.out.mono ?_
  rintro e w1 ⟨g, A1, cc, rfl, hk, hb1⟩
  have HB := Lib.hid hb1
  have c0 : w1.cell? ⟨g, 0, none⟩ = some (.int .u64 0) := hk.cell 0
  have c2 : w1.cell? ⟨g, 2, none⟩ = some (.int .i64 l.length) := hk.cell 2
  clear hb1 hk
  go_wp2_with fail
  go_ret
  exact ⟨rfl, HB.out⟩
set_option maxRecDepth 100000 in
set_option maxHeartbeats 1000000 in
theorem pval_18 (A : Option Addr) (c : Nat) (b b2 : UInt8) (l : List UInt8) (w : World) (h : RB w w.heap.size A (l.length + 2) c (b :: b2 :: l)) (hv : b.toNat = 18) (hv2 : b2.toNat = l.length) (hb2 : l.length < 128) (hl : l.length = 32) :
    Calls Tryz.prog 166 #[.slice A (l.length + 2 : Nat) c] w fun e w' => e = .returned .nilIface ∧ Below w.heap.size w w' := by
  have HC := Lib.hid (mdecode_any A c b b2 18 l _ h hv (by omega) hv2 hb2)
  have HL := Lib.hid hl
  clear hl
  clear h hv hv2
  go_enter Tryz.func166, Tryz.ntmps166
  go_wp2_with fail
  refine HC.out.mono ?_
  rintro e w1 ⟨g, A1, cc, rfl, hk, hb1⟩
  have HB := Lib.hid hb1
  have c0 : w1.cell? ⟨g, 0, none⟩ = some (.int .u64 18) := hk.cell 0
  have c2 : w1.cell? ⟨g, 2, none⟩ = some (.int .i64 l.length) := hk.cell 2
  have c3 : w1.cell? ⟨g, 2, none⟩ = some (.int .i64 32) := by rw [c2, HL.out]; rfl
  clear c2
  clear hb1 hk
  go_wp2_with fail
  go_ret
  exact ⟨rfl, HB.out⟩
end Go.Proofs.YtimakhadabenbaaGreatDoor
