/- Protocols by their codes: zzCoded, zzPtr. -/
import Derived.Test.YtghddiboggdhcaaGreatDoorPc
import Derived.BigQuiet
import Derived.Deep.QuietTactic
import Derived.Outline
import Derived.Test.YtghddiboggdhcaaGreatDoorSh
import Derived.Lib.AppendIntMem
import Derived.Lib.ItoaLen
import Derived.Deep.RegionHeld3
import Derived.Deep.DrawnRows
set_option maxRecDepth 100000
set_option maxHeartbeats 4000000
namespace Go.Proofs.YtghddiboggdhcaaGreatDoor
open Go.RowKit
theorem tc_one (k : Nat) : (protoOf k).tc.oneCell' = true := by
  unfold protoOf; split <;> rfl
theorem pcells_one (k g : Nat) : (pcells k g).all (·.oneCell') = true := by
  have := tc_one k
  simp only [pcells, List.all_toArray, List.all_cons, List.all_nil, this]
  rfl
def OutPP (k : Nat) (w : World) (e : Ending) (w' : World) : Prop :=
  ∃ p g, e = .returned (.pointer (some ⟨p, 0, none⟩)) ∧ w.heap.size ≤ p ∧ w.heap.size ≤ g ∧ p ≠ g ∧ Blk w' p 77 (pcells k g) ∧ Blk w' g 5 (bv (protoOf k).vc).toArray ∧ Below w.heap.size w w'
theorem coded_4 (w : World) : Calls Tryz.prog 69 #[.int .i64 4] w (OutP 4 w) := by
  go_enter Tryz.func69, Tryz.ntmps69
  go_wp2_with (go_at_call 71; refine (proto_4 _).mono ?_; rintro e w1 ⟨g, rfl, hg, hr, hb⟩; have hk := Lib.hid ((Blk.new w 77 pzero).below hb (by simp)); have Hb := Lib.hid hb; have Hr := Lib.hid hr; have hgg := Lib.hid (show w.heap.size + 1 ≤ g by simpa using hg); clear hr hb hg)
  rw [run_storeCells_row _ w.heap.size 77 pzero (pcells 4 g) hk.out rfl (pcells_one _ _)]
  go_wp2_with fail
  have hbb := ((Below.refl _ w).alloc (Nat.le_refl _) (.cells pzero 77)).trans (Hb.out.mono (by simp))
  exact bodyPost_ret (results_cell_row rfl _ _ w.heap.size 77 (pcells 4 g) (0, 0) _ rfl (hk.out.row _) Tryz.underlying77 rfl (proto_size.trans rfl)) rfl
    ⟨g, rfl, Nat.le_of_succ_le hgg.out, Hr.out.rowFar (by have := hgg.out; omega) _, below_setRow hbb (Nat.le_refl _) _⟩
theorem pcode_4 (w : World) : Calls Tryz.prog 62 #[.int .i64 4] w (OutP 4 w) := by
  go_enter Tryz.func62, Tryz.ntmps62
  go_wp2_with (go_at_call 69; refine (coded_4 _).mono ?_; rintro e w1 ⟨g, rfl, hg, hr, hb⟩; have hk := Lib.hid ((Blk.new w 77 pzero).below hb (by simp)); have Hb := Lib.hid hb; have Hr := Lib.hid hr; have hgg := Lib.hid (show w.heap.size + 1 ≤ g by simpa using hg); clear hr hb hg)
  rw [run_storeCells_row _ w.heap.size 77 pzero (pcells 4 g) hk.out rfl (pcells_one _ _)]
  go_wp2_with fail
  have hbb := ((Below.refl _ w).alloc (Nat.le_refl _) (.cells pzero 77)).trans (Hb.out.mono (by simp))
  exact bodyPost_ret (results_cell_row rfl _ _ w.heap.size 77 (pcells 4 g) (0, 0) _ rfl (hk.out.row _) Tryz.underlying77 rfl (proto_size.trans rfl)) rfl
    ⟨g, rfl, Nat.le_of_succ_le hgg.out, Hr.out.rowFar (by have := hgg.out; omega) _, below_setRow hbb (Nat.le_refl _) _⟩
theorem ptr_4 (w : World) : Calls Tryz.prog 63 #[.int .i64 4] w (OutPP 4 w) := by
  go_enter Tryz.func63, Tryz.ntmps63
  go_wp2_with (go_at_call 69; refine (coded_4 _).mono ?_; rintro e w1 ⟨g, rfl, hg, hr, hb⟩; have Hb := Lib.hid hb; have Hr := Lib.hid hr; have hgg := Lib.hid hg; clear hr hb hg)
  rw [run_storeCells_new w1 77 #[.string ⟨#[]⟩, .int .i64 0, .slice none 0 0, .int .i64 0, .bool false, .nilIface] (pcells 4 g) rfl (pcells_one _ _)]
  have hk := Blk.new w1 77 (pcells 4 g)
  have c1 : (w1.alloc (.cells (pcells 4 g) 77)).cell? ⟨w1.heap.size, 1, none⟩ = some (.int .i64 4) := hk.cell 1
  have HK := Lib.hid hk
  clear hk
  go_wp2_with fail
  go_ret
  exact ⟨w1.heap.size, g, rfl, Hb.out.size, hgg.out, Nat.ne_of_gt Hr.out.lt, HK.out, Hr.out.alloc _, Hb.out.alloc Hb.out.size _⟩
theorem coded_6 (w : World) : Calls Tryz.prog 69 #[.int .i64 6] w (OutP 6 w) := by
  go_enter Tryz.func69, Tryz.ntmps69
  go_wp2_with (go_at_call 72; refine (proto_6 _).mono ?_; rintro e w1 ⟨g, rfl, hg, hr, hb⟩; have hk := Lib.hid ((Blk.new w 77 pzero).below hb (by simp)); have Hb := Lib.hid hb; have Hr := Lib.hid hr; have hgg := Lib.hid (show w.heap.size + 1 ≤ g by simpa using hg); clear hr hb hg)
  rw [run_storeCells_row _ w.heap.size 77 pzero (pcells 6 g) hk.out rfl (pcells_one _ _)]
  go_wp2_with fail
  have hbb := ((Below.refl _ w).alloc (Nat.le_refl _) (.cells pzero 77)).trans (Hb.out.mono (by simp))
  exact bodyPost_ret (results_cell_row rfl _ _ w.heap.size 77 (pcells 6 g) (0, 0) _ rfl (hk.out.row _) Tryz.underlying77 rfl (proto_size.trans rfl)) rfl
    ⟨g, rfl, Nat.le_of_succ_le hgg.out, Hr.out.rowFar (by have := hgg.out; omega) _, below_setRow hbb (Nat.le_refl _) _⟩
theorem pcode_6 (w : World) : Calls Tryz.prog 62 #[.int .i64 6] w (OutP 6 w) := by
  go_enter Tryz.func62, Tryz.ntmps62
  go_wp2_with (go_at_call 69; refine (coded_6 _).mono ?_; rintro e w1 ⟨g, rfl, hg, hr, hb⟩; have hk := Lib.hid ((Blk.new w 77 pzero).below hb (by simp)); have Hb := Lib.hid hb; have Hr := Lib.hid hr; have hgg := Lib.hid (show w.heap.size + 1 ≤ g by simpa using hg); clear hr hb hg)
  rw [run_storeCells_row _ w.heap.size 77 pzero (pcells 6 g) hk.out rfl (pcells_one _ _)]
  go_wp2_with fail
  have hbb := ((Below.refl _ w).alloc (Nat.le_refl _) (.cells pzero 77)).trans (Hb.out.mono (by simp))
  exact bodyPost_ret (results_cell_row rfl _ _ w.heap.size 77 (pcells 6 g) (0, 0) _ rfl (hk.out.row _) Tryz.underlying77 rfl (proto_size.trans rfl)) rfl
    ⟨g, rfl, Nat.le_of_succ_le hgg.out, Hr.out.rowFar (by have := hgg.out; omega) _, below_setRow hbb (Nat.le_refl _) _⟩
theorem ptr_6 (w : World) : Calls Tryz.prog 63 #[.int .i64 6] w (OutPP 6 w) := by
  go_enter Tryz.func63, Tryz.ntmps63
  go_wp2_with (go_at_call 69; refine (coded_6 _).mono ?_; rintro e w1 ⟨g, rfl, hg, hr, hb⟩; have Hb := Lib.hid hb; have Hr := Lib.hid hr; have hgg := Lib.hid hg; clear hr hb hg)
  rw [run_storeCells_new w1 77 #[.string ⟨#[]⟩, .int .i64 0, .slice none 0 0, .int .i64 0, .bool false, .nilIface] (pcells 6 g) rfl (pcells_one _ _)]
  have hk := Blk.new w1 77 (pcells 6 g)
  have c1 : (w1.alloc (.cells (pcells 6 g) 77)).cell? ⟨w1.heap.size, 1, none⟩ = some (.int .i64 6) := hk.cell 1
  have HK := Lib.hid hk
  clear hk
  go_wp2_with fail
  go_ret
  exact ⟨w1.heap.size, g, rfl, Hb.out.size, hgg.out, Nat.ne_of_gt Hr.out.lt, HK.out, Hr.out.alloc _, Hb.out.alloc Hb.out.size _⟩
theorem coded_41 (w : World) : Calls Tryz.prog 69 #[.int .i64 41] w (OutP 41 w) := by
  go_enter Tryz.func69, Tryz.ntmps69
  go_wp2_with (go_at_call 79; refine (proto_41 _).mono ?_; rintro e w1 ⟨g, rfl, hg, hr, hb⟩; have hk := Lib.hid ((Blk.new w 77 pzero).below hb (by simp)); have Hb := Lib.hid hb; have Hr := Lib.hid hr; have hgg := Lib.hid (show w.heap.size + 1 ≤ g by simpa using hg); clear hr hb hg)
  rw [run_storeCells_row _ w.heap.size 77 pzero (pcells 41 g) hk.out rfl (pcells_one _ _)]
  go_wp2_with fail
  have hbb := ((Below.refl _ w).alloc (Nat.le_refl _) (.cells pzero 77)).trans (Hb.out.mono (by simp))
  exact bodyPost_ret (results_cell_row rfl _ _ w.heap.size 77 (pcells 41 g) (0, 0) _ rfl (hk.out.row _) Tryz.underlying77 rfl (proto_size.trans rfl)) rfl
    ⟨g, rfl, Nat.le_of_succ_le hgg.out, Hr.out.rowFar (by have := hgg.out; omega) _, below_setRow hbb (Nat.le_refl _) _⟩
theorem pcode_41 (w : World) : Calls Tryz.prog 62 #[.int .i64 41] w (OutP 41 w) := by
  go_enter Tryz.func62, Tryz.ntmps62
  go_wp2_with (go_at_call 69; refine (coded_41 _).mono ?_; rintro e w1 ⟨g, rfl, hg, hr, hb⟩; have hk := Lib.hid ((Blk.new w 77 pzero).below hb (by simp)); have Hb := Lib.hid hb; have Hr := Lib.hid hr; have hgg := Lib.hid (show w.heap.size + 1 ≤ g by simpa using hg); clear hr hb hg)
  rw [run_storeCells_row _ w.heap.size 77 pzero (pcells 41 g) hk.out rfl (pcells_one _ _)]
  go_wp2_with fail
  have hbb := ((Below.refl _ w).alloc (Nat.le_refl _) (.cells pzero 77)).trans (Hb.out.mono (by simp))
  exact bodyPost_ret (results_cell_row rfl _ _ w.heap.size 77 (pcells 41 g) (0, 0) _ rfl (hk.out.row _) Tryz.underlying77 rfl (proto_size.trans rfl)) rfl
    ⟨g, rfl, Nat.le_of_succ_le hgg.out, Hr.out.rowFar (by have := hgg.out; omega) _, below_setRow hbb (Nat.le_refl _) _⟩
theorem ptr_41 (w : World) : Calls Tryz.prog 63 #[.int .i64 41] w (OutPP 41 w) := by
  go_enter Tryz.func63, Tryz.ntmps63
  go_wp2_with (go_at_call 69; refine (coded_41 _).mono ?_; rintro e w1 ⟨g, rfl, hg, hr, hb⟩; have Hb := Lib.hid hb; have Hr := Lib.hid hr; have hgg := Lib.hid hg; clear hr hb hg)
  rw [run_storeCells_new w1 77 #[.string ⟨#[]⟩, .int .i64 0, .slice none 0 0, .int .i64 0, .bool false, .nilIface] (pcells 41 g) rfl (pcells_one _ _)]
  have hk := Blk.new w1 77 (pcells 41 g)
  have c1 : (w1.alloc (.cells (pcells 41 g) 77)).cell? ⟨w1.heap.size, 1, none⟩ = some (.int .i64 41) := hk.cell 1
  have HK := Lib.hid hk
  clear hk
  go_wp2_with fail
  go_ret
  exact ⟨w1.heap.size, g, rfl, Hb.out.size, hgg.out, Nat.ne_of_gt Hr.out.lt, HK.out, Hr.out.alloc _, Hb.out.alloc Hb.out.size _⟩
theorem coded_273 (w : World) : Calls Tryz.prog 69 #[.int .i64 273] w (OutP 273 w) := by
  go_enter Tryz.func69, Tryz.ntmps69
  go_wp2_with (go_at_call 77; refine (proto_273 _).mono ?_; rintro e w1 ⟨g, rfl, hg, hr, hb⟩; have hk := Lib.hid ((Blk.new w 77 pzero).below hb (by simp)); have Hb := Lib.hid hb; have Hr := Lib.hid hr; have hgg := Lib.hid (show w.heap.size + 1 ≤ g by simpa using hg); clear hr hb hg)
  rw [run_storeCells_row _ w.heap.size 77 pzero (pcells 273 g) hk.out rfl (pcells_one _ _)]
  go_wp2_with fail
  have hbb := ((Below.refl _ w).alloc (Nat.le_refl _) (.cells pzero 77)).trans (Hb.out.mono (by simp))
  exact bodyPost_ret (results_cell_row rfl _ _ w.heap.size 77 (pcells 273 g) (0, 0) _ rfl (hk.out.row _) Tryz.underlying77 rfl (proto_size.trans rfl)) rfl
    ⟨g, rfl, Nat.le_of_succ_le hgg.out, Hr.out.rowFar (by have := hgg.out; omega) _, below_setRow hbb (Nat.le_refl _) _⟩
theorem pcode_273 (w : World) : Calls Tryz.prog 62 #[.int .i64 273] w (OutP 273 w) := by
  go_enter Tryz.func62, Tryz.ntmps62
  go_wp2_with (go_at_call 69; refine (coded_273 _).mono ?_; rintro e w1 ⟨g, rfl, hg, hr, hb⟩; have hk := Lib.hid ((Blk.new w 77 pzero).below hb (by simp)); have Hb := Lib.hid hb; have Hr := Lib.hid hr; have hgg := Lib.hid (show w.heap.size + 1 ≤ g by simpa using hg); clear hr hb hg)
  rw [run_storeCells_row _ w.heap.size 77 pzero (pcells 273 g) hk.out rfl (pcells_one _ _)]
  go_wp2_with fail
  have hbb := ((Below.refl _ w).alloc (Nat.le_refl _) (.cells pzero 77)).trans (Hb.out.mono (by simp))
  exact bodyPost_ret (results_cell_row rfl _ _ w.heap.size 77 (pcells 273 g) (0, 0) _ rfl (hk.out.row _) Tryz.underlying77 rfl (proto_size.trans rfl)) rfl
    ⟨g, rfl, Nat.le_of_succ_le hgg.out, Hr.out.rowFar (by have := hgg.out; omega) _, below_setRow hbb (Nat.le_refl _) _⟩
theorem ptr_273 (w : World) : Calls Tryz.prog 63 #[.int .i64 273] w (OutPP 273 w) := by
  go_enter Tryz.func63, Tryz.ntmps63
  go_wp2_with (go_at_call 69; refine (coded_273 _).mono ?_; rintro e w1 ⟨g, rfl, hg, hr, hb⟩; have Hb := Lib.hid hb; have Hr := Lib.hid hr; have hgg := Lib.hid hg; clear hr hb hg)
  rw [run_storeCells_new w1 77 #[.string ⟨#[]⟩, .int .i64 0, .slice none 0 0, .int .i64 0, .bool false, .nilIface] (pcells 273 g) rfl (pcells_one _ _)]
  have hk := Blk.new w1 77 (pcells 273 g)
  have c1 : (w1.alloc (.cells (pcells 273 g) 77)).cell? ⟨w1.heap.size, 1, none⟩ = some (.int .i64 273) := hk.cell 1
  have HK := Lib.hid hk
  clear hk
  go_wp2_with fail
  go_ret
  exact ⟨w1.heap.size, g, rfl, Hb.out.size, hgg.out, Nat.ne_of_gt Hr.out.lt, HK.out, Hr.out.alloc _, Hb.out.alloc Hb.out.size _⟩
theorem coded_290 (w : World) : Calls Tryz.prog 69 #[.int .i64 290] w (OutP 290 w) := by
  go_enter Tryz.func69, Tryz.ntmps69
  go_wp2_with (go_at_call 83; refine (proto_290 _).mono ?_; rintro e w1 ⟨g, rfl, hg, hr, hb⟩; have hk := Lib.hid ((Blk.new w 77 pzero).below hb (by simp)); have Hb := Lib.hid hb; have Hr := Lib.hid hr; have hgg := Lib.hid (show w.heap.size + 1 ≤ g by simpa using hg); clear hr hb hg)
  rw [run_storeCells_row _ w.heap.size 77 pzero (pcells 290 g) hk.out rfl (pcells_one _ _)]
  go_wp2_with fail
  have hbb := ((Below.refl _ w).alloc (Nat.le_refl _) (.cells pzero 77)).trans (Hb.out.mono (by simp))
  exact bodyPost_ret (results_cell_row rfl _ _ w.heap.size 77 (pcells 290 g) (0, 0) _ rfl (hk.out.row _) Tryz.underlying77 rfl (proto_size.trans rfl)) rfl
    ⟨g, rfl, Nat.le_of_succ_le hgg.out, Hr.out.rowFar (by have := hgg.out; omega) _, below_setRow hbb (Nat.le_refl _) _⟩
theorem pcode_290 (w : World) : Calls Tryz.prog 62 #[.int .i64 290] w (OutP 290 w) := by
  go_enter Tryz.func62, Tryz.ntmps62
  go_wp2_with (go_at_call 69; refine (coded_290 _).mono ?_; rintro e w1 ⟨g, rfl, hg, hr, hb⟩; have hk := Lib.hid ((Blk.new w 77 pzero).below hb (by simp)); have Hb := Lib.hid hb; have Hr := Lib.hid hr; have hgg := Lib.hid (show w.heap.size + 1 ≤ g by simpa using hg); clear hr hb hg)
  rw [run_storeCells_row _ w.heap.size 77 pzero (pcells 290 g) hk.out rfl (pcells_one _ _)]
  go_wp2_with fail
  have hbb := ((Below.refl _ w).alloc (Nat.le_refl _) (.cells pzero 77)).trans (Hb.out.mono (by simp))
  exact bodyPost_ret (results_cell_row rfl _ _ w.heap.size 77 (pcells 290 g) (0, 0) _ rfl (hk.out.row _) Tryz.underlying77 rfl (proto_size.trans rfl)) rfl
    ⟨g, rfl, Nat.le_of_succ_le hgg.out, Hr.out.rowFar (by have := hgg.out; omega) _, below_setRow hbb (Nat.le_refl _) _⟩
theorem ptr_290 (w : World) : Calls Tryz.prog 63 #[.int .i64 290] w (OutPP 290 w) := by
  go_enter Tryz.func63, Tryz.ntmps63
  go_wp2_with (go_at_call 69; refine (coded_290 _).mono ?_; rintro e w1 ⟨g, rfl, hg, hr, hb⟩; have Hb := Lib.hid hb; have Hr := Lib.hid hr; have hgg := Lib.hid hg; clear hr hb hg)
  rw [run_storeCells_new w1 77 #[.string ⟨#[]⟩, .int .i64 0, .slice none 0 0, .int .i64 0, .bool false, .nilIface] (pcells 290 g) rfl (pcells_one _ _)]
  have hk := Blk.new w1 77 (pcells 290 g)
  have c1 : (w1.alloc (.cells (pcells 290 g) 77)).cell? ⟨w1.heap.size, 1, none⟩ = some (.int .i64 290) := hk.cell 1
  have HK := Lib.hid hk
  clear hk
  go_wp2_with fail
  go_ret
  exact ⟨w1.heap.size, g, rfl, Hb.out.size, hgg.out, Nat.ne_of_gt Hr.out.lt, HK.out, Hr.out.alloc _, Hb.out.alloc Hb.out.size _⟩
theorem coded_421 (w : World) : Calls Tryz.prog 69 #[.int .i64 421] w (OutP 421 w) := by
  go_enter Tryz.func69, Tryz.ntmps69
  go_wp2_with (go_at_call 97; refine (proto_421 _).mono ?_; rintro e w1 ⟨g, rfl, hg, hr, hb⟩; have hk := Lib.hid ((Blk.new w 77 pzero).below hb (by simp)); have Hb := Lib.hid hb; have Hr := Lib.hid hr; have hgg := Lib.hid (show w.heap.size + 1 ≤ g by simpa using hg); clear hr hb hg)
  rw [run_storeCells_row _ w.heap.size 77 pzero (pcells 421 g) hk.out rfl (pcells_one _ _)]
  go_wp2_with fail
  have hbb := ((Below.refl _ w).alloc (Nat.le_refl _) (.cells pzero 77)).trans (Hb.out.mono (by simp))
  exact bodyPost_ret (results_cell_row rfl _ _ w.heap.size 77 (pcells 421 g) (0, 0) _ rfl (hk.out.row _) Tryz.underlying77 rfl (proto_size.trans rfl)) rfl
    ⟨g, rfl, Nat.le_of_succ_le hgg.out, Hr.out.rowFar (by have := hgg.out; omega) _, below_setRow hbb (Nat.le_refl _) _⟩
theorem pcode_421 (w : World) : Calls Tryz.prog 62 #[.int .i64 421] w (OutP 421 w) := by
  go_enter Tryz.func62, Tryz.ntmps62
  go_wp2_with (go_at_call 69; refine (coded_421 _).mono ?_; rintro e w1 ⟨g, rfl, hg, hr, hb⟩; have hk := Lib.hid ((Blk.new w 77 pzero).below hb (by simp)); have Hb := Lib.hid hb; have Hr := Lib.hid hr; have hgg := Lib.hid (show w.heap.size + 1 ≤ g by simpa using hg); clear hr hb hg)
  rw [run_storeCells_row _ w.heap.size 77 pzero (pcells 421 g) hk.out rfl (pcells_one _ _)]
  go_wp2_with fail
  have hbb := ((Below.refl _ w).alloc (Nat.le_refl _) (.cells pzero 77)).trans (Hb.out.mono (by simp))
  exact bodyPost_ret (results_cell_row rfl _ _ w.heap.size 77 (pcells 421 g) (0, 0) _ rfl (hk.out.row _) Tryz.underlying77 rfl (proto_size.trans rfl)) rfl
    ⟨g, rfl, Nat.le_of_succ_le hgg.out, Hr.out.rowFar (by have := hgg.out; omega) _, below_setRow hbb (Nat.le_refl _) _⟩
theorem ptr_421 (w : World) : Calls Tryz.prog 63 #[.int .i64 421] w (OutPP 421 w) := by
  go_enter Tryz.func63, Tryz.ntmps63
  go_wp2_with (go_at_call 69; refine (coded_421 _).mono ?_; rintro e w1 ⟨g, rfl, hg, hr, hb⟩; have Hb := Lib.hid hb; have Hr := Lib.hid hr; have hgg := Lib.hid hg; clear hr hb hg)
  rw [run_storeCells_new w1 77 #[.string ⟨#[]⟩, .int .i64 0, .slice none 0 0, .int .i64 0, .bool false, .nilIface] (pcells 421 g) rfl (pcells_one _ _)]
  have hk := Blk.new w1 77 (pcells 421 g)
  have c1 : (w1.alloc (.cells (pcells 421 g) 77)).cell? ⟨w1.heap.size, 1, none⟩ = some (.int .i64 421) := hk.cell 1
  have HK := Lib.hid hk
  clear hk
  go_wp2_with fail
  go_ret
  exact ⟨w1.heap.size, g, rfl, Hb.out.size, hgg.out, Nat.ne_of_gt Hr.out.lt, HK.out, Hr.out.alloc _, Hb.out.alloc Hb.out.size _⟩
theorem coded_461 (w : World) : Calls Tryz.prog 69 #[.int .i64 461] w (OutP 461 w) := by
  go_enter Tryz.func69, Tryz.ntmps69
  go_wp2_with (go_at_call 91; refine (proto_461 _).mono ?_; rintro e w1 ⟨g, rfl, hg, hr, hb⟩; have hk := Lib.hid ((Blk.new w 77 pzero).below hb (by simp)); have Hb := Lib.hid hb; have Hr := Lib.hid hr; have hgg := Lib.hid (show w.heap.size + 1 ≤ g by simpa using hg); clear hr hb hg)
  rw [run_storeCells_row _ w.heap.size 77 pzero (pcells 461 g) hk.out rfl (pcells_one _ _)]
  go_wp2_with fail
  have hbb := ((Below.refl _ w).alloc (Nat.le_refl _) (.cells pzero 77)).trans (Hb.out.mono (by simp))
  exact bodyPost_ret (results_cell_row rfl _ _ w.heap.size 77 (pcells 461 g) (0, 0) _ rfl (hk.out.row _) Tryz.underlying77 rfl (proto_size.trans rfl)) rfl
    ⟨g, rfl, Nat.le_of_succ_le hgg.out, Hr.out.rowFar (by have := hgg.out; omega) _, below_setRow hbb (Nat.le_refl _) _⟩
theorem pcode_461 (w : World) : Calls Tryz.prog 62 #[.int .i64 461] w (OutP 461 w) := by
  go_enter Tryz.func62, Tryz.ntmps62
  go_wp2_with (go_at_call 69; refine (coded_461 _).mono ?_; rintro e w1 ⟨g, rfl, hg, hr, hb⟩; have hk := Lib.hid ((Blk.new w 77 pzero).below hb (by simp)); have Hb := Lib.hid hb; have Hr := Lib.hid hr; have hgg := Lib.hid (show w.heap.size + 1 ≤ g by simpa using hg); clear hr hb hg)
  rw [run_storeCells_row _ w.heap.size 77 pzero (pcells 461 g) hk.out rfl (pcells_one _ _)]
  go_wp2_with fail
  have hbb := ((Below.refl _ w).alloc (Nat.le_refl _) (.cells pzero 77)).trans (Hb.out.mono (by simp))
  exact bodyPost_ret (results_cell_row rfl _ _ w.heap.size 77 (pcells 461 g) (0, 0) _ rfl (hk.out.row _) Tryz.underlying77 rfl (proto_size.trans rfl)) rfl
    ⟨g, rfl, Nat.le_of_succ_le hgg.out, Hr.out.rowFar (by have := hgg.out; omega) _, below_setRow hbb (Nat.le_refl _) _⟩
theorem ptr_461 (w : World) : Calls Tryz.prog 63 #[.int .i64 461] w (OutPP 461 w) := by
  go_enter Tryz.func63, Tryz.ntmps63
  go_wp2_with (go_at_call 69; refine (coded_461 _).mono ?_; rintro e w1 ⟨g, rfl, hg, hr, hb⟩; have Hb := Lib.hid hb; have Hr := Lib.hid hr; have hgg := Lib.hid hg; clear hr hb hg)
  rw [run_storeCells_new w1 77 #[.string ⟨#[]⟩, .int .i64 0, .slice none 0 0, .int .i64 0, .bool false, .nilIface] (pcells 461 g) rfl (pcells_one _ _)]
  have hk := Blk.new w1 77 (pcells 461 g)
  have c1 : (w1.alloc (.cells (pcells 461 g) 77)).cell? ⟨w1.heap.size, 1, none⟩ = some (.int .i64 461) := hk.cell 1
  have HK := Lib.hid hk
  clear hk
  go_wp2_with fail
  go_ret
  exact ⟨w1.heap.size, g, rfl, Hb.out.size, hgg.out, Nat.ne_of_gt Hr.out.lt, HK.out, Hr.out.alloc _, Hb.out.alloc Hb.out.size _⟩
theorem coded_477 (w : World) : Calls Tryz.prog 69 #[.int .i64 477] w (OutP 477 w) := by
  go_enter Tryz.func69, Tryz.ntmps69
  go_wp2_with (go_at_call 103; refine (proto_477 _).mono ?_; rintro e w1 ⟨g, rfl, hg, hr, hb⟩; have hk := Lib.hid ((Blk.new w 77 pzero).below hb (by simp)); have Hb := Lib.hid hb; have Hr := Lib.hid hr; have hgg := Lib.hid (show w.heap.size + 1 ≤ g by simpa using hg); clear hr hb hg)
  rw [run_storeCells_row _ w.heap.size 77 pzero (pcells 477 g) hk.out rfl (pcells_one _ _)]
  go_wp2_with fail
  have hbb := ((Below.refl _ w).alloc (Nat.le_refl _) (.cells pzero 77)).trans (Hb.out.mono (by simp))
  exact bodyPost_ret (results_cell_row rfl _ _ w.heap.size 77 (pcells 477 g) (0, 0) _ rfl (hk.out.row _) Tryz.underlying77 rfl (proto_size.trans rfl)) rfl
    ⟨g, rfl, Nat.le_of_succ_le hgg.out, Hr.out.rowFar (by have := hgg.out; omega) _, below_setRow hbb (Nat.le_refl _) _⟩
theorem pcode_477 (w : World) : Calls Tryz.prog 62 #[.int .i64 477] w (OutP 477 w) := by
  go_enter Tryz.func62, Tryz.ntmps62
  go_wp2_with (go_at_call 69; refine (coded_477 _).mono ?_; rintro e w1 ⟨g, rfl, hg, hr, hb⟩; have hk := Lib.hid ((Blk.new w 77 pzero).below hb (by simp)); have Hb := Lib.hid hb; have Hr := Lib.hid hr; have hgg := Lib.hid (show w.heap.size + 1 ≤ g by simpa using hg); clear hr hb hg)
  rw [run_storeCells_row _ w.heap.size 77 pzero (pcells 477 g) hk.out rfl (pcells_one _ _)]
  go_wp2_with fail
  have hbb := ((Below.refl _ w).alloc (Nat.le_refl _) (.cells pzero 77)).trans (Hb.out.mono (by simp))
  exact bodyPost_ret (results_cell_row rfl _ _ w.heap.size 77 (pcells 477 g) (0, 0) _ rfl (hk.out.row _) Tryz.underlying77 rfl (proto_size.trans rfl)) rfl
    ⟨g, rfl, Nat.le_of_succ_le hgg.out, Hr.out.rowFar (by have := hgg.out; omega) _, below_setRow hbb (Nat.le_refl _) _⟩
theorem ptr_477 (w : World) : Calls Tryz.prog 63 #[.int .i64 477] w (OutPP 477 w) := by
  go_enter Tryz.func63, Tryz.ntmps63
  go_wp2_with (go_at_call 69; refine (coded_477 _).mono ?_; rintro e w1 ⟨g, rfl, hg, hr, hb⟩; have Hb := Lib.hid hb; have Hr := Lib.hid hr; have hgg := Lib.hid hg; clear hr hb hg)
  rw [run_storeCells_new w1 77 #[.string ⟨#[]⟩, .int .i64 0, .slice none 0 0, .int .i64 0, .bool false, .nilIface] (pcells 477 g) rfl (pcells_one _ _)]
  have hk := Blk.new w1 77 (pcells 477 g)
  have c1 : (w1.alloc (.cells (pcells 477 g) 77)).cell? ⟨w1.heap.size, 1, none⟩ = some (.int .i64 477) := hk.cell 1
  have HK := Lib.hid hk
  clear hk
  go_wp2_with fail
  go_ret
  exact ⟨w1.heap.size, g, rfl, Hb.out.size, hgg.out, Nat.ne_of_gt Hr.out.lt, HK.out, Hr.out.alloc _, Hb.out.alloc Hb.out.size _⟩
end Go.Proofs.YtghddiboggdhcaaGreatDoor
/- Multihashes of one byte of code and one byte of length: what the package makes of them. -/
namespace Go.Proofs.YtghddiboggdhcaaGreatDoor
open Go.RowKit
theorem RB.drewN {w : World} {B n c : Nat} {A : Option Addr} {l : List UInt8} (h : RB w B A n c l) (k : Nat) : RB (w.drewN k) B A n c l := ⟨h.reads.drewN k, h.cap, h.max⟩
theorem RB.undrewN {w : World} {B n c k : Nat} {A : Option Addr} {l : List UInt8} (h : RB (w.drewN k) B A n c l) : RB w B A n c l := ⟨h.reads, h.cap, h.max⟩
theorem RB.alloc {w : World} {n c : Nat} {A : Option Addr} {l : List UInt8} (h : RB w w.heap.size A n c l) (o : Obj) : RB (w.alloc o) (w.alloc o).heap.size A n c l := h.next ((Below.refl _ _).alloc (Nat.le_refl _) _)
def OutU (v : Nat) (l : List UInt8) (w : World) (e : Ending) (w' : World) : Prop :=
  ∃ A c k, e = .returned (.tuple #[.int .u64 v, .slice A l.length c, .nilIface]) ∧ w' = w.drewN k ∧ RB w w.heap.size A l.length c l
theorem muv_any (A : Option Addr) (n c : Nat) (b : UInt8) (v : Nat) (l : List UInt8) (w : World) (h : RB w w.heap.size A n c (b :: l)) (hv : b.toNat = v) (hb : v < 128) :
    Calls Tryz.prog 336 #[.slice A n c] w (OutU v l w) := by
  have hlen := h.len
  have hn : n = l.length + 1 := by simp at hlen; omega
  subst hn
  have hd := Lib.hid (h.drop (k := 1) (by omega))
  have hcap := h.cap
  have hm := h.max
  unfold maxLen at hm
  have hc := from_one A (l.length + 1) c b l w h (by omega)
  rw [hv] at hc
  have HC := Lib.hid hc
  clear h hlen hv hc
  go_enter Tryz.func336, Tryz.ntmps336
  go_wp2_with (go_at_call 68; refine HC.out.mono ?_; rintro e w' ⟨rfl, rfl⟩)
  go_quiet (fail)
  go_wp2_with fail
  · go_ret3
    have hd := hd.out
    rw [if_pos h] at hd
    subst h
    exact ⟨_, _, _, rfl, rfl, hd⟩
  · go_ret3
    have hd := hd.out
    rw [if_neg h] at hd
    exact ⟨_, _, _, rfl, rfl, hd⟩
def OutM (v : Nat) (l : List UInt8) (w : World) (e : Ending) (w' : World) : Prop :=
  ∃ A c k, e = .returned (.tuple #[.int .i64 (l.length + 2 : Nat), .int .u64 v, .slice A l.length c, .nilIface]) ∧ w' = w.drewN k ∧ RB w w.heap.size A l.length c l
theorem readmh_any (A : Option Addr) (c : Nat) (b b2 : UInt8) (v : Nat) (l : List UInt8) (w : World) (h : RB w w.heap.size A (l.length + 2) c (b :: b2 :: l)) (hv : b.toNat = v) (hb : v < 128) (hv2 : b2.toNat = l.length) (hb2 : l.length < 128) :
    Calls Tryz.prog 302 #[.slice A (l.length + 2 : Nat) c] w (OutM v l w) := by
  have HC := Lib.hid (muv_any A (l.length + 2) c b v (b2 :: l) w h hv hb)
  have HV := Lib.hid hv2
  clear h hv hv2
  go_enter Tryz.func302, Tryz.ntmps302
  go_wp2_with fail
  refine HC.out.mono ?_
  rintro e w' ⟨A1, c1, k1, rfl, rfl, hr⟩
  have HR := Lib.hid (muv_any A1 _ c1 b2 l.length l _ (hr.drewN k1) HV.out hb2)
  clear hr
  go_wp2_with fail
  refine HR.out.mono ?_
  rintro e w' ⟨A2, c2, k2, rfl, rfl, hr⟩
  have hcap := hr.cap
  have hmax : c2 ≤ 9223372036854775807 := hr.max
  have HR2 := Lib.hid (hr.drewN k1)
  clear hr
  go_wp2_with fail
  go_quiet (fail)
  go_wp2_with fail
  refine bodyPost_ret (results_tmp4 rfl _ _ _) rfl ?_
  exact ⟨A2, c2, _, rfl, by simp only [World.drewN_drewN]; rfl, HR2.out.undrewN.undrewN⟩
theorem dm_size : (Tryz.prog.info? 192).map (·.size) = some 4 := by kernel_rfl
def OutD (v : Nat) (l : List UInt8) (w : World) (e : Ending) (w' : World) : Prop :=
  ∃ A c, e = .returned (.tuple #[.agg #[.int .u64 v, .string ⟨#[]⟩, .int .i64 l.length, .slice A l.length c], .nilIface]) ∧ Below w.heap.size w w'
theorem decode_any (A : Option Addr) (c : Nat) (b b2 : UInt8) (v : Nat) (l : List UInt8) (w : World) (h : RB w w.heap.size A (l.length + 2) c (b :: b2 :: l)) (hv : b.toNat = v) (hb : v < 128) (hv2 : b2.toNat = l.length) (hb2 : l.length < 128) :
    Calls Tryz.prog 242 #[.slice A (l.length + 2 : Nat) c] w (OutD v l w) := by
  have HC := Lib.hid (readmh_any A c b b2 v l _ (h.alloc (.cells #[.int .u64 0, .string ⟨#[]⟩, .int .i64 0, .slice none 0 0] 192)) hv hb hv2 hb2)
  clear h hv hv2
  go_enter Tryz.func242, Tryz.ntmps242
  go_wp2_with fail
  refine HC.out.mono ?_
  rintro e w1 ⟨A1, cc, k1, rfl, hw, hr⟩
  have hk : Blk w1 w.heap.size 192 #[.int .u64 0, .string ⟨#[]⟩, .int .i64 0, .slice none 0 0] := by rw [hw]; exact (Blk.new _ _ _).drewN _
  have hb1 : Below w.heap.size w w1 := by rw [hw]; exact below_drewN ((Below.refl _ w).alloc (Nat.le_refl _) _) _
  have c0 : w1.cell? ⟨w.heap.size, 0, none⟩ = some (.int .u64 0) := hk.cell 0
  have c1 : w1.cell? ⟨w.heap.size, 1, none⟩ = some (.string ⟨#[]⟩) := hk.cell 1
  have c2 : w1.cell? ⟨w.heap.size, 2, none⟩ = some (.int .i64 0) := hk.cell 2
  have c3 : w1.cell? ⟨w.heap.size, 3, none⟩ = some (.slice none 0 0) := hk.cell 3
  obtain ⟨f0, f1, f2, f3, _, _⟩ := six_frozen hk
  have HB := Lib.hid hb1
  have HK := Lib.hid hk
  clear hr hw hk hb1
  go_wp2_with fail
  exact bodyPost_ret (results_cell_tmp rfl _ _ w.heap.size 192 #[.int .u64 v, .string ⟨#[]⟩, .int .i64 l.length, .slice A1 l.length cc] (0, 0) _ rfl ((((((((HK.out.set_ 0 (.int .u64 v)).set_ 1 (.string ⟨#[]⟩)).set_ 2 (.int .i64 l.length)).set_ 3 (.slice A1 l.length cc)).set_ 0 (.int .u64 v)).set_ 1 (.string ⟨#[]⟩)).set_ 2 (.int .i64 l.length)).set_ 3 (.slice A1 l.length cc)) Tryz.underlying192 rfl dm_size) rfl
    ⟨A1, cc, rfl, ((((((((HB.out.setCell (Nat.le_refl _) _).setCell (Nat.le_refl _) _).setCell (Nat.le_refl _) _).setCell (Nat.le_refl _) _).setCell (Nat.le_refl _) _).setCell (Nat.le_refl _) _).setCell (Nat.le_refl _) _).setCell (Nat.le_refl _) _)⟩
def OutDP (v : Nat) (l : List UInt8) (w : World) (e : Ending) (w' : World) : Prop :=
  ∃ g A c, e = .returned (.tuple #[.pointer (some ⟨g, 0, none⟩), .nilIface]) ∧ Blk w' g 192 #[.int .u64 v, .string ⟨#[]⟩, .int .i64 l.length, .slice A l.length c] ∧ Below w.heap.size w w'
theorem mdecode_any (A : Option Addr) (c : Nat) (b b2 : UInt8) (v : Nat) (l : List UInt8) (w : World) (h : RB w w.heap.size A (l.length + 2) c (b :: b2 :: l)) (hv : b.toNat = v) (hb : v < 128) (hv2 : b2.toNat = l.length) (hb2 : l.length < 128) :
    Calls Tryz.prog 194 #[.slice A (l.length + 2 : Nat) c] w (OutDP v l w) := by
  have HC := Lib.hid (decode_any A c b b2 v l _ h hv hb hv2 hb2)
  clear h hv hv2
  go_enter Tryz.func194, Tryz.ntmps194
  go_wp2_with fail
  refine HC.out.mono ?_
  rintro e w1 ⟨A1, cc, rfl, hb1⟩
  have HB := Lib.hid hb1
  clear hb1
  go_wp2_with fail
  go_ret2
  exact ⟨w1.heap.size, A1, cc, rfl, Blk.new _ _ _, HB.out.alloc HB.out.size _⟩
theorem cast_any (A : Option Addr) (c : Nat) (b b2 : UInt8) (v : Nat) (l : List UInt8) (w : World) (h : RB w w.heap.size A (l.length + 2) c (b :: b2 :: l)) (hv : b.toNat = v) (hb : v < 128) (hv2 : b2.toNat = l.length) (hb2 : l.length < 128) :
    Calls Tryz.prog 203 #[.slice A (l.length + 2 : Nat) c] w fun e w' => e = .returned (.tuple #[.slice A (l.length + 2 : Nat) c, .nilIface]) ∧ Below w.heap.size w w' := by
  have HC := Lib.hid (mdecode_any A c b b2 v l _ h hv hb hv2 hb2)
  clear h hv hv2
  go_enter Tryz.func203, Tryz.ntmps203
  go_wp2_with fail
  refine HC.out.mono ?_
  rintro e w1 ⟨g, A1, cc, rfl, _, hb1⟩
  have HB := Lib.hid hb1
  clear hb1
  go_wp2_with fail
  go_ret2
  exact ⟨rfl, HB.out⟩
theorem pval_0 (A : Option Addr) (c : Nat) (b b2 : UInt8) (l : List UInt8) (w : World) (h : RB w w.heap.size A (l.length + 2) c (b :: b2 :: l)) (hv : b.toNat = 0) (hv2 : b2.toNat = l.length) (hb2 : l.length < 128) :
    Calls Tryz.prog 162 #[.slice A (l.length + 2 : Nat) c] w fun e w' => e = .returned .nilIface ∧ Below w.heap.size w w' := by
  have HC := Lib.hid (mdecode_any A c b b2 0 l _ h hv (by omega) hv2 hb2)
  clear h hv hv2
  go_enter Tryz.func162, Tryz.ntmps162
  go_wp2_with fail
  refine HC.out.mono ?_
  rintro e w1 ⟨g, A1, cc, rfl, hk, hb1⟩
  have HB := Lib.hid hb1
  have c0 : w1.cell? ⟨g, 0, none⟩ = some (.int .u64 0) := hk.cell 0
  have c2 : w1.cell? ⟨g, 2, none⟩ = some (.int .i64 l.length) := hk.cell 2
  clear hb1 hk
  go_wp2_with fail
  go_ret
  exact ⟨rfl, HB.out⟩
theorem pval_18 (A : Option Addr) (c : Nat) (b b2 : UInt8) (l : List UInt8) (w : World) (h : RB w w.heap.size A (l.length + 2) c (b :: b2 :: l)) (hv : b.toNat = 18) (hv2 : b2.toNat = l.length) (hb2 : l.length < 128) (hl : l.length = 32) :
    Calls Tryz.prog 162 #[.slice A (l.length + 2 : Nat) c] w fun e w' => e = .returned .nilIface ∧ Below w.heap.size w w' := by
  have HC := Lib.hid (mdecode_any A c b b2 18 l _ h hv (by omega) hv2 hb2)
  have HL := Lib.hid hl
  clear hl
  clear h hv hv2
  go_enter Tryz.func162, Tryz.ntmps162
  go_wp2_with fail
  refine HC.out.mono ?_
  rintro e w1 ⟨g, A1, cc, rfl, hk, hb1⟩
  have HB := Lib.hid hb1
  have c0 : w1.cell? ⟨g, 0, none⟩ = some (.int .u64 18) := hk.cell 0
  have c2 : w1.cell? ⟨g, 2, none⟩ = some (.int .i64 l.length) := hk.cell 2
  have c3 : w1.cell? ⟨g, 2, none⟩ = some (.int .i64 32) := by rw [c2, HL.out]; rfl
  clear c2
  clear hb1 hk
  go_wp2_with fail
  go_ret
  exact ⟨rfl, HB.out⟩
end Go.Proofs.YtghddiboggdhcaaGreatDoor
/- The texts of ports and of IPv4 addresses: they are there. The table of powers of ten reads as the program lays it. -/
namespace Go.Proofs.YtghddiboggdhcaaGreatDoor
open Go.RowKit Go.Sort
variable {K : Nat}
structure Tab (K : Nat) (w : World) : Prop where
  is : 100 < K → Lib.TabIs Tryz.prog w "internal/strconv.uint64pow10" .u64 Lib.pow10Tab
def OutS (N : Nat) (w : World) (e : Ending) (w' : World) : Prop := ∃ s, e = .returned (.string s) ∧ s.size ≤ N ∧ Below w.heap.size w w'
def OutSE (w : World) (e : Ending) (w' : World) : Prop := ∃ s, e = .returned (.tuple #[.string s, .nilIface]) ∧ Below w.heap.size w w'
theorem Lib.nDigits_lt (i : Nat) (hi : i < 100) : Lib.nDigits i ≤ 2 := by
  by_cases h10 : i < 10
  · rw [Lib.nDigits_small h10]; omega
  · rw [Lib.nDigits_big h10, Lib.nDigits_small (show i / 10 < 10 by omega)]; omega
theorem itoa_big (n : Nat) (hn : n < 1000000) (w : World) (ht : Lib.TabIs Tryz.prog w "internal/strconv.uint64pow10" .u64 Lib.pow10Tab) : Calls Tryz.prog 181 #[.int .i64 n] w (OutS 1000 w) :=
  (Tryz.strconv_Itoa n (by omega) (by omega) w ht).mono fun e w' ⟨he, k, os, hw⟩ => ⟨_, he, by have := Lib.itoa_length_le n (by omega) (by omega); simp [ByteArray.size]; omega, by rw [hw]; exact Lib.below_grow _ _ (Nat.le_refl _) _ _⟩
theorem fint_small (i : Nat) (hi : i < 100) (w : World) : Calls Tryz.prog 281 #[.int .i64 i, .int .i64 10] w (OutS 1000 w) := by
  go_enter Tryz.func281, Tryz.ntmps281
  go_wp2_with (go_at_call 277; refine (Tryz.internal_strconv_small i hi _).mono ?_; rintro e w' ⟨rfl, rfl⟩)
  go_ret
  exact ⟨_, rfl, by have := Lib.decDigits_length i; have := Lib.nDigits_lt i hi; simp [ByteArray.size]; omega, Below.refl _ _⟩
theorem iitoa_small (i : Nat) (hi : i < 100) (w : World) : Calls Tryz.prog 217 #[.int .i64 i] w (OutS 1000 w) := by
  have HC := Lib.hid (fint_small i hi w)
  go_enter Tryz.func217, Tryz.ntmps217
  go_wp2_with fail
  refine HC.out.mono ?_
  rintro e w1 ⟨s, rfl, hs, hb⟩
  have HB := Lib.hid hb
  clear hb
  go_wp2_with fail
  go_ret
  exact ⟨s, rfl, hs, HB.out⟩
theorem itoa_small (i : Nat) (hi : i < 100) (w : World) : Calls Tryz.prog 181 #[.int .i64 i] w (OutS 1000 w) := by
  have HC := Lib.hid (iitoa_small i hi w)
  go_enter Tryz.func181, Tryz.ntmps181
  go_wp2_with fail
  refine HC.out.mono ?_
  rintro e w1 ⟨s, rfl, hs, hb⟩
  have HB := Lib.hid hb
  clear hb
  go_wp2_with fail
  go_ret
  exact ⟨s, rfl, hs, HB.out⟩
theorem itoa_any (n : Nat) (hn : n < 1000000) (hK : n < K) (w : World) (ht : Tab K w) : Calls Tryz.prog 181 #[.int .i64 n] w (OutS 1000 w) := by
  rcases Nat.lt_or_ge n 100 with h | h
  · exact itoa_small n h w
  · exact itoa_big n hn w (ht.is (by omega))
theorem fuint_small (i : Nat) (hi : i < 100) (w : World) : Calls Tryz.prog 213 #[.int .u64 i, .int .i64 10] w (OutS 1000 w) := by
  go_enter Tryz.func213, Tryz.ntmps213
  go_wp2_with (go_at_call 277; refine (Tryz.internal_strconv_small i hi _).mono ?_; rintro e w' ⟨rfl, rfl⟩)
  go_ret
  exact ⟨_, rfl, by have := Lib.decDigits_length i; have := Lib.nDigits_lt i hi; simp [ByteArray.size]; omega, Below.refl _ _⟩
theorem fuint_big (u : Nat) (hu : 100 ≤ u) (hum : u < 1000000) (w : World) (ht : Lib.TabIs Tryz.prog w "internal/strconv.uint64pow10" .u64 Lib.pow10Tab) : Calls Tryz.prog 213 #[.int .u64 u, .int .i64 10] w (OutS 1000 w) := by
  have hu1 : 1 ≤ u := by omega
  have hu64 : u < 18446744073709551616 := by omega
  have hnd20 : Lib.nDigits u ≤ 20 := by have := Lib.numDigits_eq u hu1 hu64; split at this <;> omega
  have hal : Tryz.prog.arrayLen 238 = 24 := by kernel_rfl
  have hsl1 : ∀ W, (Instr.sliceAt 238 (.pointer (some ⟨w.heap.size, 0, none⟩)) none (some (.int .i64 (Lib.nDigits u : Int))) none).run Tryz.prog W = .ok (.slice (some ⟨w.heap.size, 0, none⟩) (Lib.nDigits u) 24) W := fun W => by
    rw [run_sliceAt_array_h W 238 ⟨w.heap.size, 0, none⟩ (by kernel_rfl) .i64 (Lib.nDigits u : Int) (by omega) (by rw [hal]; omega)]
    go_simp
  have hH0 : Holds (fun (b : UInt8) => Value.int .u8 (b.toNat : Int)) (w.alloc (.cells Lib.zeros24 238)) w.heap.size 0 (Array.replicate (Lib.nDigits u) (0 : UInt8)) := fun j hj => by
    have hj' : j < Lib.nDigits u := by simpa using hj
    refine ⟨?_, World.frozen?_alloc_new _ _ _ _⟩
    rw [World.cell?_alloc_new, Nat.zero_add, Lib.zeros24_at _ (by omega), getElem!_pos _ j hj]
    simp
  have hfmt := Tryz.internal_strconv_formatBase10 w.heap.size 0 24 u (Array.replicate (Lib.nDigits u) 0) (w.alloc (.cells Lib.zeros24 238)) hH0 (by rw [Array.size_replicate]; exact Lib.lt_pow_nDigits u) hu64 (by rw [Array.size_replicate]; omega)
  rw [Array.size_replicate] at hfmt
  have HH0 := Lib.hid hH0
  clear hH0 hal
  go_enter Tryz.func213, Tryz.ntmps213
  go_wp2_with (first
    | (go_at_call 278; refine (Tryz.internal_strconv_numDigits u hu1 hu64 _ (Lib.tabIs_alloc ht _)).mono ?_; rintro e w' ⟨rfl, rfl⟩))
  go_at_call 279
  refine hfmt.mono ?_
  rintro e w' ⟨rfl, k, v', dk, rfl, hF⟩
  have hcv : (convert 22 9 (.slice (some ⟨w.heap.size, 0, none⟩) (Lib.nDigits u) 24)).run Tryz.prog ((putRow (fun (b : UInt8) => Value.int .u8 (b.toNat : Int)) (w.alloc (.cells Lib.zeros24 238)) w.heap.size 0 dk).drewN k) = .ok (.string ⟨(Lib.decDigits u).toArray⟩) ((putRow (fun (b : UInt8) => Value.int .u8 (b.toNat : Int)) (w.alloc (.cells Lib.zeros24 238)) w.heap.size 0 dk).drewN k) := by
    have h := run_convert_bytes_back (P := Tryz.prog) ((putRow (fun (b : UInt8) => Value.int .u8 (b.toNat : Int)) (w.alloc (.cells Lib.zeros24 238)) w.heap.size 0 dk).drewN k) 22 9 5 ⟨w.heap.size, 0, none⟩ 24 (Lib.decDigits u) Tryz.underlying22 Tryz.underlying5 Tryz.underlying9 (fun j hj => by
      rw [Lib.row_is_numeral hF j hj, Lib.add_plain, World.cell?_drewN]
      exact cell?_putRow (fun (b : UInt8) => Value.int .u8 (b.toNat : Int)) _ w.heap.size 0 _ dk HH0.out (by rw [hF.size, Array.size_replicate]) j (by rw [hF.size]; rw [Lib.decDigits_length] at hj; exact hj))
    rw [Lib.decDigits_length] at h
    exact h
  have hb : Below w.heap.size w ((putRow (fun (b : UInt8) => Value.int .u8 (b.toNat : Int)) (w.alloc (.cells Lib.zeros24 238)) w.heap.size 0 dk).drewN k) := by
    obtain ⟨os, eo⟩ := Lib.fin_at w (.cells Lib.zeros24 238) dk k 0
    rw [eo]
    exact Lib.below_grow _ _ (Nat.le_refl _) _ _
  have HB := Lib.hid hb
  clear hb
  go_wp2
  go_ret
  exact ⟨_, rfl, by have := Lib.decDigits_length u; simp [ByteArray.size]; omega, HB.out⟩
theorem sfuint_any (u : Nat) (hum : u < 1000000) (hK : u < K) (w : World) (ht : Tab K w) : Calls Tryz.prog 177 #[.int .u64 u, .int .i64 10] w (OutS 1000 w) := by
  have hc : Calls Tryz.prog 213 #[.int .u64 u, .int .i64 10] w (OutS 1000 w) := by
    rcases Nat.lt_or_ge u 100 with h | h
    · exact fuint_small u h w
    · exact fuint_big u h hum w (ht.is (by omega))
  have HC := Lib.hid hc
  clear hc
  go_enter Tryz.func177, Tryz.ntmps177
  go_wp2_with fail
  refine HC.out.mono ?_
  rintro e w1 ⟨s, rfl, hs, hb⟩
  have HB := Lib.hid hb
  clear hb
  go_wp2_with fail
  go_ret
  exact ⟨s, rfl, hs, HB.out⟩
theorem Tab.below {w w' : World} (h : Tab K w) (hb : Below w.heap.size w w') : Tab K w' := by
  refine ⟨fun h100 => ?_⟩
  have h := h.is h100
  unfold Lib.TabIs World.var? at *
  cases hg : (Tryz.prog).globalNamed "internal/strconv.uint64pow10" with
  | none => simp [hg] at h
  | some g =>
    simp only [hg, Option.bind_some] at h ⊢
    have hlt : g < w.heap.size := by
      rcases Nat.lt_or_ge g w.heap.size with h' | h'
      · exact h'
      · rw [Array.getElem?_eq_none h'] at h; simp at h
    rw [hb.block g hlt]
    exact h
theorem Tab.drewN {w : World} (h : Tab K w) (n : Nat) : Tab K (w.drewN n) := ⟨h.is⟩
theorem Tab.drew {w : World} (h : Tab K w) : Tab K w.drew := ⟨h.is⟩
theorem beNat_lt (b0 b1 : UInt8) : Lib.beNat [b0, b1] < 65536 := by
  have h0 := b0.toNat_lt
  have h1 := b1.toNat_lt
  simp only [Lib.beNat, Lib.beFrom]
  omega
theorem RB.cellAt {w : World} {B n c g : Nat} {l : List UInt8} (h : RB w B (some ⟨g, 0, none⟩) n c l) (k : Nat) (b : UInt8) (hk : l[k]? = some b) : w.cell? ⟨g, k, none⟩ = some (.int .u8 b.toNat) := by
  have hl : k < l.length := (List.getElem?_eq_some_iff.1 hk).1
  obtain ⟨ad, e, _, hc⟩ := h.at_ (k := k) (by rw [← h.len]; exact hl) hl
  injection e with e
  subst e
  have hadd : (⟨g, 0, none⟩ : Addr).add k = ⟨g, k, none⟩ := by unfold Addr.add; split <;> simp_all
  rw [hadd] at hc
  rw [hc]
  rw [List.getElem?_eq_getElem hl] at hk
  injection hk with hk
  rw [hk]
theorem port_any (g c : Nat) (b0 b1 : UInt8) (w : World) (h : RB w w.heap.size (some ⟨g, 0, none⟩) 2 c [b0, b1]) (hK : Lib.beNat [b0, b1] < K) (ht : Tab K w) : Calls Tryz.prog 130 #[.slice (some ⟨g, 0, none⟩) 2 c] w (OutSE w) := by
  have HC := Lib.hid (Tryz.binary_BE_Uint16 g 0 2 c b0 b1 w (by omega) (h.cellAt 0 b0 rfl) (h.cellAt 1 b1 rfl))
  have HT := Lib.hid ht
  have hlt := beNat_lt b0 b1
  obtain ⟨N, hN⟩ : ∃ N, N = Lib.beNat [b0, b1] := ⟨_, rfl⟩
  rw [← hN] at HC hlt hK
  clear h ht hN
  go_enter Tryz.func130, Tryz.ntmps130
  go_wp2_with fail
  refine HC.out.mono ?_
  rintro e w1 ⟨rfl, hb⟩
  have HB := Lib.hid hb
  clear hb
  go_wp2_with fail
  refine (sfuint_any N (by omega) hK w1 (HT.out.below HB.out)).mono ?_
  rintro e w2 ⟨s, rfl, _, hb⟩
  have HB2 := Lib.hid (HB.out.trans (hb.mono HB.out.size))
  clear hb
  go_wp2_with fail
  go_ret2
  exact ⟨s, rfl, HB2.out⟩
theorem to4_four (A : Option Addr) (c : Nat) (w : World) : Calls Tryz.prog 172 #[.slice A 4 c] w fun e w' => e = .returned (.slice A 4 c) ∧ w = w' := by
  go_enter Tryz.func172, Tryz.ntmps172
  go_wp2_with fail
  go_ret
  exact ⟨rfl, rfl⟩
attribute [local go_sem ↓] Go.wp_at_zero Go.wp_at_succ
theorem add_some {P : Program} (a b : ByteArray) (m n : Nat) (ha : a.size ≤ m) (hb : b.size ≤ n) (h : m + n ≤ 100000000) : ∃ t, (∀ w, (Op.stringOp .add a b).run P w = .ok (.string t) w) ∧ t.size ≤ m + n :=
  ⟨a ++ b, fun w => run_string_add_sum w a b (by omega), by rw [ByteArray.size_append]; omega⟩
theorem ip_keep {w w1 w2 : World} {a0 a1 a2 a3 : Addr} {v0 v1 v2 v3 : Value} (hb : Below w1.heap.size w1 w2) (h : Below w.heap.size w w1 ∧ Tab K w1 ∧ w1.cell? a0 = some v0 ∧ w1.cell? a1 = some v1 ∧ w1.cell? a2 = some v2 ∧ w1.cell? a3 = some v3) :
    Below w.heap.size w w2 ∧ Tab K w2 ∧ w2.cell? a0 = some v0 ∧ w2.cell? a1 = some v1 ∧ w2.cell? a2 = some v2 ∧ w2.cell? a3 = some v3 :=
  have ⟨h1, ht, c0, c1, c2, c3⟩ := h
  ⟨h1.trans (hb.mono h1.size), ht.below hb, (hb.cell (World.block_lt_of_cell? _ _ c0)).trans c0, (hb.cell (World.block_lt_of_cell? _ _ c1)).trans c1, (hb.cell (World.block_lt_of_cell? _ _ c2)).trans c2, (hb.cell (World.block_lt_of_cell? _ _ c3)).trans c3⟩
theorem ipstr_four (g c : Nat) (o : Nat) (b0 b1 b2 b3 : UInt8) (w0 : World) (h0 : w0.cell? ⟨g, o, none⟩ = some (.int .u8 b0.toNat)) (h1 : w0.cell? ⟨g, o + 1, none⟩ = some (.int .u8 b1.toNat)) (h2 : w0.cell? ⟨g, o + 2, none⟩ = some (.int .u8 b2.toNat))
    (h3 : w0.cell? ⟨g, o + 3, none⟩ = some (.int .u8 b3.toNat)) (hc : 4 ≤ c) (hm : c ≤ maxLen) (kk0 : b0.toNat < K) (kk1 : b1.toNat < K) (kk2 : b2.toNat < K) (kk3 : b3.toNat < K) (ht : Tab K w0) : Calls Tryz.prog 173 #[.slice (some ⟨g, o, none⟩) 4 c] w0 (OutS 10000 w0) := by
  have hc1 := hc
  have hx0 := b0.toNat_lt
  have hx1 := b1.toNat_lt
  have hx2 := b2.toNat_lt
  have hx3 := b3.toNat_lt
  have e0 : IntKind.i64.wrap (b0.toNat : Int) = b0.toNat := IntWalk.i64_in _ (by omega)
  have e1 : IntKind.i64.wrap (b1.toNat : Int) = b1.toNat := IntWalk.i64_in _ (by omega)
  have e2 : IntKind.i64.wrap (b2.toNat : Int) = b2.toNat := IntWalk.i64_in _ (by omega)
  have e3 : IntKind.i64.wrap (b3.toNat : Int) = b3.toNat := IntWalk.i64_in _ (by omega)
  have HM := Lib.hid hm
  have hst := ip_keep ((Below.refl w0.heap.size w0).alloc (Nat.le_refl _) (.cells #[.slice (some ⟨g, o, none⟩) 4 c] 148)) ⟨Below.refl _ _, ht, h0, h1, h2, h3⟩
  have q : ∀ (w : World) (a : Option Addr) (n c n' c' : Nat), (binOp .neq 148 (.slice a n c) (.slice none n' c')).run Tryz.prog w = .ok (.bool (!a.isNone)) w := fun w a n c n' c' => run_neq_slice_nil_any w _ _ a n c n' c' Tryz.underlying148
  clear hm h0 h1 h2 h3 ht
  go_enter Tryz.func173, Tryz.ntmps173
  go_wp2_with (go_at_call 172; refine (to4_four _ c _).mono ?_; rintro e w' ⟨rfl, rfl⟩)
  obtain ⟨w, hw⟩ : ∃ w, w = w0.alloc (.cells #[.slice (some ⟨g, o, none⟩) 4 c] 148) := ⟨_, rfl⟩
  rw [← hw] at hst ⊢
  clear hw
  obtain ⟨hb0, ht0, h0, h1, h2, h3⟩ := hst
  have HB0 := Lib.hid hb0
  have HT0 := Lib.hid ht0
  clear hb0 ht0
  have HC := fun (n : Nat) (hn : n < 1000000) (hK : n < K) (w1 : World) (h : Below w.heap.size w w1 ∧ Tab K w1 ∧ w1.cell? ⟨g, o, none⟩ = some (.int .u8 b0.toNat) ∧ w1.cell? ⟨g, o + 1, none⟩ = some (.int .u8 b1.toNat) ∧ w1.cell? ⟨g, o + 2, none⟩ = some (.int .u8 b2.toNat) ∧ w1.cell? ⟨g, o + 3, none⟩ = some (.int .u8 b3.toNat)) => itoa_any n hn hK w1 h.2.1
  go_region_held3 (fun w' => Below w.heap.size w w' ∧ Tab K w' ∧ w'.cell? ⟨g, o, none⟩ = some (.int .u8 b0.toNat) ∧ w'.cell? ⟨g, o + 1, none⟩ = some (.int .u8 b1.toNat) ∧ w'.cell? ⟨g, o + 2, none⟩ = some (.int .u8 b2.toNat) ∧ w'.cell? ⟨g, o + 3, none⟩ = some (.int .u8 b3.toNat))
    (first | exact ⟨(Below.refl _ _).drew, HT0.out.drew, h0, h1, h2, h3⟩ | with_reducible assumption)
    (first
      | (go_at_call_of 181 (Value.int IntKind.i64 (b0.toNat : Int)); have hS1 := ‹RowKit.Below w.heap.size w _ ∧ _›; refine (HC _ ?_ ?_ _ hS1).mono ?_; (omega); (with_reducible assumption); rintro e w' ⟨s0, rfl, z0, hb⟩; have hS2 := ip_keep hb hS1; clear hS1 hb; obtain ⟨t0, A0, y0⟩ := add_some (P := Tryz.prog) s0 ⟨#[46]⟩ 1000 1 z0 (by decide) (by omega))
      | (go_at_call_of 181 (Value.int IntKind.i64 (b1.toNat : Int)); have hS1 := ‹RowKit.Below w.heap.size w _ ∧ _›; refine (HC _ ?_ ?_ _ hS1).mono ?_; (omega); (with_reducible assumption); rintro e w' ⟨s1, rfl, z1, hb⟩; have hS2 := ip_keep hb hS1; clear hS1 hb; obtain ⟨t1, A1, y1⟩ := add_some (P := Tryz.prog) t0 s1 1001 1000 y0 z1 (by omega); obtain ⟨t2, A2, y2⟩ := add_some (P := Tryz.prog) t1 ⟨#[46]⟩ 2001 1 y1 (by decide) (by omega))
      | (go_at_call_of 181 (Value.int IntKind.i64 (b2.toNat : Int)); have hS1 := ‹RowKit.Below w.heap.size w _ ∧ _›; refine (HC _ ?_ ?_ _ hS1).mono ?_; (omega); (with_reducible assumption); rintro e w' ⟨s2, rfl, z2, hb⟩; have hS2 := ip_keep hb hS1; clear hS1 hb; obtain ⟨t3, A3, y3⟩ := add_some (P := Tryz.prog) t2 s2 2002 1000 y2 z2 (by omega); obtain ⟨t4, A4, y4⟩ := add_some (P := Tryz.prog) t3 ⟨#[46]⟩ 3002 1 y3 (by decide) (by omega))
      | (go_at_call_of 181 (Value.int IntKind.i64 (b3.toNat : Int)); have hS1 := ‹RowKit.Below w.heap.size w _ ∧ _›; refine (HC _ ?_ ?_ _ hS1).mono ?_; (omega); (with_reducible assumption); rintro e w' ⟨s3, rfl, z3, hb⟩; have hS2 := ip_keep hb hS1; clear hS1 hb; obtain ⟨t5, A5, y5⟩ := add_some (P := Tryz.prog) t4 s3 3003 1000 y4 z3 (by omega)))
  obtain ⟨hbf, _⟩ := ‹RowKit.Below w.heap.size w _ ∧ _›
  have HBF := Lib.hid (HB0.out.trans (hbf.mono HB0.out.size))
  clear hbf
  go_wp2_with fail
  go_ret
  exact ⟨t5, rfl, by omega, HBF.out⟩
theorem ip4_any (g c : Nat) (b0 b1 b2 b3 : UInt8) (w : World) (h : RB w w.heap.size (some ⟨g, 0, none⟩) 4 c [b0, b1, b2, b3]) (kk0 : b0.toNat < K) (kk1 : b1.toNat < K) (kk2 : b2.toNat < K) (kk3 : b3.toNat < K) (ht : Tab K w) : Calls Tryz.prog 128 #[.slice (some ⟨g, 0, none⟩) 4 c] w (OutSE w) := by
  have HC := Lib.hid (ipstr_four g c 0 b0 b1 b2 b3 w (h.cellAt 0 b0 rfl) (h.cellAt 1 b1 rfl) (h.cellAt 2 b2 rfl) (h.cellAt 3 b3 rfl) h.cap h.max kk0 kk1 kk2 kk3 ht)
  clear h ht
  go_enter Tryz.func128, Tryz.ntmps128
  go_wp2_with fail
  refine HC.out.mono ?_
  rintro e w1 ⟨s, rfl, _, hb⟩
  have HB := Lib.hid hb
  clear hb
  go_wp2_with fail
  go_ret2
  exact ⟨s, rfl, HB.out⟩
end Go.Proofs.YtghddiboggdhcaaGreatDoor
