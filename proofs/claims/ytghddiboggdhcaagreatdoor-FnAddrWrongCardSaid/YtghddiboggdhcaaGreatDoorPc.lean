/- Protocols by their codes. -/
import Derived.Test.YtghddiboggdhcaaGreatDoorPb
set_option maxRecDepth 100000
set_option maxHeartbeats 1000000
namespace Go.Proofs.YtghddiboggdhcaaGreatDoor
open Go.RowKit
def fnv (a : Nat) : Value := .func (Fn.func a) #[] #[]
def pzero : Array Value := #[.string ⟨#[]⟩, .int .i64 0, .slice none 0 0, .int .i64 0, .bool false, .nilIface]
theorem pzero_cells {w : World} {g : Nat} {t : TypeId} (h : Blk w g t pzero) : w.cell? ⟨g, 0, none⟩ = some (.string ⟨#[]⟩) ∧ w.cell? ⟨g, 1, none⟩ = some (.int .i64 0) ∧ w.cell? ⟨g, 2, none⟩ = some (.slice none 0 0) ∧
    w.cell? ⟨g, 3, none⟩ = some (.int .i64 0) ∧ w.cell? ⟨g, 4, none⟩ = some (.bool false) ∧ w.cell? ⟨g, 5, none⟩ = some .nilIface := ⟨h.cell 0, h.cell 1, h.cell 2, h.cell 3, h.cell 4, h.cell 5⟩
theorem six_frozen {w : World} {g : Nat} {t : TypeId} {cs : Array Value} (h : Blk w g t cs) : w.frozen? ⟨g, 0, none⟩ = false ∧ w.frozen? ⟨g, 1, none⟩ = false ∧ w.frozen? ⟨g, 2, none⟩ = false ∧ w.frozen? ⟨g, 3, none⟩ = false ∧
    w.frozen? ⟨g, 4, none⟩ = false ∧ w.frozen? ⟨g, 5, none⟩ = false := ⟨h.frozen 0, h.frozen 1, h.frozen 2, h.frozen 3, h.frozen 4, h.frozen 5⟩
theorem newtr_two (a b : Nat) (w : World) : Calls Tryz.prog 126 #[.func (Fn.func a) #[] #[], .func (Fn.func b) #[] #[], .nilFunc] w fun e w' => e = .returned (.iface 147 (.agg #[fnv a, fnv b, .nilFunc])) ∧ w = w' := by
  go_enter Tryz.func126, Tryz.ntmps126
  go_wp2_with fail
  go_ret
  exact ⟨rfl, rfl⟩
theorem newtr_three (a b c : Nat) (w : World) : Calls Tryz.prog 126 #[.func (Fn.func a) #[] #[], .func (Fn.func b) #[] #[], .func (Fn.func c) #[] #[]] w fun e w' => e = .returned (.iface 147 (.agg #[fnv a, fnv b, fnv c])) ∧ w = w' := by
  go_enter Tryz.func126, Tryz.ntmps126
  go_wp2_with fail
  go_ret
  exact ⟨rfl, rfl⟩
theorem tr_IP4 (w : World) : Calls Tryz.prog 110 #[] w fun e w' => e = .returned (.iface 147 (.agg #[fnv 127, fnv 128, .nilFunc])) ∧ w = w' := by
  go_enter Tryz.func110, Tryz.ntmps110
  go_wp2_with (go_at_call 126; refine (newtr_two 127 128 _).mono ?_; rintro e w' ⟨rfl, rfl⟩)
  go_ret
  exact ⟨rfl, rfl⟩
theorem tr_IP6 (w : World) : Calls Tryz.prog 113 #[] w fun e w' => e = .returned (.iface 147 (.agg #[fnv 134, fnv 135, .nilFunc])) ∧ w = w' := by
  go_enter Tryz.func113, Tryz.ntmps113
  go_wp2_with (go_at_call 126; refine (newtr_two 134 135 _).mono ?_; rintro e w' ⟨rfl, rfl⟩)
  go_ret
  exact ⟨rfl, rfl⟩
theorem tr_Port (w : World) : Calls Tryz.prog 111 #[] w fun e w' => e = .returned (.iface 147 (.agg #[fnv 129, fnv 130, .nilFunc])) ∧ w = w' := by
  go_enter Tryz.func111, Tryz.ntmps111
  go_wp2_with (go_at_call 126; refine (newtr_two 129 130 _).mono ?_; rintro e w' ⟨rfl, rfl⟩)
  go_ret
  exact ⟨rfl, rfl⟩
theorem tr_P2P (w : World) : Calls Tryz.prog 122 #[] w fun e w' => e = .returned (.iface 147 (.agg #[fnv 160, fnv 161, fnv 162])) ∧ w = w' := by
  go_enter Tryz.func122, Tryz.ntmps122
  go_wp2_with (go_at_call 126; refine (newtr_three 160 161 162 _).mono ?_; rintro e w' ⟨rfl, rfl⟩)
  go_ret
  exact ⟨rfl, rfl⟩
structure Proto where
  name : List UInt8
  vc : List UInt8
  size : Int
  tc : Value
def protoOf : Nat → Proto
  | 4 => ⟨[105, 112, 52], [4], 32, .iface 147 (.agg #[fnv 127, fnv 128, .nilFunc])⟩
  | 6 => ⟨[116, 99, 112], [6], 16, .iface 147 (.agg #[fnv 129, fnv 130, .nilFunc])⟩
  | 41 => ⟨[105, 112, 54], [41], 128, .iface 147 (.agg #[fnv 134, fnv 135, .nilFunc])⟩
  | 273 => ⟨[117, 100, 112], [145, 2], 16, .iface 147 (.agg #[fnv 129, fnv 130, .nilFunc])⟩
  | 290 => ⟨[112, 50, 112, 45, 99, 105, 114, 99, 117, 105, 116], [162, 2], 0, .nilIface⟩
  | 421 => ⟨[112, 50, 112], [165, 3], -1, .iface 147 (.agg #[fnv 160, fnv 161, fnv 162])⟩
  | 461 => ⟨[113, 117, 105, 99, 45, 118, 49], [205, 3], 0, .nilIface⟩
  | 477 => ⟨[119, 115], [221, 3], 0, .nilIface⟩
  | _ => ⟨[], [], 0, .nilIface⟩
def pcells (k g : Nat) : Array Value := #[.string ⟨(protoOf k).name.toArray⟩, .int .i64 k, .slice (some ⟨g, 0, none⟩) (protoOf k).vc.length (protoOf k).vc.length, .int .i64 (protoOf k).size, .bool false, (protoOf k).tc]
def OutP (k : Nat) (w : World) (e : Ending) (w' : World) : Prop :=
  ∃ g, e = .returned (.agg (pcells k g)) ∧ w.heap.size ≤ g ∧ Blk w' g 5 (bv (protoOf k).vc).toArray ∧ Below w.heap.size w w'
theorem proto_size : (Tryz.prog.info? 77).map (·.size) = some 6 := by kernel_rfl
theorem proto_4 (w : World) : Calls Tryz.prog 71 #[] w (OutP 4 w) := by
  go_enter Tryz.func71, Tryz.ntmps71
  go_wp2_with (first
    | (go_at_call 109; refine (code_4 _).mono ?_; rintro e w1 ⟨g, rfl, hg, hr, hb⟩; have hk := (Blk.new w 77 pzero).below hb (by simp); have Hb := Lib.hid hb; have Hr := Lib.hid hr; clear hr hb; obtain ⟨c0, c1, c2, c3, c4, c5⟩ := pzero_cells hk; obtain ⟨f0, f1, f2, f3, f4, f5⟩ := six_frozen hk; have HK := Lib.hid hk; clear hk)
    | (go_at_call 110; refine (tr_IP4 _).mono ?_; rintro e w2 ⟨rfl, rfl⟩))
  have hgg := Lib.hid (show w.heap.size + 1 ≤ g by simpa using hg)
  have hbb := ((Below.refl _ w).alloc (Nat.le_refl _) (.cells pzero 77)).trans (Hb.out.mono (by simp))
  have hbl := Lib.hid hbb
  clear hbb
  have hst := ((((((HK.out.set_ 0 (.string ⟨#[105, 112, 52]⟩)).set_ 1 (.int .i64 4)).set_ 2 (.slice (some ⟨g, 0, none⟩) 1 1)).set_ 3 (.int .i64 32)).set_ 4 (.bool false)).set_ 5 (.iface 147 (.agg #[fnv 127, fnv 128, .nilFunc])))
  refine bodyPost_ret (results_cell_row rfl _ _ w.heap.size 77 (pcells 4 g) (0, 0) _ rfl hst Tryz.underlying77 rfl (proto_size.trans rfl)) rfl ?_
  exact ⟨g, rfl, Nat.le_of_succ_le hgg.out, ((((((Hr.out.far (p := ⟨w.heap.size, 0, none⟩) (by simp; have := hgg.out; omega) _).far (p := ⟨w.heap.size, 1, none⟩) (by simp; have := hgg.out; omega) _).far (p := ⟨w.heap.size, 2, none⟩) (by simp; have := hgg.out; omega) _).far (p := ⟨w.heap.size, 3, none⟩) (by simp; have := hgg.out; omega) _).far (p := ⟨w.heap.size, 4, none⟩) (by simp; have := hgg.out; omega) _).far (p := ⟨w.heap.size, 5, none⟩) (by simp; have := hgg.out; omega) _), ((((((hbl.out.setCell (by simp) _).setCell (by simp) _).setCell (by simp) _).setCell (by simp) _).setCell (by simp) _).setCell (by simp) _)⟩
theorem proto_6 (w : World) : Calls Tryz.prog 72 #[] w (OutP 6 w) := by
  go_enter Tryz.func72, Tryz.ntmps72
  go_wp2_with (first
    | (go_at_call 109; refine (code_6 _).mono ?_; rintro e w1 ⟨g, rfl, hg, hr, hb⟩; have hk := (Blk.new w 77 pzero).below hb (by simp); have Hb := Lib.hid hb; have Hr := Lib.hid hr; clear hr hb; obtain ⟨c0, c1, c2, c3, c4, c5⟩ := pzero_cells hk; obtain ⟨f0, f1, f2, f3, f4, f5⟩ := six_frozen hk; have HK := Lib.hid hk; clear hk)
    | (go_at_call 111; refine (tr_Port _).mono ?_; rintro e w2 ⟨rfl, rfl⟩))
  have hgg := Lib.hid (show w.heap.size + 1 ≤ g by simpa using hg)
  have hbb := ((Below.refl _ w).alloc (Nat.le_refl _) (.cells pzero 77)).trans (Hb.out.mono (by simp))
  have hbl := Lib.hid hbb
  clear hbb
  have hst := ((((((HK.out.set_ 0 (.string ⟨#[116, 99, 112]⟩)).set_ 1 (.int .i64 6)).set_ 2 (.slice (some ⟨g, 0, none⟩) 1 1)).set_ 3 (.int .i64 16)).set_ 4 (.bool false)).set_ 5 (.iface 147 (.agg #[fnv 129, fnv 130, .nilFunc])))
  refine bodyPost_ret (results_cell_row rfl _ _ w.heap.size 77 (pcells 6 g) (0, 0) _ rfl hst Tryz.underlying77 rfl (proto_size.trans rfl)) rfl ?_
  exact ⟨g, rfl, Nat.le_of_succ_le hgg.out, ((((((Hr.out.far (p := ⟨w.heap.size, 0, none⟩) (by simp; have := hgg.out; omega) _).far (p := ⟨w.heap.size, 1, none⟩) (by simp; have := hgg.out; omega) _).far (p := ⟨w.heap.size, 2, none⟩) (by simp; have := hgg.out; omega) _).far (p := ⟨w.heap.size, 3, none⟩) (by simp; have := hgg.out; omega) _).far (p := ⟨w.heap.size, 4, none⟩) (by simp; have := hgg.out; omega) _).far (p := ⟨w.heap.size, 5, none⟩) (by simp; have := hgg.out; omega) _), ((((((hbl.out.setCell (by simp) _).setCell (by simp) _).setCell (by simp) _).setCell (by simp) _).setCell (by simp) _).setCell (by simp) _)⟩
theorem proto_41 (w : World) : Calls Tryz.prog 79 #[] w (OutP 41 w) := by
  go_enter Tryz.func79, Tryz.ntmps79
  go_wp2_with (first
    | (go_at_call 109; refine (code_41 _).mono ?_; rintro e w1 ⟨g, rfl, hg, hr, hb⟩; have hk := (Blk.new w 77 pzero).below hb (by simp); have Hb := Lib.hid hb; have Hr := Lib.hid hr; clear hr hb; obtain ⟨c0, c1, c2, c3, c4, c5⟩ := pzero_cells hk; obtain ⟨f0, f1, f2, f3, f4, f5⟩ := six_frozen hk; have HK := Lib.hid hk; clear hk)
    | (go_at_call 113; refine (tr_IP6 _).mono ?_; rintro e w2 ⟨rfl, rfl⟩))
  have hgg := Lib.hid (show w.heap.size + 1 ≤ g by simpa using hg)
  have hbb := ((Below.refl _ w).alloc (Nat.le_refl _) (.cells pzero 77)).trans (Hb.out.mono (by simp))
  have hbl := Lib.hid hbb
  clear hbb
  have hst := ((((((HK.out.set_ 0 (.string ⟨#[105, 112, 54]⟩)).set_ 1 (.int .i64 41)).set_ 2 (.slice (some ⟨g, 0, none⟩) 1 1)).set_ 3 (.int .i64 128)).set_ 4 (.bool false)).set_ 5 (.iface 147 (.agg #[fnv 134, fnv 135, .nilFunc])))
  refine bodyPost_ret (results_cell_row rfl _ _ w.heap.size 77 (pcells 41 g) (0, 0) _ rfl hst Tryz.underlying77 rfl (proto_size.trans rfl)) rfl ?_
  exact ⟨g, rfl, Nat.le_of_succ_le hgg.out, ((((((Hr.out.far (p := ⟨w.heap.size, 0, none⟩) (by simp; have := hgg.out; omega) _).far (p := ⟨w.heap.size, 1, none⟩) (by simp; have := hgg.out; omega) _).far (p := ⟨w.heap.size, 2, none⟩) (by simp; have := hgg.out; omega) _).far (p := ⟨w.heap.size, 3, none⟩) (by simp; have := hgg.out; omega) _).far (p := ⟨w.heap.size, 4, none⟩) (by simp; have := hgg.out; omega) _).far (p := ⟨w.heap.size, 5, none⟩) (by simp; have := hgg.out; omega) _), ((((((hbl.out.setCell (by simp) _).setCell (by simp) _).setCell (by simp) _).setCell (by simp) _).setCell (by simp) _).setCell (by simp) _)⟩
theorem proto_273 (w : World) : Calls Tryz.prog 77 #[] w (OutP 273 w) := by
  go_enter Tryz.func77, Tryz.ntmps77
  go_wp2_with (first
    | (go_at_call 109; refine (code_273 _).mono ?_; rintro e w1 ⟨g, rfl, hg, hr, hb⟩; have hk := (Blk.new w 77 pzero).below hb (by simp); have Hb := Lib.hid hb; have Hr := Lib.hid hr; clear hr hb; obtain ⟨c0, c1, c2, c3, c4, c5⟩ := pzero_cells hk; obtain ⟨f0, f1, f2, f3, f4, f5⟩ := six_frozen hk; have HK := Lib.hid hk; clear hk)
    | (go_at_call 111; refine (tr_Port _).mono ?_; rintro e w2 ⟨rfl, rfl⟩))
  have hgg := Lib.hid (show w.heap.size + 1 ≤ g by simpa using hg)
  have hbb := ((Below.refl _ w).alloc (Nat.le_refl _) (.cells pzero 77)).trans (Hb.out.mono (by simp))
  have hbl := Lib.hid hbb
  clear hbb
  have hst := ((((((HK.out.set_ 0 (.string ⟨#[117, 100, 112]⟩)).set_ 1 (.int .i64 273)).set_ 2 (.slice (some ⟨g, 0, none⟩) 2 2)).set_ 3 (.int .i64 16)).set_ 4 (.bool false)).set_ 5 (.iface 147 (.agg #[fnv 129, fnv 130, .nilFunc])))
  refine bodyPost_ret (results_cell_row rfl _ _ w.heap.size 77 (pcells 273 g) (0, 0) _ rfl hst Tryz.underlying77 rfl (proto_size.trans rfl)) rfl ?_
  exact ⟨g, rfl, Nat.le_of_succ_le hgg.out, ((((((Hr.out.far (p := ⟨w.heap.size, 0, none⟩) (by simp; have := hgg.out; omega) _).far (p := ⟨w.heap.size, 1, none⟩) (by simp; have := hgg.out; omega) _).far (p := ⟨w.heap.size, 2, none⟩) (by simp; have := hgg.out; omega) _).far (p := ⟨w.heap.size, 3, none⟩) (by simp; have := hgg.out; omega) _).far (p := ⟨w.heap.size, 4, none⟩) (by simp; have := hgg.out; omega) _).far (p := ⟨w.heap.size, 5, none⟩) (by simp; have := hgg.out; omega) _), ((((((hbl.out.setCell (by simp) _).setCell (by simp) _).setCell (by simp) _).setCell (by simp) _).setCell (by simp) _).setCell (by simp) _)⟩
theorem proto_290 (w : World) : Calls Tryz.prog 83 #[] w (OutP 290 w) := by
  go_enter Tryz.func83, Tryz.ntmps83
  go_wp2_with (first
    | (go_at_call 109; refine (code_290 _).mono ?_; rintro e w1 ⟨g, rfl, hg, hr, hb⟩; have hk := (Blk.new w 77 pzero).below hb (by simp); have Hb := Lib.hid hb; have Hr := Lib.hid hr; clear hr hb; obtain ⟨c0, c1, c2, c3, c4, c5⟩ := pzero_cells hk; obtain ⟨f0, f1, f2, f3, f4, f5⟩ := six_frozen hk; have HK := Lib.hid hk; clear hk))
  have hgg := Lib.hid (show w.heap.size + 1 ≤ g by simpa using hg)
  have hbb := ((Below.refl _ w).alloc (Nat.le_refl _) (.cells pzero 77)).trans (Hb.out.mono (by simp))
  have hbl := Lib.hid hbb
  clear hbb
  have hst := ((((((HK.out.set_ 0 (.string ⟨#[112, 50, 112, 45, 99, 105, 114, 99, 117, 105, 116]⟩)).set_ 1 (.int .i64 290)).set_ 2 (.slice (some ⟨g, 0, none⟩) 2 2)).set_ 3 (.int .i64 0)).set_ 4 (.bool false)).set_ 5 (.nilIface))
  refine bodyPost_ret (results_cell_row rfl _ _ w.heap.size 77 (pcells 290 g) (0, 0) _ rfl hst Tryz.underlying77 rfl (proto_size.trans rfl)) rfl ?_
  exact ⟨g, rfl, Nat.le_of_succ_le hgg.out, ((((((Hr.out.far (p := ⟨w.heap.size, 0, none⟩) (by simp; have := hgg.out; omega) _).far (p := ⟨w.heap.size, 1, none⟩) (by simp; have := hgg.out; omega) _).far (p := ⟨w.heap.size, 2, none⟩) (by simp; have := hgg.out; omega) _).far (p := ⟨w.heap.size, 3, none⟩) (by simp; have := hgg.out; omega) _).far (p := ⟨w.heap.size, 4, none⟩) (by simp; have := hgg.out; omega) _).far (p := ⟨w.heap.size, 5, none⟩) (by simp; have := hgg.out; omega) _), ((((((hbl.out.setCell (by simp) _).setCell (by simp) _).setCell (by simp) _).setCell (by simp) _).setCell (by simp) _).setCell (by simp) _)⟩
theorem proto_421 (w : World) : Calls Tryz.prog 97 #[] w (OutP 421 w) := by
  go_enter Tryz.func97, Tryz.ntmps97
  go_wp2_with (first
    | (go_at_call 109; refine (code_421 _).mono ?_; rintro e w1 ⟨g, rfl, hg, hr, hb⟩; have hk := (Blk.new w 77 pzero).below hb (by simp); have Hb := Lib.hid hb; have Hr := Lib.hid hr; clear hr hb; obtain ⟨c0, c1, c2, c3, c4, c5⟩ := pzero_cells hk; obtain ⟨f0, f1, f2, f3, f4, f5⟩ := six_frozen hk; have HK := Lib.hid hk; clear hk)
    | (go_at_call 122; refine (tr_P2P _).mono ?_; rintro e w2 ⟨rfl, rfl⟩))
  have hgg := Lib.hid (show w.heap.size + 1 ≤ g by simpa using hg)
  have hbb := ((Below.refl _ w).alloc (Nat.le_refl _) (.cells pzero 77)).trans (Hb.out.mono (by simp))
  have hbl := Lib.hid hbb
  clear hbb
  have hst := ((((((HK.out.set_ 0 (.string ⟨#[112, 50, 112]⟩)).set_ 1 (.int .i64 421)).set_ 2 (.slice (some ⟨g, 0, none⟩) 2 2)).set_ 3 (.int .i64 (-1))).set_ 4 (.bool false)).set_ 5 (.iface 147 (.agg #[fnv 160, fnv 161, fnv 162])))
  refine bodyPost_ret (results_cell_row rfl _ _ w.heap.size 77 (pcells 421 g) (0, 0) _ rfl hst Tryz.underlying77 rfl (proto_size.trans rfl)) rfl ?_
  exact ⟨g, rfl, Nat.le_of_succ_le hgg.out, ((((((Hr.out.far (p := ⟨w.heap.size, 0, none⟩) (by simp; have := hgg.out; omega) _).far (p := ⟨w.heap.size, 1, none⟩) (by simp; have := hgg.out; omega) _).far (p := ⟨w.heap.size, 2, none⟩) (by simp; have := hgg.out; omega) _).far (p := ⟨w.heap.size, 3, none⟩) (by simp; have := hgg.out; omega) _).far (p := ⟨w.heap.size, 4, none⟩) (by simp; have := hgg.out; omega) _).far (p := ⟨w.heap.size, 5, none⟩) (by simp; have := hgg.out; omega) _), ((((((hbl.out.setCell (by simp) _).setCell (by simp) _).setCell (by simp) _).setCell (by simp) _).setCell (by simp) _).setCell (by simp) _)⟩
theorem proto_461 (w : World) : Calls Tryz.prog 91 #[] w (OutP 461 w) := by
  go_enter Tryz.func91, Tryz.ntmps91
  go_wp2_with (first
    | (go_at_call 109; refine (code_461 _).mono ?_; rintro e w1 ⟨g, rfl, hg, hr, hb⟩; have hk := (Blk.new w 77 pzero).below hb (by simp); have Hb := Lib.hid hb; have Hr := Lib.hid hr; clear hr hb; obtain ⟨c0, c1, c2, c3, c4, c5⟩ := pzero_cells hk; obtain ⟨f0, f1, f2, f3, f4, f5⟩ := six_frozen hk; have HK := Lib.hid hk; clear hk))
  have hgg := Lib.hid (show w.heap.size + 1 ≤ g by simpa using hg)
  have hbb := ((Below.refl _ w).alloc (Nat.le_refl _) (.cells pzero 77)).trans (Hb.out.mono (by simp))
  have hbl := Lib.hid hbb
  clear hbb
  have hst := ((((((HK.out.set_ 0 (.string ⟨#[113, 117, 105, 99, 45, 118, 49]⟩)).set_ 1 (.int .i64 461)).set_ 2 (.slice (some ⟨g, 0, none⟩) 2 2)).set_ 3 (.int .i64 0)).set_ 4 (.bool false)).set_ 5 (.nilIface))
  refine bodyPost_ret (results_cell_row rfl _ _ w.heap.size 77 (pcells 461 g) (0, 0) _ rfl hst Tryz.underlying77 rfl (proto_size.trans rfl)) rfl ?_
  exact ⟨g, rfl, Nat.le_of_succ_le hgg.out, ((((((Hr.out.far (p := ⟨w.heap.size, 0, none⟩) (by simp; have := hgg.out; omega) _).far (p := ⟨w.heap.size, 1, none⟩) (by simp; have := hgg.out; omega) _).far (p := ⟨w.heap.size, 2, none⟩) (by simp; have := hgg.out; omega) _).far (p := ⟨w.heap.size, 3, none⟩) (by simp; have := hgg.out; omega) _).far (p := ⟨w.heap.size, 4, none⟩) (by simp; have := hgg.out; omega) _).far (p := ⟨w.heap.size, 5, none⟩) (by simp; have := hgg.out; omega) _), ((((((hbl.out.setCell (by simp) _).setCell (by simp) _).setCell (by simp) _).setCell (by simp) _).setCell (by simp) _).setCell (by simp) _)⟩
theorem proto_477 (w : World) : Calls Tryz.prog 103 #[] w (OutP 477 w) := by
  go_enter Tryz.func103, Tryz.ntmps103
  go_wp2_with (first
    | (go_at_call 109; refine (code_477 _).mono ?_; rintro e w1 ⟨g, rfl, hg, hr, hb⟩; have hk := (Blk.new w 77 pzero).below hb (by simp); have Hb := Lib.hid hb; have Hr := Lib.hid hr; clear hr hb; obtain ⟨c0, c1, c2, c3, c4, c5⟩ := pzero_cells hk; obtain ⟨f0, f1, f2, f3, f4, f5⟩ := six_frozen hk; have HK := Lib.hid hk; clear hk))
  have hgg := Lib.hid (show w.heap.size + 1 ≤ g by simpa using hg)
  have hbb := ((Below.refl _ w).alloc (Nat.le_refl _) (.cells pzero 77)).trans (Hb.out.mono (by simp))
  have hbl := Lib.hid hbb
  clear hbb
  have hst := ((((((HK.out.set_ 0 (.string ⟨#[119, 115]⟩)).set_ 1 (.int .i64 477)).set_ 2 (.slice (some ⟨g, 0, none⟩) 2 2)).set_ 3 (.int .i64 0)).set_ 4 (.bool false)).set_ 5 (.nilIface))
  refine bodyPost_ret (results_cell_row rfl _ _ w.heap.size 77 (pcells 477 g) (0, 0) _ rfl hst Tryz.underlying77 rfl (proto_size.trans rfl)) rfl ?_
  exact ⟨g, rfl, Nat.le_of_succ_le hgg.out, ((((((Hr.out.far (p := ⟨w.heap.size, 0, none⟩) (by simp; have := hgg.out; omega) _).far (p := ⟨w.heap.size, 1, none⟩) (by simp; have := hgg.out; omega) _).far (p := ⟨w.heap.size, 2, none⟩) (by simp; have := hgg.out; omega) _).far (p := ⟨w.heap.size, 3, none⟩) (by simp; have := hgg.out; omega) _).far (p := ⟨w.heap.size, 4, none⟩) (by simp; have := hgg.out; omega) _).far (p := ⟨w.heap.size, 5, none⟩) (by simp; have := hgg.out; omega) _), ((((((hbl.out.setCell (by simp) _).setCell (by simp) _).setCell (by simp) _).setCell (by simp) _).setCell (by simp) _).setCell (by simp) _)⟩
end Go.Proofs.YtghddiboggdhcaaGreatDoor
