/- Protocols by their codes. -/
import Derived.Test.YthpcfnegfdcbjaaGreatDoorPb
namespace Go.Proofs.YthpcfnegfdcbjaaGreatDoor
open Go.RowKit
/-- A function, as a value. -/
def fnv (a : Nat) : Value := .func (Fn.func a) #[] #[]
/-- The cells of no protocol. -/
def pzero : Array Value := #[.string ⟨#[]⟩, .int .i64 0, .slice none 0 0, .int .i64 0, .bool false, .nilIface]
theorem pzero_cells {w : World} {g : Nat} {t : TypeId} (h : Blk w g t pzero) : w.cell? ⟨g, 0, none⟩ = some (.string ⟨#[]⟩) ∧ w.cell? ⟨g, 1, none⟩ = some (.int .i64 0) ∧ w.cell? ⟨g, 2, none⟩ = some (.slice none 0 0) ∧
    w.cell? ⟨g, 3, none⟩ = some (.int .i64 0) ∧ w.cell? ⟨g, 4, none⟩ = some (.bool false) ∧ w.cell? ⟨g, 5, none⟩ = some .nilIface := ⟨h.cell 0, h.cell 1, h.cell 2, h.cell 3, h.cell 4, h.cell 5⟩
theorem six_frozen {w : World} {g : Nat} {t : TypeId} {cs : Array Value} (h : Blk w g t cs) : w.frozen? ⟨g, 0, none⟩ = false ∧ w.frozen? ⟨g, 1, none⟩ = false ∧ w.frozen? ⟨g, 2, none⟩ = false ∧ w.frozen? ⟨g, 3, none⟩ = false ∧
    w.frozen? ⟨g, 4, none⟩ = false ∧ w.frozen? ⟨g, 5, none⟩ = false := ⟨h.frozen 0, h.frozen 1, h.frozen 2, h.frozen 3, h.frozen 4, h.frozen 5⟩
set_option maxRecDepth 100000 in
set_option maxHeartbeats 1000000 in
theorem newtr_two (a b : Nat) (w : World) : Calls Tryz.prog 166 #[.func (Fn.func a) #[] #[], .func (Fn.func b) #[] #[], .nilFunc] w fun e w' => e = .returned (.iface 185 (.agg #[fnv a, fnv b, .nilFunc])) ∧ w = w' := by
  go_enter Tryz.func166, Tryz.ntmps166
  go_wp2_with fail
  go_ret
  exact ⟨rfl, rfl⟩
set_option maxRecDepth 100000 in
set_option maxHeartbeats 1000000 in
theorem newtr_three (a b c : Nat) (w : World) : Calls Tryz.prog 166 #[.func (Fn.func a) #[] #[], .func (Fn.func b) #[] #[], .func (Fn.func c) #[] #[]] w fun e w' => e = .returned (.iface 185 (.agg #[fnv a, fnv b, fnv c])) ∧ w = w' := by
  go_enter Tryz.func166, Tryz.ntmps166
  go_wp2_with fail
  go_ret
  exact ⟨rfl, rfl⟩

set_option maxRecDepth 100000 in
set_option maxHeartbeats 1000000 in
theorem tr_IP4 (w : World) : Calls Tryz.prog 149 #[] w fun e w' => e = .returned (.iface 185 (.agg #[fnv 167, fnv 168, .nilFunc])) ∧ w = w' := by
  go_enter Tryz.func149, Tryz.ntmps149
  go_wp2_with (go_at_call 166; refine (newtr_two 167 168 _).mono ?_; rintro e w' ⟨rfl, rfl⟩)
  go_ret
  exact ⟨rfl, rfl⟩

set_option maxRecDepth 100000 in
set_option maxHeartbeats 1000000 in
theorem tr_IP6 (w : World) : Calls Tryz.prog 152 #[] w fun e w' => e = .returned (.iface 185 (.agg #[fnv 174, fnv 175, .nilFunc])) ∧ w = w' := by
  go_enter Tryz.func152, Tryz.ntmps152
  go_wp2_with (go_at_call 166; refine (newtr_two 174 175 _).mono ?_; rintro e w' ⟨rfl, rfl⟩)
  go_ret
  exact ⟨rfl, rfl⟩

set_option maxRecDepth 100000 in
set_option maxHeartbeats 1000000 in
theorem tr_Port (w : World) : Calls Tryz.prog 150 #[] w fun e w' => e = .returned (.iface 185 (.agg #[fnv 169, fnv 170, .nilFunc])) ∧ w = w' := by
  go_enter Tryz.func150, Tryz.ntmps150
  go_wp2_with (go_at_call 166; refine (newtr_two 169 170 _).mono ?_; rintro e w' ⟨rfl, rfl⟩)
  go_ret
  exact ⟨rfl, rfl⟩

set_option maxRecDepth 100000 in
set_option maxHeartbeats 1000000 in
theorem tr_P2P (w : World) : Calls Tryz.prog 161 #[] w fun e w' => e = .returned (.iface 185 (.agg #[fnv 200, fnv 201, fnv 202])) ∧ w = w' := by
  go_enter Tryz.func161, Tryz.ntmps161
  go_wp2_with (go_at_call 166; refine (newtr_three 200 201 202 _).mono ?_; rintro e w' ⟨rfl, rfl⟩)
  go_ret
  exact ⟨rfl, rfl⟩

/-- What is known of a protocol: name, varint, size, transcoder. -/
structure Proto where
  name : List UInt8
  vc : List UInt8
  size : Int
  tc : Value
def protoOf : Nat → Proto
  | 4 => ⟨[105, 112, 52], [4], 32, .iface 185 (.agg #[fnv 167, fnv 168, .nilFunc])⟩
  | 6 => ⟨[116, 99, 112], [6], 16, .iface 185 (.agg #[fnv 169, fnv 170, .nilFunc])⟩
  | 41 => ⟨[105, 112, 54], [41], 128, .iface 185 (.agg #[fnv 174, fnv 175, .nilFunc])⟩
  | 273 => ⟨[117, 100, 112], [145, 2], 16, .iface 185 (.agg #[fnv 169, fnv 170, .nilFunc])⟩
  | 290 => ⟨[112, 50, 112, 45, 99, 105, 114, 99, 117, 105, 116], [162, 2], 0, .nilIface⟩
  | 421 => ⟨[112, 50, 112], [165, 3], -1, .iface 185 (.agg #[fnv 200, fnv 201, fnv 202])⟩
  | 461 => ⟨[113, 117, 105, 99, 45, 118, 49], [205, 3], 0, .nilIface⟩
  | 477 => ⟨[119, 115], [221, 3], 0, .nilIface⟩
  | _ => ⟨[], [], 0, .nilIface⟩
/-- The cells of a protocol. -/
def pcells (k g : Nat) : Array Value := #[.string ⟨(protoOf k).name.toArray⟩, .int .i64 k, .slice (some ⟨g, 0, none⟩) (protoOf k).vc.length (protoOf k).vc.length, .int .i64 (protoOf k).size, .bool false, (protoOf k).tc]
def OutP (k : Nat) (w : World) (e : Ending) (w' : World) : Prop :=
  ∃ g, e = .returned (.agg (pcells k g)) ∧ w.heap.size ≤ g ∧ Blk w' g 5 (bv (protoOf k).vc).toArray ∧ Below w.heap.size w w'
theorem proto_size : (Tryz.prog.info? 99).map (·.size) = some 6 := by kernel_rfl

set_option maxRecDepth 100000 in
set_option maxHeartbeats 1000000 in
theorem proto_4 (w : World) : Calls Tryz.prog 106 #[] w (OutP 4 w) := by
  go_enter Tryz.func106, Tryz.ntmps106
  go_wp2_with (first
    | (go_at_call 148; refine (code_4 _).mono ?_; rintro e w1 ⟨g, rfl, hg, hr, hb⟩; have hk := (Blk.new w 99 pzero).below hb (by simp); have Hb := Lib.hid hb; have Hr := Lib.hid hr; clear hr hb; obtain ⟨c0, c1, c2, c3, c4, c5⟩ := pzero_cells hk; obtain ⟨f0, f1, f2, f3, f4, f5⟩ := six_frozen hk; have HK := Lib.hid hk; clear hk)
    | (go_at_call 149; refine (tr_IP4 _).mono ?_; rintro e w2 ⟨rfl, rfl⟩))
  have hgg := Lib.hid (show w.heap.size + 1 ≤ g by simpa using hg)
  have hbb := ((Below.refl _ w).alloc (Nat.le_refl _) (.cells pzero 99)).trans (Hb.out.mono (by simp))
  have hbl := Lib.hid hbb
  clear hbb
  have hst := ((((((HK.out.set_ 0 (.string ⟨#[105, 112, 52]⟩)).set_ 1 (.int .i64 4)).set_ 2 (.slice (some ⟨g, 0, none⟩) 1 1)).set_ 3 (.int .i64 32)).set_ 4 (.bool false)).set_ 5 (.iface 185 (.agg #[fnv 167, fnv 168, .nilFunc])))
  refine bodyPost_ret (results_cell_row rfl _ _ w.heap.size 99 (pcells 4 g) (0, 0) _ rfl hst Tryz.underlying99 rfl (proto_size.trans rfl)) rfl ?_
  exact ⟨g, rfl, Nat.le_of_succ_le hgg.out, ((((((Hr.out.far (p := ⟨w.heap.size, 0, none⟩) (by simp; have := hgg.out; omega) _).far (p := ⟨w.heap.size, 1, none⟩) (by simp; have := hgg.out; omega) _).far (p := ⟨w.heap.size, 2, none⟩) (by simp; have := hgg.out; omega) _).far (p := ⟨w.heap.size, 3, none⟩) (by simp; have := hgg.out; omega) _).far (p := ⟨w.heap.size, 4, none⟩) (by simp; have := hgg.out; omega) _).far (p := ⟨w.heap.size, 5, none⟩) (by simp; have := hgg.out; omega) _), ((((((hbl.out.setCell (by simp) _).setCell (by simp) _).setCell (by simp) _).setCell (by simp) _).setCell (by simp) _).setCell (by simp) _)⟩

set_option maxRecDepth 100000 in
set_option maxHeartbeats 1000000 in
theorem proto_6 (w : World) : Calls Tryz.prog 107 #[] w (OutP 6 w) := by
  go_enter Tryz.func107, Tryz.ntmps107
  go_wp2_with (first
    | (go_at_call 148; refine (code_6 _).mono ?_; rintro e w1 ⟨g, rfl, hg, hr, hb⟩; have hk := (Blk.new w 99 pzero).below hb (by simp); have Hb := Lib.hid hb; have Hr := Lib.hid hr; clear hr hb; obtain ⟨c0, c1, c2, c3, c4, c5⟩ := pzero_cells hk; obtain ⟨f0, f1, f2, f3, f4, f5⟩ := six_frozen hk; have HK := Lib.hid hk; clear hk)
    | (go_at_call 150; refine (tr_Port _).mono ?_; rintro e w2 ⟨rfl, rfl⟩))
  have hgg := Lib.hid (show w.heap.size + 1 ≤ g by simpa using hg)
  have hbb := ((Below.refl _ w).alloc (Nat.le_refl _) (.cells pzero 99)).trans (Hb.out.mono (by simp))
  have hbl := Lib.hid hbb
  clear hbb
  have hst := ((((((HK.out.set_ 0 (.string ⟨#[116, 99, 112]⟩)).set_ 1 (.int .i64 6)).set_ 2 (.slice (some ⟨g, 0, none⟩) 1 1)).set_ 3 (.int .i64 16)).set_ 4 (.bool false)).set_ 5 (.iface 185 (.agg #[fnv 169, fnv 170, .nilFunc])))
  refine bodyPost_ret (results_cell_row rfl _ _ w.heap.size 99 (pcells 6 g) (0, 0) _ rfl hst Tryz.underlying99 rfl (proto_size.trans rfl)) rfl ?_
  exact ⟨g, rfl, Nat.le_of_succ_le hgg.out, ((((((Hr.out.far (p := ⟨w.heap.size, 0, none⟩) (by simp; have := hgg.out; omega) _).far (p := ⟨w.heap.size, 1, none⟩) (by simp; have := hgg.out; omega) _).far (p := ⟨w.heap.size, 2, none⟩) (by simp; have := hgg.out; omega) _).far (p := ⟨w.heap.size, 3, none⟩) (by simp; have := hgg.out; omega) _).far (p := ⟨w.heap.size, 4, none⟩) (by simp; have := hgg.out; omega) _).far (p := ⟨w.heap.size, 5, none⟩) (by simp; have := hgg.out; omega) _), ((((((hbl.out.setCell (by simp) _).setCell (by simp) _).setCell (by simp) _).setCell (by simp) _).setCell (by simp) _).setCell (by simp) _)⟩

set_option maxRecDepth 100000 in
set_option maxHeartbeats 1000000 in
theorem proto_41 (w : World) : Calls Tryz.prog 114 #[] w (OutP 41 w) := by
  go_enter Tryz.func114, Tryz.ntmps114
  go_wp2_with (first
    | (go_at_call 148; refine (code_41 _).mono ?_; rintro e w1 ⟨g, rfl, hg, hr, hb⟩; have hk := (Blk.new w 99 pzero).below hb (by simp); have Hb := Lib.hid hb; have Hr := Lib.hid hr; clear hr hb; obtain ⟨c0, c1, c2, c3, c4, c5⟩ := pzero_cells hk; obtain ⟨f0, f1, f2, f3, f4, f5⟩ := six_frozen hk; have HK := Lib.hid hk; clear hk)
    | (go_at_call 152; refine (tr_IP6 _).mono ?_; rintro e w2 ⟨rfl, rfl⟩))
  have hgg := Lib.hid (show w.heap.size + 1 ≤ g by simpa using hg)
  have hbb := ((Below.refl _ w).alloc (Nat.le_refl _) (.cells pzero 99)).trans (Hb.out.mono (by simp))
  have hbl := Lib.hid hbb
  clear hbb
  have hst := ((((((HK.out.set_ 0 (.string ⟨#[105, 112, 54]⟩)).set_ 1 (.int .i64 41)).set_ 2 (.slice (some ⟨g, 0, none⟩) 1 1)).set_ 3 (.int .i64 128)).set_ 4 (.bool false)).set_ 5 (.iface 185 (.agg #[fnv 174, fnv 175, .nilFunc])))
  refine bodyPost_ret (results_cell_row rfl _ _ w.heap.size 99 (pcells 41 g) (0, 0) _ rfl hst Tryz.underlying99 rfl (proto_size.trans rfl)) rfl ?_
  exact ⟨g, rfl, Nat.le_of_succ_le hgg.out, ((((((Hr.out.far (p := ⟨w.heap.size, 0, none⟩) (by simp; have := hgg.out; omega) _).far (p := ⟨w.heap.size, 1, none⟩) (by simp; have := hgg.out; omega) _).far (p := ⟨w.heap.size, 2, none⟩) (by simp; have := hgg.out; omega) _).far (p := ⟨w.heap.size, 3, none⟩) (by simp; have := hgg.out; omega) _).far (p := ⟨w.heap.size, 4, none⟩) (by simp; have := hgg.out; omega) _).far (p := ⟨w.heap.size, 5, none⟩) (by simp; have := hgg.out; omega) _), ((((((hbl.out.setCell (by simp) _).setCell (by simp) _).setCell (by simp) _).setCell (by simp) _).setCell (by simp) _).setCell (by simp) _)⟩

set_option maxRecDepth 100000 in
set_option maxHeartbeats 1000000 in
theorem proto_273 (w : World) : Calls Tryz.prog 112 #[] w (OutP 273 w) := by
  go_enter Tryz.func112, Tryz.ntmps112
  go_wp2_with (first
    | (go_at_call 148; refine (code_273 _).mono ?_; rintro e w1 ⟨g, rfl, hg, hr, hb⟩; have hk := (Blk.new w 99 pzero).below hb (by simp); have Hb := Lib.hid hb; have Hr := Lib.hid hr; clear hr hb; obtain ⟨c0, c1, c2, c3, c4, c5⟩ := pzero_cells hk; obtain ⟨f0, f1, f2, f3, f4, f5⟩ := six_frozen hk; have HK := Lib.hid hk; clear hk)
    | (go_at_call 150; refine (tr_Port _).mono ?_; rintro e w2 ⟨rfl, rfl⟩))
  have hgg := Lib.hid (show w.heap.size + 1 ≤ g by simpa using hg)
  have hbb := ((Below.refl _ w).alloc (Nat.le_refl _) (.cells pzero 99)).trans (Hb.out.mono (by simp))
  have hbl := Lib.hid hbb
  clear hbb
  have hst := ((((((HK.out.set_ 0 (.string ⟨#[117, 100, 112]⟩)).set_ 1 (.int .i64 273)).set_ 2 (.slice (some ⟨g, 0, none⟩) 2 2)).set_ 3 (.int .i64 16)).set_ 4 (.bool false)).set_ 5 (.iface 185 (.agg #[fnv 169, fnv 170, .nilFunc])))
  refine bodyPost_ret (results_cell_row rfl _ _ w.heap.size 99 (pcells 273 g) (0, 0) _ rfl hst Tryz.underlying99 rfl (proto_size.trans rfl)) rfl ?_
  exact ⟨g, rfl, Nat.le_of_succ_le hgg.out, ((((((Hr.out.far (p := ⟨w.heap.size, 0, none⟩) (by simp; have := hgg.out; omega) _).far (p := ⟨w.heap.size, 1, none⟩) (by simp; have := hgg.out; omega) _).far (p := ⟨w.heap.size, 2, none⟩) (by simp; have := hgg.out; omega) _).far (p := ⟨w.heap.size, 3, none⟩) (by simp; have := hgg.out; omega) _).far (p := ⟨w.heap.size, 4, none⟩) (by simp; have := hgg.out; omega) _).far (p := ⟨w.heap.size, 5, none⟩) (by simp; have := hgg.out; omega) _), ((((((hbl.out.setCell (by simp) _).setCell (by simp) _).setCell (by simp) _).setCell (by simp) _).setCell (by simp) _).setCell (by simp) _)⟩

set_option maxRecDepth 100000 in
set_option maxHeartbeats 1000000 in
theorem proto_290 (w : World) : Calls Tryz.prog 118 #[] w (OutP 290 w) := by
  go_enter Tryz.func118, Tryz.ntmps118
  go_wp2_with (first
    | (go_at_call 148; refine (code_290 _).mono ?_; rintro e w1 ⟨g, rfl, hg, hr, hb⟩; have hk := (Blk.new w 99 pzero).below hb (by simp); have Hb := Lib.hid hb; have Hr := Lib.hid hr; clear hr hb; obtain ⟨c0, c1, c2, c3, c4, c5⟩ := pzero_cells hk; obtain ⟨f0, f1, f2, f3, f4, f5⟩ := six_frozen hk; have HK := Lib.hid hk; clear hk))
  have hgg := Lib.hid (show w.heap.size + 1 ≤ g by simpa using hg)
  have hbb := ((Below.refl _ w).alloc (Nat.le_refl _) (.cells pzero 99)).trans (Hb.out.mono (by simp))
  have hbl := Lib.hid hbb
  clear hbb
  have hst := ((((((HK.out.set_ 0 (.string ⟨#[112, 50, 112, 45, 99, 105, 114, 99, 117, 105, 116]⟩)).set_ 1 (.int .i64 290)).set_ 2 (.slice (some ⟨g, 0, none⟩) 2 2)).set_ 3 (.int .i64 0)).set_ 4 (.bool false)).set_ 5 (.nilIface))
  refine bodyPost_ret (results_cell_row rfl _ _ w.heap.size 99 (pcells 290 g) (0, 0) _ rfl hst Tryz.underlying99 rfl (proto_size.trans rfl)) rfl ?_
  exact ⟨g, rfl, Nat.le_of_succ_le hgg.out, ((((((Hr.out.far (p := ⟨w.heap.size, 0, none⟩) (by simp; have := hgg.out; omega) _).far (p := ⟨w.heap.size, 1, none⟩) (by simp; have := hgg.out; omega) _).far (p := ⟨w.heap.size, 2, none⟩) (by simp; have := hgg.out; omega) _).far (p := ⟨w.heap.size, 3, none⟩) (by simp; have := hgg.out; omega) _).far (p := ⟨w.heap.size, 4, none⟩) (by simp; have := hgg.out; omega) _).far (p := ⟨w.heap.size, 5, none⟩) (by simp; have := hgg.out; omega) _), ((((((hbl.out.setCell (by simp) _).setCell (by simp) _).setCell (by simp) _).setCell (by simp) _).setCell (by simp) _).setCell (by simp) _)⟩

set_option maxRecDepth 100000 in
set_option maxHeartbeats 1000000 in
theorem proto_421 (w : World) : Calls Tryz.prog 132 #[] w (OutP 421 w) := by
  go_enter Tryz.func132, Tryz.ntmps132
  go_wp2_with (first
    | (go_at_call 148; refine (code_421 _).mono ?_; rintro e w1 ⟨g, rfl, hg, hr, hb⟩; have hk := (Blk.new w 99 pzero).below hb (by simp); have Hb := Lib.hid hb; have Hr := Lib.hid hr; clear hr hb; obtain ⟨c0, c1, c2, c3, c4, c5⟩ := pzero_cells hk; obtain ⟨f0, f1, f2, f3, f4, f5⟩ := six_frozen hk; have HK := Lib.hid hk; clear hk)
    | (go_at_call 161; refine (tr_P2P _).mono ?_; rintro e w2 ⟨rfl, rfl⟩))
  have hgg := Lib.hid (show w.heap.size + 1 ≤ g by simpa using hg)
  have hbb := ((Below.refl _ w).alloc (Nat.le_refl _) (.cells pzero 99)).trans (Hb.out.mono (by simp))
  have hbl := Lib.hid hbb
  clear hbb
  have hst := ((((((HK.out.set_ 0 (.string ⟨#[112, 50, 112]⟩)).set_ 1 (.int .i64 421)).set_ 2 (.slice (some ⟨g, 0, none⟩) 2 2)).set_ 3 (.int .i64 (-1))).set_ 4 (.bool false)).set_ 5 (.iface 185 (.agg #[fnv 200, fnv 201, fnv 202])))
  refine bodyPost_ret (results_cell_row rfl _ _ w.heap.size 99 (pcells 421 g) (0, 0) _ rfl hst Tryz.underlying99 rfl (proto_size.trans rfl)) rfl ?_
  exact ⟨g, rfl, Nat.le_of_succ_le hgg.out, ((((((Hr.out.far (p := ⟨w.heap.size, 0, none⟩) (by simp; have := hgg.out; omega) _).far (p := ⟨w.heap.size, 1, none⟩) (by simp; have := hgg.out; omega) _).far (p := ⟨w.heap.size, 2, none⟩) (by simp; have := hgg.out; omega) _).far (p := ⟨w.heap.size, 3, none⟩) (by simp; have := hgg.out; omega) _).far (p := ⟨w.heap.size, 4, none⟩) (by simp; have := hgg.out; omega) _).far (p := ⟨w.heap.size, 5, none⟩) (by simp; have := hgg.out; omega) _), ((((((hbl.out.setCell (by simp) _).setCell (by simp) _).setCell (by simp) _).setCell (by simp) _).setCell (by simp) _).setCell (by simp) _)⟩

set_option maxRecDepth 100000 in
set_option maxHeartbeats 1000000 in
theorem proto_461 (w : World) : Calls Tryz.prog 126 #[] w (OutP 461 w) := by
  go_enter Tryz.func126, Tryz.ntmps126
  go_wp2_with (first
    | (go_at_call 148; refine (code_461 _).mono ?_; rintro e w1 ⟨g, rfl, hg, hr, hb⟩; have hk := (Blk.new w 99 pzero).below hb (by simp); have Hb := Lib.hid hb; have Hr := Lib.hid hr; clear hr hb; obtain ⟨c0, c1, c2, c3, c4, c5⟩ := pzero_cells hk; obtain ⟨f0, f1, f2, f3, f4, f5⟩ := six_frozen hk; have HK := Lib.hid hk; clear hk))
  have hgg := Lib.hid (show w.heap.size + 1 ≤ g by simpa using hg)
  have hbb := ((Below.refl _ w).alloc (Nat.le_refl _) (.cells pzero 99)).trans (Hb.out.mono (by simp))
  have hbl := Lib.hid hbb
  clear hbb
  have hst := ((((((HK.out.set_ 0 (.string ⟨#[113, 117, 105, 99, 45, 118, 49]⟩)).set_ 1 (.int .i64 461)).set_ 2 (.slice (some ⟨g, 0, none⟩) 2 2)).set_ 3 (.int .i64 0)).set_ 4 (.bool false)).set_ 5 (.nilIface))
  refine bodyPost_ret (results_cell_row rfl _ _ w.heap.size 99 (pcells 461 g) (0, 0) _ rfl hst Tryz.underlying99 rfl (proto_size.trans rfl)) rfl ?_
  exact ⟨g, rfl, Nat.le_of_succ_le hgg.out, ((((((Hr.out.far (p := ⟨w.heap.size, 0, none⟩) (by simp; have := hgg.out; omega) _).far (p := ⟨w.heap.size, 1, none⟩) (by simp; have := hgg.out; omega) _).far (p := ⟨w.heap.size, 2, none⟩) (by simp; have := hgg.out; omega) _).far (p := ⟨w.heap.size, 3, none⟩) (by simp; have := hgg.out; omega) _).far (p := ⟨w.heap.size, 4, none⟩) (by simp; have := hgg.out; omega) _).far (p := ⟨w.heap.size, 5, none⟩) (by simp; have := hgg.out; omega) _), ((((((hbl.out.setCell (by simp) _).setCell (by simp) _).setCell (by simp) _).setCell (by simp) _).setCell (by simp) _).setCell (by simp) _)⟩

set_option maxRecDepth 100000 in
set_option maxHeartbeats 1000000 in
theorem proto_477 (w : World) : Calls Tryz.prog 138 #[] w (OutP 477 w) := by
  go_enter Tryz.func138, Tryz.ntmps138
  go_wp2_with (first
    | (go_at_call 148; refine (code_477 _).mono ?_; rintro e w1 ⟨g, rfl, hg, hr, hb⟩; have hk := (Blk.new w 99 pzero).below hb (by simp); have Hb := Lib.hid hb; have Hr := Lib.hid hr; clear hr hb; obtain ⟨c0, c1, c2, c3, c4, c5⟩ := pzero_cells hk; obtain ⟨f0, f1, f2, f3, f4, f5⟩ := six_frozen hk; have HK := Lib.hid hk; clear hk))
  have hgg := Lib.hid (show w.heap.size + 1 ≤ g by simpa using hg)
  have hbb := ((Below.refl _ w).alloc (Nat.le_refl _) (.cells pzero 99)).trans (Hb.out.mono (by simp))
  have hbl := Lib.hid hbb
  clear hbb
  have hst := ((((((HK.out.set_ 0 (.string ⟨#[119, 115]⟩)).set_ 1 (.int .i64 477)).set_ 2 (.slice (some ⟨g, 0, none⟩) 2 2)).set_ 3 (.int .i64 0)).set_ 4 (.bool false)).set_ 5 (.nilIface))
  refine bodyPost_ret (results_cell_row rfl _ _ w.heap.size 99 (pcells 477 g) (0, 0) _ rfl hst Tryz.underlying99 rfl (proto_size.trans rfl)) rfl ?_
  exact ⟨g, rfl, Nat.le_of_succ_le hgg.out, ((((((Hr.out.far (p := ⟨w.heap.size, 0, none⟩) (by simp; have := hgg.out; omega) _).far (p := ⟨w.heap.size, 1, none⟩) (by simp; have := hgg.out; omega) _).far (p := ⟨w.heap.size, 2, none⟩) (by simp; have := hgg.out; omega) _).far (p := ⟨w.heap.size, 3, none⟩) (by simp; have := hgg.out; omega) _).far (p := ⟨w.heap.size, 4, none⟩) (by simp; have := hgg.out; omega) _).far (p := ⟨w.heap.size, 5, none⟩) (by simp; have := hgg.out; omega) _), ((((((hbl.out.setCell (by simp) _).setCell (by simp) _).setCell (by simp) _).setCell (by simp) _).setCell (by simp) _).setCell (by simp) _)⟩
end Go.Proofs.YthpcfnegfdcbjaaGreatDoor
