/- All protocols by their codes. -/
import Derived.Test.YtghddiboggdhcaaGreatDoorVb1
import Derived.Test.YtghddiboggdhcaaGreatDoorVb2
import Derived.Test.YtghddiboggdhcaaGreatDoorPg
set_option maxRecDepth 100000
set_option maxHeartbeats 1000000
namespace Go.Proofs.YtghddiboggdhcaaGreatDoor
open Go.RowKit
theorem tr_IP6Zone (w : World) : Calls Tryz.prog 114 #[] w fun e w' => e = .returned (.iface 147 (.agg #[fnv 136, fnv 137, fnv 138])) ∧ w = w' := by
  go_enter Tryz.func114, Tryz.ntmps114
  go_wp2_with (go_at_call 126; refine (newtr_three 136 137 138 _).mono ?_; rintro e w' ⟨rfl, rfl⟩)
  go_ret
  exact ⟨rfl, rfl⟩
theorem tr_IPCIDR (w : World) : Calls Tryz.prog 115 #[] w fun e w' => e = .returned (.iface 147 (.agg #[fnv 139, fnv 140, fnv 141])) ∧ w = w' := by
  go_enter Tryz.func115, Tryz.ntmps115
  go_wp2_with (go_at_call 126; refine (newtr_three 139 140 141 _).mono ?_; rintro e w' ⟨rfl, rfl⟩)
  go_ret
  exact ⟨rfl, rfl⟩
theorem tr_Onion (w : World) : Calls Tryz.prog 116 #[] w fun e w' => e = .returned (.iface 147 (.agg #[fnv 142, fnv 143, fnv 144])) ∧ w = w' := by
  go_enter Tryz.func116, Tryz.ntmps116
  go_wp2_with (go_at_call 126; refine (newtr_three 142 143 144 _).mono ?_; rintro e w' ⟨rfl, rfl⟩)
  go_ret
  exact ⟨rfl, rfl⟩
theorem tr_Onion3 (w : World) : Calls Tryz.prog 117 #[] w fun e w' => e = .returned (.iface 147 (.agg #[fnv 145, fnv 146, fnv 147])) ∧ w = w' := by
  go_enter Tryz.func117, Tryz.ntmps117
  go_wp2_with (go_at_call 126; refine (newtr_three 145 146 147 _).mono ?_; rintro e w' ⟨rfl, rfl⟩)
  go_ret
  exact ⟨rfl, rfl⟩
theorem tr_Garlic64 (w : World) : Calls Tryz.prog 118 #[] w fun e w' => e = .returned (.iface 147 (.agg #[fnv 148, fnv 149, fnv 150])) ∧ w = w' := by
  go_enter Tryz.func118, Tryz.ntmps118
  go_wp2_with (go_at_call 126; refine (newtr_three 148 149 150 _).mono ?_; rintro e w' ⟨rfl, rfl⟩)
  go_ret
  exact ⟨rfl, rfl⟩
theorem tr_Garlic32 (w : World) : Calls Tryz.prog 119 #[] w fun e w' => e = .returned (.iface 147 (.agg #[fnv 151, fnv 152, fnv 153])) ∧ w = w' := by
  go_enter Tryz.func119, Tryz.ntmps119
  go_wp2_with (go_at_call 126; refine (newtr_three 151 152 153 _).mono ?_; rintro e w' ⟨rfl, rfl⟩)
  go_ret
  exact ⟨rfl, rfl⟩
theorem tr_Unix (w : World) : Calls Tryz.prog 123 #[] w fun e w' => e = .returned (.iface 147 (.agg #[fnv 163, fnv 164, fnv 165])) ∧ w = w' := by
  go_enter Tryz.func123, Tryz.ntmps123
  go_wp2_with (go_at_call 126; refine (newtr_three 163 164 165 _).mono ?_; rintro e w' ⟨rfl, rfl⟩)
  go_ret
  exact ⟨rfl, rfl⟩
theorem tr_Dns (w : World) : Calls Tryz.prog 112 #[] w fun e w' => e = .returned (.iface 147 (.agg #[fnv 131, fnv 132, fnv 133])) ∧ w = w' := by
  go_enter Tryz.func112, Tryz.ntmps112
  go_wp2_with (go_at_call 126; refine (newtr_three 131 132 133 _).mono ?_; rintro e w' ⟨rfl, rfl⟩)
  go_ret
  exact ⟨rfl, rfl⟩
theorem tr_CertHash (w : World) : Calls Tryz.prog 120 #[] w fun e w' => e = .returned (.iface 147 (.agg #[fnv 154, fnv 155, fnv 156])) ∧ w = w' := by
  go_enter Tryz.func120, Tryz.ntmps120
  go_wp2_with (go_at_call 126; refine (newtr_three 154 155 156 _).mono ?_; rintro e w' ⟨rfl, rfl⟩)
  go_ret
  exact ⟨rfl, rfl⟩
theorem tr_HTTPPath (w : World) : Calls Tryz.prog 121 #[] w fun e w' => e = .returned (.iface 147 (.agg #[fnv 157, fnv 158, fnv 159])) ∧ w = w' := by
  go_enter Tryz.func121, Tryz.ntmps121
  go_wp2_with (go_at_call 126; refine (newtr_three 157 158 159 _).mono ?_; rintro e w' ⟨rfl, rfl⟩)
  go_ret
  exact ⟨rfl, rfl⟩
theorem tr_Memory (w : World) : Calls Tryz.prog 124 #[] w fun e w' => e = .returned (.iface 147 (.agg #[fnv 166, fnv 167, fnv 168])) ∧ w = w' := by
  go_enter Tryz.func124, Tryz.ntmps124
  go_wp2_with (go_at_call 126; refine (newtr_three 166 167 168 _).mono ?_; rintro e w' ⟨rfl, rfl⟩)
  go_ret
  exact ⟨rfl, rfl⟩
structure ProtoX where
  name : List UInt8
  vc : List UInt8
  size : Int
  path : Bool
  tc : Value
def protoX : Nat → Option ProtoX
  | 4 => some ⟨[105, 112, 52], [4], 32, false, .iface 147 (.agg #[fnv 127, fnv 128, .nilFunc])⟩
  | 6 => some ⟨[116, 99, 112], [6], 16, false, .iface 147 (.agg #[fnv 129, fnv 130, .nilFunc])⟩
  | 33 => some ⟨[100, 99, 99, 112], [33], 16, false, .iface 147 (.agg #[fnv 129, fnv 130, .nilFunc])⟩
  | 41 => some ⟨[105, 112, 54], [41], 128, false, .iface 147 (.agg #[fnv 134, fnv 135, .nilFunc])⟩
  | 42 => some ⟨[105, 112, 54, 122, 111, 110, 101], [42], -1, false, .iface 147 (.agg #[fnv 136, fnv 137, fnv 138])⟩
  | 43 => some ⟨[105, 112, 99, 105, 100, 114], [43], 8, false, .iface 147 (.agg #[fnv 139, fnv 140, fnv 141])⟩
  | 53 => some ⟨[100, 110, 115], [53], -1, false, .iface 147 (.agg #[fnv 131, fnv 132, fnv 133])⟩
  | 54 => some ⟨[100, 110, 115, 52], [54], -1, false, .iface 147 (.agg #[fnv 131, fnv 132, fnv 133])⟩
  | 55 => some ⟨[100, 110, 115, 54], [55], -1, false, .iface 147 (.agg #[fnv 131, fnv 132, fnv 133])⟩
  | 56 => some ⟨[100, 110, 115, 97, 100, 100, 114], [56], -1, false, .iface 147 (.agg #[fnv 131, fnv 132, fnv 133])⟩
  | 132 => some ⟨[115, 99, 116, 112], [132, 1], 16, false, .iface 147 (.agg #[fnv 129, fnv 130, .nilFunc])⟩
  | 273 => some ⟨[117, 100, 112], [145, 2], 16, false, .iface 147 (.agg #[fnv 129, fnv 130, .nilFunc])⟩
  | 276 => some ⟨[112, 50, 112, 45, 119, 101, 98, 114, 116, 99, 45, 100, 105, 114, 101, 99, 116], [148, 2], 0, false, .nilIface⟩
  | 280 => some ⟨[119, 101, 98, 114, 116, 99, 45, 100, 105, 114, 101, 99, 116], [152, 2], 0, false, .nilIface⟩
  | 281 => some ⟨[119, 101, 98, 114, 116, 99], [153, 2], 0, false, .nilIface⟩
  | 290 => some ⟨[112, 50, 112, 45, 99, 105, 114, 99, 117, 105, 116], [162, 2], 0, false, .nilIface⟩
  | 301 => some ⟨[117, 100, 116], [173, 2], 0, false, .nilIface⟩
  | 302 => some ⟨[117, 116, 112], [174, 2], 0, false, .nilIface⟩
  | 400 => some ⟨[117, 110, 105, 120], [144, 3], -1, true, .iface 147 (.agg #[fnv 163, fnv 164, fnv 165])⟩
  | 421 => some ⟨[112, 50, 112], [165, 3], -1, false, .iface 147 (.agg #[fnv 160, fnv 161, fnv 162])⟩
  | 443 => some ⟨[104, 116, 116, 112, 115], [187, 3], 0, false, .nilIface⟩
  | 444 => some ⟨[111, 110, 105, 111, 110], [188, 3], 96, false, .iface 147 (.agg #[fnv 142, fnv 143, fnv 144])⟩
  | 445 => some ⟨[111, 110, 105, 111, 110, 51], [189, 3], 296, false, .iface 147 (.agg #[fnv 145, fnv 146, fnv 147])⟩
  | 446 => some ⟨[103, 97, 114, 108, 105, 99, 54, 52], [190, 3], -1, false, .iface 147 (.agg #[fnv 148, fnv 149, fnv 150])⟩
  | 447 => some ⟨[103, 97, 114, 108, 105, 99, 51, 50], [191, 3], -1, false, .iface 147 (.agg #[fnv 151, fnv 152, fnv 153])⟩
  | 448 => some ⟨[116, 108, 115], [192, 3], 0, false, .nilIface⟩
  | 449 => some ⟨[115, 110, 105], [193, 3], -1, false, .iface 147 (.agg #[fnv 131, fnv 132, fnv 133])⟩
  | 454 => some ⟨[110, 111, 105, 115, 101], [198, 3], 0, false, .nilIface⟩
  | 460 => some ⟨[113, 117, 105, 99], [204, 3], 0, false, .nilIface⟩
  | 461 => some ⟨[113, 117, 105, 99, 45, 118, 49], [205, 3], 0, false, .nilIface⟩
  | 465 => some ⟨[119, 101, 98, 116, 114, 97, 110, 115, 112, 111, 114, 116], [209, 3], 0, false, .nilIface⟩
  | 466 => some ⟨[99, 101, 114, 116, 104, 97, 115, 104], [210, 3], -1, false, .iface 147 (.agg #[fnv 154, fnv 155, fnv 156])⟩
  | 477 => some ⟨[119, 115], [221, 3], 0, false, .nilIface⟩
  | 478 => some ⟨[119, 115, 115], [222, 3], 0, false, .nilIface⟩
  | 480 => some ⟨[104, 116, 116, 112], [224, 3], 0, false, .nilIface⟩
  | 481 => some ⟨[104, 116, 116, 112, 45, 112, 97, 116, 104], [225, 3], -1, false, .iface 147 (.agg #[fnv 157, fnv 158, fnv 159])⟩
  | 777 => some ⟨[109, 101, 109, 111, 114, 121], [137, 6], 64, false, .iface 147 (.agg #[fnv 166, fnv 167, fnv 168])⟩
  | 7367777 => some ⟨[112, 108, 97, 105, 110, 116, 101, 120, 116, 118, 50], [225, 216, 193, 3], 0, false, .nilIface⟩
  | _ => none
def xcells (X : ProtoX) (k g : Nat) : Array Value := #[.string ⟨X.name.toArray⟩, .int .i64 k, .slice (some ⟨g, 0, none⟩) X.vc.length X.vc.length, .int .i64 X.size, .bool X.path, X.tc]
def OutX (X : ProtoX) (k : Nat) (w : World) (e : Ending) (w' : World) : Prop :=
  ∃ g, e = .returned (.agg (xcells X k g)) ∧ w.heap.size ≤ g ∧ Blk w' g 5 (bv X.vc).toArray ∧ Below w.heap.size w w'
def x4 : ProtoX := ⟨[105, 112, 52], [4], 32, false, .iface 147 (.agg #[fnv 127, fnv 128, .nilFunc])⟩
def x6 : ProtoX := ⟨[116, 99, 112], [6], 16, false, .iface 147 (.agg #[fnv 129, fnv 130, .nilFunc])⟩
def x33 : ProtoX := ⟨[100, 99, 99, 112], [33], 16, false, .iface 147 (.agg #[fnv 129, fnv 130, .nilFunc])⟩
theorem px_33 (w : World) : Calls Tryz.prog 78 #[] w (OutX x33 33 w) := by
  go_enter Tryz.func78, Tryz.ntmps78
  go_wp2_with (first
    | (go_at_call 109; refine (code_33 _).mono ?_; rintro e w1 ⟨g, rfl, hg, hr, hb⟩; have hk := (Blk.new w 77 pzero).below hb (by simp); have Hb := Lib.hid hb; have Hr := Lib.hid hr; clear hr hb; obtain ⟨c0, c1, c2, c3, c4, c5⟩ := pzero_cells hk; obtain ⟨f0, f1, f2, f3, f4, f5⟩ := six_frozen hk; have HK := Lib.hid hk; clear hk)
    | (go_at_call 111; refine (tr_Port _).mono ?_; rintro e w2 ⟨rfl, rfl⟩))
  have hgg := Lib.hid (show w.heap.size + 1 ≤ g by simpa using hg)
  have hbb := ((Below.refl _ w).alloc (Nat.le_refl _) (.cells pzero 77)).trans (Hb.out.mono (by simp))
  have hbl := Lib.hid hbb
  clear hbb
  have hst := ((((((HK.out.set_ 0 (.string ⟨#[100, 99, 99, 112]⟩)).set_ 1 (.int .i64 33)).set_ 2 (.slice (some ⟨g, 0, none⟩) 1 1)).set_ 3 (.int .i64 16)).set_ 4 (.bool false)).set_ 5 (.iface 147 (.agg #[fnv 129, fnv 130, .nilFunc])))
  refine bodyPost_ret (results_cell_row rfl _ _ w.heap.size 77 (xcells x33 33 g) (0, 0) _ rfl hst Tryz.underlying77 rfl (proto_size.trans rfl)) rfl ?_
  exact ⟨g, rfl, Nat.le_of_succ_le hgg.out, ((((((Hr.out.far (p := ⟨w.heap.size, 0, none⟩) (by simp; have := hgg.out; omega) _).far (p := ⟨w.heap.size, 1, none⟩) (by simp; have := hgg.out; omega) _).far (p := ⟨w.heap.size, 2, none⟩) (by simp; have := hgg.out; omega) _).far (p := ⟨w.heap.size, 3, none⟩) (by simp; have := hgg.out; omega) _).far (p := ⟨w.heap.size, 4, none⟩) (by simp; have := hgg.out; omega) _).far (p := ⟨w.heap.size, 5, none⟩) (by simp; have := hgg.out; omega) _), ((((((hbl.out.setCell (by simp) _).setCell (by simp) _).setCell (by simp) _).setCell (by simp) _).setCell (by simp) _).setCell (by simp) _)⟩
def x41 : ProtoX := ⟨[105, 112, 54], [41], 128, false, .iface 147 (.agg #[fnv 134, fnv 135, .nilFunc])⟩
def x42 : ProtoX := ⟨[105, 112, 54, 122, 111, 110, 101], [42], -1, false, .iface 147 (.agg #[fnv 136, fnv 137, fnv 138])⟩
theorem px_42 (w : World) : Calls Tryz.prog 80 #[] w (OutX x42 42 w) := by
  go_enter Tryz.func80, Tryz.ntmps80
  go_wp2_with (first
    | (go_at_call 109; refine (code_42 _).mono ?_; rintro e w1 ⟨g, rfl, hg, hr, hb⟩; have hk := (Blk.new w 77 pzero).below hb (by simp); have Hb := Lib.hid hb; have Hr := Lib.hid hr; clear hr hb; obtain ⟨c0, c1, c2, c3, c4, c5⟩ := pzero_cells hk; obtain ⟨f0, f1, f2, f3, f4, f5⟩ := six_frozen hk; have HK := Lib.hid hk; clear hk)
    | (go_at_call 114; refine (tr_IP6Zone _).mono ?_; rintro e w2 ⟨rfl, rfl⟩))
  have hgg := Lib.hid (show w.heap.size + 1 ≤ g by simpa using hg)
  have hbb := ((Below.refl _ w).alloc (Nat.le_refl _) (.cells pzero 77)).trans (Hb.out.mono (by simp))
  have hbl := Lib.hid hbb
  clear hbb
  have hst := ((((((HK.out.set_ 0 (.string ⟨#[105, 112, 54, 122, 111, 110, 101]⟩)).set_ 1 (.int .i64 42)).set_ 2 (.slice (some ⟨g, 0, none⟩) 1 1)).set_ 3 (.int .i64 (-1))).set_ 4 (.bool false)).set_ 5 (.iface 147 (.agg #[fnv 136, fnv 137, fnv 138])))
  refine bodyPost_ret (results_cell_row rfl _ _ w.heap.size 77 (xcells x42 42 g) (0, 0) _ rfl hst Tryz.underlying77 rfl (proto_size.trans rfl)) rfl ?_
  exact ⟨g, rfl, Nat.le_of_succ_le hgg.out, ((((((Hr.out.far (p := ⟨w.heap.size, 0, none⟩) (by simp; have := hgg.out; omega) _).far (p := ⟨w.heap.size, 1, none⟩) (by simp; have := hgg.out; omega) _).far (p := ⟨w.heap.size, 2, none⟩) (by simp; have := hgg.out; omega) _).far (p := ⟨w.heap.size, 3, none⟩) (by simp; have := hgg.out; omega) _).far (p := ⟨w.heap.size, 4, none⟩) (by simp; have := hgg.out; omega) _).far (p := ⟨w.heap.size, 5, none⟩) (by simp; have := hgg.out; omega) _), ((((((hbl.out.setCell (by simp) _).setCell (by simp) _).setCell (by simp) _).setCell (by simp) _).setCell (by simp) _).setCell (by simp) _)⟩
def x43 : ProtoX := ⟨[105, 112, 99, 105, 100, 114], [43], 8, false, .iface 147 (.agg #[fnv 139, fnv 140, fnv 141])⟩
theorem px_43 (w : World) : Calls Tryz.prog 81 #[] w (OutX x43 43 w) := by
  go_enter Tryz.func81, Tryz.ntmps81
  go_wp2_with (first
    | (go_at_call 109; refine (code_43 _).mono ?_; rintro e w1 ⟨g, rfl, hg, hr, hb⟩; have hk := (Blk.new w 77 pzero).below hb (by simp); have Hb := Lib.hid hb; have Hr := Lib.hid hr; clear hr hb; obtain ⟨c0, c1, c2, c3, c4, c5⟩ := pzero_cells hk; obtain ⟨f0, f1, f2, f3, f4, f5⟩ := six_frozen hk; have HK := Lib.hid hk; clear hk)
    | (go_at_call 115; refine (tr_IPCIDR _).mono ?_; rintro e w2 ⟨rfl, rfl⟩))
  have hgg := Lib.hid (show w.heap.size + 1 ≤ g by simpa using hg)
  have hbb := ((Below.refl _ w).alloc (Nat.le_refl _) (.cells pzero 77)).trans (Hb.out.mono (by simp))
  have hbl := Lib.hid hbb
  clear hbb
  have hst := ((((((HK.out.set_ 0 (.string ⟨#[105, 112, 99, 105, 100, 114]⟩)).set_ 1 (.int .i64 43)).set_ 2 (.slice (some ⟨g, 0, none⟩) 1 1)).set_ 3 (.int .i64 8)).set_ 4 (.bool false)).set_ 5 (.iface 147 (.agg #[fnv 139, fnv 140, fnv 141])))
  refine bodyPost_ret (results_cell_row rfl _ _ w.heap.size 77 (xcells x43 43 g) (0, 0) _ rfl hst Tryz.underlying77 rfl (proto_size.trans rfl)) rfl ?_
  exact ⟨g, rfl, Nat.le_of_succ_le hgg.out, ((((((Hr.out.far (p := ⟨w.heap.size, 0, none⟩) (by simp; have := hgg.out; omega) _).far (p := ⟨w.heap.size, 1, none⟩) (by simp; have := hgg.out; omega) _).far (p := ⟨w.heap.size, 2, none⟩) (by simp; have := hgg.out; omega) _).far (p := ⟨w.heap.size, 3, none⟩) (by simp; have := hgg.out; omega) _).far (p := ⟨w.heap.size, 4, none⟩) (by simp; have := hgg.out; omega) _).far (p := ⟨w.heap.size, 5, none⟩) (by simp; have := hgg.out; omega) _), ((((((hbl.out.setCell (by simp) _).setCell (by simp) _).setCell (by simp) _).setCell (by simp) _).setCell (by simp) _).setCell (by simp) _)⟩
def x53 : ProtoX := ⟨[100, 110, 115], [53], -1, false, .iface 147 (.agg #[fnv 131, fnv 132, fnv 133])⟩
theorem px_53 (w : World) : Calls Tryz.prog 73 #[] w (OutX x53 53 w) := by
  go_enter Tryz.func73, Tryz.ntmps73
  go_wp2_with (first
    | (go_at_call 109; refine (code_53 _).mono ?_; rintro e w1 ⟨g, rfl, hg, hr, hb⟩; have hk := (Blk.new w 77 pzero).below hb (by simp); have Hb := Lib.hid hb; have Hr := Lib.hid hr; clear hr hb; obtain ⟨c0, c1, c2, c3, c4, c5⟩ := pzero_cells hk; obtain ⟨f0, f1, f2, f3, f4, f5⟩ := six_frozen hk; have HK := Lib.hid hk; clear hk)
    | (go_at_call 112; refine (tr_Dns _).mono ?_; rintro e w2 ⟨rfl, rfl⟩))
  have hgg := Lib.hid (show w.heap.size + 1 ≤ g by simpa using hg)
  have hbb := ((Below.refl _ w).alloc (Nat.le_refl _) (.cells pzero 77)).trans (Hb.out.mono (by simp))
  have hbl := Lib.hid hbb
  clear hbb
  have hst := ((((((HK.out.set_ 0 (.string ⟨#[100, 110, 115]⟩)).set_ 1 (.int .i64 53)).set_ 2 (.slice (some ⟨g, 0, none⟩) 1 1)).set_ 3 (.int .i64 (-1))).set_ 4 (.bool false)).set_ 5 (.iface 147 (.agg #[fnv 131, fnv 132, fnv 133])))
  refine bodyPost_ret (results_cell_row rfl _ _ w.heap.size 77 (xcells x53 53 g) (0, 0) _ rfl hst Tryz.underlying77 rfl (proto_size.trans rfl)) rfl ?_
  exact ⟨g, rfl, Nat.le_of_succ_le hgg.out, ((((((Hr.out.far (p := ⟨w.heap.size, 0, none⟩) (by simp; have := hgg.out; omega) _).far (p := ⟨w.heap.size, 1, none⟩) (by simp; have := hgg.out; omega) _).far (p := ⟨w.heap.size, 2, none⟩) (by simp; have := hgg.out; omega) _).far (p := ⟨w.heap.size, 3, none⟩) (by simp; have := hgg.out; omega) _).far (p := ⟨w.heap.size, 4, none⟩) (by simp; have := hgg.out; omega) _).far (p := ⟨w.heap.size, 5, none⟩) (by simp; have := hgg.out; omega) _), ((((((hbl.out.setCell (by simp) _).setCell (by simp) _).setCell (by simp) _).setCell (by simp) _).setCell (by simp) _).setCell (by simp) _)⟩
def x54 : ProtoX := ⟨[100, 110, 115, 52], [54], -1, false, .iface 147 (.agg #[fnv 131, fnv 132, fnv 133])⟩
theorem px_54 (w : World) : Calls Tryz.prog 74 #[] w (OutX x54 54 w) := by
  go_enter Tryz.func74, Tryz.ntmps74
  go_wp2_with (first
    | (go_at_call 109; refine (code_54 _).mono ?_; rintro e w1 ⟨g, rfl, hg, hr, hb⟩; have hk := (Blk.new w 77 pzero).below hb (by simp); have Hb := Lib.hid hb; have Hr := Lib.hid hr; clear hr hb; obtain ⟨c0, c1, c2, c3, c4, c5⟩ := pzero_cells hk; obtain ⟨f0, f1, f2, f3, f4, f5⟩ := six_frozen hk; have HK := Lib.hid hk; clear hk)
    | (go_at_call 112; refine (tr_Dns _).mono ?_; rintro e w2 ⟨rfl, rfl⟩))
  have hgg := Lib.hid (show w.heap.size + 1 ≤ g by simpa using hg)
  have hbb := ((Below.refl _ w).alloc (Nat.le_refl _) (.cells pzero 77)).trans (Hb.out.mono (by simp))
  have hbl := Lib.hid hbb
  clear hbb
  have hst := ((((((HK.out.set_ 0 (.string ⟨#[100, 110, 115, 52]⟩)).set_ 1 (.int .i64 54)).set_ 2 (.slice (some ⟨g, 0, none⟩) 1 1)).set_ 3 (.int .i64 (-1))).set_ 4 (.bool false)).set_ 5 (.iface 147 (.agg #[fnv 131, fnv 132, fnv 133])))
  refine bodyPost_ret (results_cell_row rfl _ _ w.heap.size 77 (xcells x54 54 g) (0, 0) _ rfl hst Tryz.underlying77 rfl (proto_size.trans rfl)) rfl ?_
  exact ⟨g, rfl, Nat.le_of_succ_le hgg.out, ((((((Hr.out.far (p := ⟨w.heap.size, 0, none⟩) (by simp; have := hgg.out; omega) _).far (p := ⟨w.heap.size, 1, none⟩) (by simp; have := hgg.out; omega) _).far (p := ⟨w.heap.size, 2, none⟩) (by simp; have := hgg.out; omega) _).far (p := ⟨w.heap.size, 3, none⟩) (by simp; have := hgg.out; omega) _).far (p := ⟨w.heap.size, 4, none⟩) (by simp; have := hgg.out; omega) _).far (p := ⟨w.heap.size, 5, none⟩) (by simp; have := hgg.out; omega) _), ((((((hbl.out.setCell (by simp) _).setCell (by simp) _).setCell (by simp) _).setCell (by simp) _).setCell (by simp) _).setCell (by simp) _)⟩
def x55 : ProtoX := ⟨[100, 110, 115, 54], [55], -1, false, .iface 147 (.agg #[fnv 131, fnv 132, fnv 133])⟩
theorem px_55 (w : World) : Calls Tryz.prog 75 #[] w (OutX x55 55 w) := by
  go_enter Tryz.func75, Tryz.ntmps75
  go_wp2_with (first
    | (go_at_call 109; refine (code_55 _).mono ?_; rintro e w1 ⟨g, rfl, hg, hr, hb⟩; have hk := (Blk.new w 77 pzero).below hb (by simp); have Hb := Lib.hid hb; have Hr := Lib.hid hr; clear hr hb; obtain ⟨c0, c1, c2, c3, c4, c5⟩ := pzero_cells hk; obtain ⟨f0, f1, f2, f3, f4, f5⟩ := six_frozen hk; have HK := Lib.hid hk; clear hk)
    | (go_at_call 112; refine (tr_Dns _).mono ?_; rintro e w2 ⟨rfl, rfl⟩))
  have hgg := Lib.hid (show w.heap.size + 1 ≤ g by simpa using hg)
  have hbb := ((Below.refl _ w).alloc (Nat.le_refl _) (.cells pzero 77)).trans (Hb.out.mono (by simp))
  have hbl := Lib.hid hbb
  clear hbb
  have hst := ((((((HK.out.set_ 0 (.string ⟨#[100, 110, 115, 54]⟩)).set_ 1 (.int .i64 55)).set_ 2 (.slice (some ⟨g, 0, none⟩) 1 1)).set_ 3 (.int .i64 (-1))).set_ 4 (.bool false)).set_ 5 (.iface 147 (.agg #[fnv 131, fnv 132, fnv 133])))
  refine bodyPost_ret (results_cell_row rfl _ _ w.heap.size 77 (xcells x55 55 g) (0, 0) _ rfl hst Tryz.underlying77 rfl (proto_size.trans rfl)) rfl ?_
  exact ⟨g, rfl, Nat.le_of_succ_le hgg.out, ((((((Hr.out.far (p := ⟨w.heap.size, 0, none⟩) (by simp; have := hgg.out; omega) _).far (p := ⟨w.heap.size, 1, none⟩) (by simp; have := hgg.out; omega) _).far (p := ⟨w.heap.size, 2, none⟩) (by simp; have := hgg.out; omega) _).far (p := ⟨w.heap.size, 3, none⟩) (by simp; have := hgg.out; omega) _).far (p := ⟨w.heap.size, 4, none⟩) (by simp; have := hgg.out; omega) _).far (p := ⟨w.heap.size, 5, none⟩) (by simp; have := hgg.out; omega) _), ((((((hbl.out.setCell (by simp) _).setCell (by simp) _).setCell (by simp) _).setCell (by simp) _).setCell (by simp) _).setCell (by simp) _)⟩
def x56 : ProtoX := ⟨[100, 110, 115, 97, 100, 100, 114], [56], -1, false, .iface 147 (.agg #[fnv 131, fnv 132, fnv 133])⟩
theorem px_56 (w : World) : Calls Tryz.prog 76 #[] w (OutX x56 56 w) := by
  go_enter Tryz.func76, Tryz.ntmps76
  go_wp2_with (first
    | (go_at_call 109; refine (code_56 _).mono ?_; rintro e w1 ⟨g, rfl, hg, hr, hb⟩; have hk := (Blk.new w 77 pzero).below hb (by simp); have Hb := Lib.hid hb; have Hr := Lib.hid hr; clear hr hb; obtain ⟨c0, c1, c2, c3, c4, c5⟩ := pzero_cells hk; obtain ⟨f0, f1, f2, f3, f4, f5⟩ := six_frozen hk; have HK := Lib.hid hk; clear hk)
    | (go_at_call 112; refine (tr_Dns _).mono ?_; rintro e w2 ⟨rfl, rfl⟩))
  have hgg := Lib.hid (show w.heap.size + 1 ≤ g by simpa using hg)
  have hbb := ((Below.refl _ w).alloc (Nat.le_refl _) (.cells pzero 77)).trans (Hb.out.mono (by simp))
  have hbl := Lib.hid hbb
  clear hbb
  have hst := ((((((HK.out.set_ 0 (.string ⟨#[100, 110, 115, 97, 100, 100, 114]⟩)).set_ 1 (.int .i64 56)).set_ 2 (.slice (some ⟨g, 0, none⟩) 1 1)).set_ 3 (.int .i64 (-1))).set_ 4 (.bool false)).set_ 5 (.iface 147 (.agg #[fnv 131, fnv 132, fnv 133])))
  refine bodyPost_ret (results_cell_row rfl _ _ w.heap.size 77 (xcells x56 56 g) (0, 0) _ rfl hst Tryz.underlying77 rfl (proto_size.trans rfl)) rfl ?_
  exact ⟨g, rfl, Nat.le_of_succ_le hgg.out, ((((((Hr.out.far (p := ⟨w.heap.size, 0, none⟩) (by simp; have := hgg.out; omega) _).far (p := ⟨w.heap.size, 1, none⟩) (by simp; have := hgg.out; omega) _).far (p := ⟨w.heap.size, 2, none⟩) (by simp; have := hgg.out; omega) _).far (p := ⟨w.heap.size, 3, none⟩) (by simp; have := hgg.out; omega) _).far (p := ⟨w.heap.size, 4, none⟩) (by simp; have := hgg.out; omega) _).far (p := ⟨w.heap.size, 5, none⟩) (by simp; have := hgg.out; omega) _), ((((((hbl.out.setCell (by simp) _).setCell (by simp) _).setCell (by simp) _).setCell (by simp) _).setCell (by simp) _).setCell (by simp) _)⟩
def x132 : ProtoX := ⟨[115, 99, 116, 112], [132, 1], 16, false, .iface 147 (.agg #[fnv 129, fnv 130, .nilFunc])⟩
theorem px_132 (w : World) : Calls Tryz.prog 82 #[] w (OutX x132 132 w) := by
  go_enter Tryz.func82, Tryz.ntmps82
  go_wp2_with (first
    | (go_at_call 109; refine (code_132 _).mono ?_; rintro e w1 ⟨g, rfl, hg, hr, hb⟩; have hk := (Blk.new w 77 pzero).below hb (by simp); have Hb := Lib.hid hb; have Hr := Lib.hid hr; clear hr hb; obtain ⟨c0, c1, c2, c3, c4, c5⟩ := pzero_cells hk; obtain ⟨f0, f1, f2, f3, f4, f5⟩ := six_frozen hk; have HK := Lib.hid hk; clear hk)
    | (go_at_call 111; refine (tr_Port _).mono ?_; rintro e w2 ⟨rfl, rfl⟩))
  have hgg := Lib.hid (show w.heap.size + 1 ≤ g by simpa using hg)
  have hbb := ((Below.refl _ w).alloc (Nat.le_refl _) (.cells pzero 77)).trans (Hb.out.mono (by simp))
  have hbl := Lib.hid hbb
  clear hbb
  have hst := ((((((HK.out.set_ 0 (.string ⟨#[115, 99, 116, 112]⟩)).set_ 1 (.int .i64 132)).set_ 2 (.slice (some ⟨g, 0, none⟩) 2 2)).set_ 3 (.int .i64 16)).set_ 4 (.bool false)).set_ 5 (.iface 147 (.agg #[fnv 129, fnv 130, .nilFunc])))
  refine bodyPost_ret (results_cell_row rfl _ _ w.heap.size 77 (xcells x132 132 g) (0, 0) _ rfl hst Tryz.underlying77 rfl (proto_size.trans rfl)) rfl ?_
  exact ⟨g, rfl, Nat.le_of_succ_le hgg.out, ((((((Hr.out.far (p := ⟨w.heap.size, 0, none⟩) (by simp; have := hgg.out; omega) _).far (p := ⟨w.heap.size, 1, none⟩) (by simp; have := hgg.out; omega) _).far (p := ⟨w.heap.size, 2, none⟩) (by simp; have := hgg.out; omega) _).far (p := ⟨w.heap.size, 3, none⟩) (by simp; have := hgg.out; omega) _).far (p := ⟨w.heap.size, 4, none⟩) (by simp; have := hgg.out; omega) _).far (p := ⟨w.heap.size, 5, none⟩) (by simp; have := hgg.out; omega) _), ((((((hbl.out.setCell (by simp) _).setCell (by simp) _).setCell (by simp) _).setCell (by simp) _).setCell (by simp) _).setCell (by simp) _)⟩
def x273 : ProtoX := ⟨[117, 100, 112], [145, 2], 16, false, .iface 147 (.agg #[fnv 129, fnv 130, .nilFunc])⟩
def x276 : ProtoX := ⟨[112, 50, 112, 45, 119, 101, 98, 114, 116, 99, 45, 100, 105, 114, 101, 99, 116], [148, 2], 0, false, .nilIface⟩
theorem px_276 (w : World) : Calls Tryz.prog 99 #[] w (OutX x276 276 w) := by
  go_enter Tryz.func99, Tryz.ntmps99
  go_wp2_with (first
    | (go_at_call 109; refine (code_276 _).mono ?_; rintro e w1 ⟨g, rfl, hg, hr, hb⟩; have hk := (Blk.new w 77 pzero).below hb (by simp); have Hb := Lib.hid hb; have Hr := Lib.hid hr; clear hr hb; obtain ⟨c0, c1, c2, c3, c4, c5⟩ := pzero_cells hk; obtain ⟨f0, f1, f2, f3, f4, f5⟩ := six_frozen hk; have HK := Lib.hid hk; clear hk))
  have hgg := Lib.hid (show w.heap.size + 1 ≤ g by simpa using hg)
  have hbb := ((Below.refl _ w).alloc (Nat.le_refl _) (.cells pzero 77)).trans (Hb.out.mono (by simp))
  have hbl := Lib.hid hbb
  clear hbb
  have hst := ((((((HK.out.set_ 0 (.string ⟨#[112, 50, 112, 45, 119, 101, 98, 114, 116, 99, 45, 100, 105, 114, 101, 99, 116]⟩)).set_ 1 (.int .i64 276)).set_ 2 (.slice (some ⟨g, 0, none⟩) 2 2)).set_ 3 (.int .i64 0)).set_ 4 (.bool false)).set_ 5 (.nilIface))
  refine bodyPost_ret (results_cell_row rfl _ _ w.heap.size 77 (xcells x276 276 g) (0, 0) _ rfl hst Tryz.underlying77 rfl (proto_size.trans rfl)) rfl ?_
  exact ⟨g, rfl, Nat.le_of_succ_le hgg.out, ((((((Hr.out.far (p := ⟨w.heap.size, 0, none⟩) (by simp; have := hgg.out; omega) _).far (p := ⟨w.heap.size, 1, none⟩) (by simp; have := hgg.out; omega) _).far (p := ⟨w.heap.size, 2, none⟩) (by simp; have := hgg.out; omega) _).far (p := ⟨w.heap.size, 3, none⟩) (by simp; have := hgg.out; omega) _).far (p := ⟨w.heap.size, 4, none⟩) (by simp; have := hgg.out; omega) _).far (p := ⟨w.heap.size, 5, none⟩) (by simp; have := hgg.out; omega) _), ((((((hbl.out.setCell (by simp) _).setCell (by simp) _).setCell (by simp) _).setCell (by simp) _).setCell (by simp) _).setCell (by simp) _)⟩
def x280 : ProtoX := ⟨[119, 101, 98, 114, 116, 99, 45, 100, 105, 114, 101, 99, 116], [152, 2], 0, false, .nilIface⟩
theorem px_280 (w : World) : Calls Tryz.prog 106 #[] w (OutX x280 280 w) := by
  go_enter Tryz.func106, Tryz.ntmps106
  go_wp2_with (first
    | (go_at_call 109; refine (code_280 _).mono ?_; rintro e w1 ⟨g, rfl, hg, hr, hb⟩; have hk := (Blk.new w 77 pzero).below hb (by simp); have Hb := Lib.hid hb; have Hr := Lib.hid hr; clear hr hb; obtain ⟨c0, c1, c2, c3, c4, c5⟩ := pzero_cells hk; obtain ⟨f0, f1, f2, f3, f4, f5⟩ := six_frozen hk; have HK := Lib.hid hk; clear hk))
  have hgg := Lib.hid (show w.heap.size + 1 ≤ g by simpa using hg)
  have hbb := ((Below.refl _ w).alloc (Nat.le_refl _) (.cells pzero 77)).trans (Hb.out.mono (by simp))
  have hbl := Lib.hid hbb
  clear hbb
  have hst := ((((((HK.out.set_ 0 (.string ⟨#[119, 101, 98, 114, 116, 99, 45, 100, 105, 114, 101, 99, 116]⟩)).set_ 1 (.int .i64 280)).set_ 2 (.slice (some ⟨g, 0, none⟩) 2 2)).set_ 3 (.int .i64 0)).set_ 4 (.bool false)).set_ 5 (.nilIface))
  refine bodyPost_ret (results_cell_row rfl _ _ w.heap.size 77 (xcells x280 280 g) (0, 0) _ rfl hst Tryz.underlying77 rfl (proto_size.trans rfl)) rfl ?_
  exact ⟨g, rfl, Nat.le_of_succ_le hgg.out, ((((((Hr.out.far (p := ⟨w.heap.size, 0, none⟩) (by simp; have := hgg.out; omega) _).far (p := ⟨w.heap.size, 1, none⟩) (by simp; have := hgg.out; omega) _).far (p := ⟨w.heap.size, 2, none⟩) (by simp; have := hgg.out; omega) _).far (p := ⟨w.heap.size, 3, none⟩) (by simp; have := hgg.out; omega) _).far (p := ⟨w.heap.size, 4, none⟩) (by simp; have := hgg.out; omega) _).far (p := ⟨w.heap.size, 5, none⟩) (by simp; have := hgg.out; omega) _), ((((((hbl.out.setCell (by simp) _).setCell (by simp) _).setCell (by simp) _).setCell (by simp) _).setCell (by simp) _).setCell (by simp) _)⟩
def x281 : ProtoX := ⟨[119, 101, 98, 114, 116, 99], [153, 2], 0, false, .nilIface⟩
theorem px_281 (w : World) : Calls Tryz.prog 107 #[] w (OutX x281 281 w) := by
  go_enter Tryz.func107, Tryz.ntmps107
  go_wp2_with (first
    | (go_at_call 109; refine (code_281 _).mono ?_; rintro e w1 ⟨g, rfl, hg, hr, hb⟩; have hk := (Blk.new w 77 pzero).below hb (by simp); have Hb := Lib.hid hb; have Hr := Lib.hid hr; clear hr hb; obtain ⟨c0, c1, c2, c3, c4, c5⟩ := pzero_cells hk; obtain ⟨f0, f1, f2, f3, f4, f5⟩ := six_frozen hk; have HK := Lib.hid hk; clear hk))
  have hgg := Lib.hid (show w.heap.size + 1 ≤ g by simpa using hg)
  have hbb := ((Below.refl _ w).alloc (Nat.le_refl _) (.cells pzero 77)).trans (Hb.out.mono (by simp))
  have hbl := Lib.hid hbb
  clear hbb
  have hst := ((((((HK.out.set_ 0 (.string ⟨#[119, 101, 98, 114, 116, 99]⟩)).set_ 1 (.int .i64 281)).set_ 2 (.slice (some ⟨g, 0, none⟩) 2 2)).set_ 3 (.int .i64 0)).set_ 4 (.bool false)).set_ 5 (.nilIface))
  refine bodyPost_ret (results_cell_row rfl _ _ w.heap.size 77 (xcells x281 281 g) (0, 0) _ rfl hst Tryz.underlying77 rfl (proto_size.trans rfl)) rfl ?_
  exact ⟨g, rfl, Nat.le_of_succ_le hgg.out, ((((((Hr.out.far (p := ⟨w.heap.size, 0, none⟩) (by simp; have := hgg.out; omega) _).far (p := ⟨w.heap.size, 1, none⟩) (by simp; have := hgg.out; omega) _).far (p := ⟨w.heap.size, 2, none⟩) (by simp; have := hgg.out; omega) _).far (p := ⟨w.heap.size, 3, none⟩) (by simp; have := hgg.out; omega) _).far (p := ⟨w.heap.size, 4, none⟩) (by simp; have := hgg.out; omega) _).far (p := ⟨w.heap.size, 5, none⟩) (by simp; have := hgg.out; omega) _), ((((((hbl.out.setCell (by simp) _).setCell (by simp) _).setCell (by simp) _).setCell (by simp) _).setCell (by simp) _).setCell (by simp) _)⟩
def x290 : ProtoX := ⟨[112, 50, 112, 45, 99, 105, 114, 99, 117, 105, 116], [162, 2], 0, false, .nilIface⟩
def x301 : ProtoX := ⟨[117, 100, 116], [173, 2], 0, false, .nilIface⟩
theorem px_301 (w : World) : Calls Tryz.prog 89 #[] w (OutX x301 301 w) := by
  go_enter Tryz.func89, Tryz.ntmps89
  go_wp2_with (first
    | (go_at_call 109; refine (code_301 _).mono ?_; rintro e w1 ⟨g, rfl, hg, hr, hb⟩; have hk := (Blk.new w 77 pzero).below hb (by simp); have Hb := Lib.hid hb; have Hr := Lib.hid hr; clear hr hb; obtain ⟨c0, c1, c2, c3, c4, c5⟩ := pzero_cells hk; obtain ⟨f0, f1, f2, f3, f4, f5⟩ := six_frozen hk; have HK := Lib.hid hk; clear hk))
  have hgg := Lib.hid (show w.heap.size + 1 ≤ g by simpa using hg)
  have hbb := ((Below.refl _ w).alloc (Nat.le_refl _) (.cells pzero 77)).trans (Hb.out.mono (by simp))
  have hbl := Lib.hid hbb
  clear hbb
  have hst := ((((((HK.out.set_ 0 (.string ⟨#[117, 100, 116]⟩)).set_ 1 (.int .i64 301)).set_ 2 (.slice (some ⟨g, 0, none⟩) 2 2)).set_ 3 (.int .i64 0)).set_ 4 (.bool false)).set_ 5 (.nilIface))
  refine bodyPost_ret (results_cell_row rfl _ _ w.heap.size 77 (xcells x301 301 g) (0, 0) _ rfl hst Tryz.underlying77 rfl (proto_size.trans rfl)) rfl ?_
  exact ⟨g, rfl, Nat.le_of_succ_le hgg.out, ((((((Hr.out.far (p := ⟨w.heap.size, 0, none⟩) (by simp; have := hgg.out; omega) _).far (p := ⟨w.heap.size, 1, none⟩) (by simp; have := hgg.out; omega) _).far (p := ⟨w.heap.size, 2, none⟩) (by simp; have := hgg.out; omega) _).far (p := ⟨w.heap.size, 3, none⟩) (by simp; have := hgg.out; omega) _).far (p := ⟨w.heap.size, 4, none⟩) (by simp; have := hgg.out; omega) _).far (p := ⟨w.heap.size, 5, none⟩) (by simp; have := hgg.out; omega) _), ((((((hbl.out.setCell (by simp) _).setCell (by simp) _).setCell (by simp) _).setCell (by simp) _).setCell (by simp) _).setCell (by simp) _)⟩
def x302 : ProtoX := ⟨[117, 116, 112], [174, 2], 0, false, .nilIface⟩
theorem px_302 (w : World) : Calls Tryz.prog 88 #[] w (OutX x302 302 w) := by
  go_enter Tryz.func88, Tryz.ntmps88
  go_wp2_with (first
    | (go_at_call 109; refine (code_302 _).mono ?_; rintro e w1 ⟨g, rfl, hg, hr, hb⟩; have hk := (Blk.new w 77 pzero).below hb (by simp); have Hb := Lib.hid hb; have Hr := Lib.hid hr; clear hr hb; obtain ⟨c0, c1, c2, c3, c4, c5⟩ := pzero_cells hk; obtain ⟨f0, f1, f2, f3, f4, f5⟩ := six_frozen hk; have HK := Lib.hid hk; clear hk))
  have hgg := Lib.hid (show w.heap.size + 1 ≤ g by simpa using hg)
  have hbb := ((Below.refl _ w).alloc (Nat.le_refl _) (.cells pzero 77)).trans (Hb.out.mono (by simp))
  have hbl := Lib.hid hbb
  clear hbb
  have hst := ((((((HK.out.set_ 0 (.string ⟨#[117, 116, 112]⟩)).set_ 1 (.int .i64 302)).set_ 2 (.slice (some ⟨g, 0, none⟩) 2 2)).set_ 3 (.int .i64 0)).set_ 4 (.bool false)).set_ 5 (.nilIface))
  refine bodyPost_ret (results_cell_row rfl _ _ w.heap.size 77 (xcells x302 302 g) (0, 0) _ rfl hst Tryz.underlying77 rfl (proto_size.trans rfl)) rfl ?_
  exact ⟨g, rfl, Nat.le_of_succ_le hgg.out, ((((((Hr.out.far (p := ⟨w.heap.size, 0, none⟩) (by simp; have := hgg.out; omega) _).far (p := ⟨w.heap.size, 1, none⟩) (by simp; have := hgg.out; omega) _).far (p := ⟨w.heap.size, 2, none⟩) (by simp; have := hgg.out; omega) _).far (p := ⟨w.heap.size, 3, none⟩) (by simp; have := hgg.out; omega) _).far (p := ⟨w.heap.size, 4, none⟩) (by simp; have := hgg.out; omega) _).far (p := ⟨w.heap.size, 5, none⟩) (by simp; have := hgg.out; omega) _), ((((((hbl.out.setCell (by simp) _).setCell (by simp) _).setCell (by simp) _).setCell (by simp) _).setCell (by simp) _).setCell (by simp) _)⟩
def x400 : ProtoX := ⟨[117, 110, 105, 120], [144, 3], -1, true, .iface 147 (.agg #[fnv 163, fnv 164, fnv 165])⟩
theorem px_400 (w : World) : Calls Tryz.prog 98 #[] w (OutX x400 400 w) := by
  go_enter Tryz.func98, Tryz.ntmps98
  go_wp2_with (first
    | (go_at_call 109; refine (code_400 _).mono ?_; rintro e w1 ⟨g, rfl, hg, hr, hb⟩; have hk := (Blk.new w 77 pzero).below hb (by simp); have Hb := Lib.hid hb; have Hr := Lib.hid hr; clear hr hb; obtain ⟨c0, c1, c2, c3, c4, c5⟩ := pzero_cells hk; obtain ⟨f0, f1, f2, f3, f4, f5⟩ := six_frozen hk; have HK := Lib.hid hk; clear hk)
    | (go_at_call 123; refine (tr_Unix _).mono ?_; rintro e w2 ⟨rfl, rfl⟩))
  have hgg := Lib.hid (show w.heap.size + 1 ≤ g by simpa using hg)
  have hbb := ((Below.refl _ w).alloc (Nat.le_refl _) (.cells pzero 77)).trans (Hb.out.mono (by simp))
  have hbl := Lib.hid hbb
  clear hbb
  have hst := ((((((HK.out.set_ 0 (.string ⟨#[117, 110, 105, 120]⟩)).set_ 1 (.int .i64 400)).set_ 2 (.slice (some ⟨g, 0, none⟩) 2 2)).set_ 3 (.int .i64 (-1))).set_ 4 (.bool true)).set_ 5 (.iface 147 (.agg #[fnv 163, fnv 164, fnv 165])))
  refine bodyPost_ret (results_cell_row rfl _ _ w.heap.size 77 (xcells x400 400 g) (0, 0) _ rfl hst Tryz.underlying77 rfl (proto_size.trans rfl)) rfl ?_
  exact ⟨g, rfl, Nat.le_of_succ_le hgg.out, ((((((Hr.out.far (p := ⟨w.heap.size, 0, none⟩) (by simp; have := hgg.out; omega) _).far (p := ⟨w.heap.size, 1, none⟩) (by simp; have := hgg.out; omega) _).far (p := ⟨w.heap.size, 2, none⟩) (by simp; have := hgg.out; omega) _).far (p := ⟨w.heap.size, 3, none⟩) (by simp; have := hgg.out; omega) _).far (p := ⟨w.heap.size, 4, none⟩) (by simp; have := hgg.out; omega) _).far (p := ⟨w.heap.size, 5, none⟩) (by simp; have := hgg.out; omega) _), ((((((hbl.out.setCell (by simp) _).setCell (by simp) _).setCell (by simp) _).setCell (by simp) _).setCell (by simp) _).setCell (by simp) _)⟩
def x421 : ProtoX := ⟨[112, 50, 112], [165, 3], -1, false, .iface 147 (.agg #[fnv 160, fnv 161, fnv 162])⟩
theorem protoX_421 : protoX 421 = some x421 := rfl
def x443 : ProtoX := ⟨[104, 116, 116, 112, 115], [187, 3], 0, false, .nilIface⟩
theorem px_443 (w : World) : Calls Tryz.prog 96 #[] w (OutX x443 443 w) := by
  go_enter Tryz.func96, Tryz.ntmps96
  go_wp2_with (first
    | (go_at_call 109; refine (code_443 _).mono ?_; rintro e w1 ⟨g, rfl, hg, hr, hb⟩; have hk := (Blk.new w 77 pzero).below hb (by simp); have Hb := Lib.hid hb; have Hr := Lib.hid hr; clear hr hb; obtain ⟨c0, c1, c2, c3, c4, c5⟩ := pzero_cells hk; obtain ⟨f0, f1, f2, f3, f4, f5⟩ := six_frozen hk; have HK := Lib.hid hk; clear hk))
  have hgg := Lib.hid (show w.heap.size + 1 ≤ g by simpa using hg)
  have hbb := ((Below.refl _ w).alloc (Nat.le_refl _) (.cells pzero 77)).trans (Hb.out.mono (by simp))
  have hbl := Lib.hid hbb
  clear hbb
  have hst := ((((((HK.out.set_ 0 (.string ⟨#[104, 116, 116, 112, 115]⟩)).set_ 1 (.int .i64 443)).set_ 2 (.slice (some ⟨g, 0, none⟩) 2 2)).set_ 3 (.int .i64 0)).set_ 4 (.bool false)).set_ 5 (.nilIface))
  refine bodyPost_ret (results_cell_row rfl _ _ w.heap.size 77 (xcells x443 443 g) (0, 0) _ rfl hst Tryz.underlying77 rfl (proto_size.trans rfl)) rfl ?_
  exact ⟨g, rfl, Nat.le_of_succ_le hgg.out, ((((((Hr.out.far (p := ⟨w.heap.size, 0, none⟩) (by simp; have := hgg.out; omega) _).far (p := ⟨w.heap.size, 1, none⟩) (by simp; have := hgg.out; omega) _).far (p := ⟨w.heap.size, 2, none⟩) (by simp; have := hgg.out; omega) _).far (p := ⟨w.heap.size, 3, none⟩) (by simp; have := hgg.out; omega) _).far (p := ⟨w.heap.size, 4, none⟩) (by simp; have := hgg.out; omega) _).far (p := ⟨w.heap.size, 5, none⟩) (by simp; have := hgg.out; omega) _), ((((((hbl.out.setCell (by simp) _).setCell (by simp) _).setCell (by simp) _).setCell (by simp) _).setCell (by simp) _).setCell (by simp) _)⟩
def x444 : ProtoX := ⟨[111, 110, 105, 111, 110], [188, 3], 96, false, .iface 147 (.agg #[fnv 142, fnv 143, fnv 144])⟩
theorem px_444 (w : World) : Calls Tryz.prog 84 #[] w (OutX x444 444 w) := by
  go_enter Tryz.func84, Tryz.ntmps84
  go_wp2_with (first
    | (go_at_call 109; refine (code_444 _).mono ?_; rintro e w1 ⟨g, rfl, hg, hr, hb⟩; have hk := (Blk.new w 77 pzero).below hb (by simp); have Hb := Lib.hid hb; have Hr := Lib.hid hr; clear hr hb; obtain ⟨c0, c1, c2, c3, c4, c5⟩ := pzero_cells hk; obtain ⟨f0, f1, f2, f3, f4, f5⟩ := six_frozen hk; have HK := Lib.hid hk; clear hk)
    | (go_at_call 116; refine (tr_Onion _).mono ?_; rintro e w2 ⟨rfl, rfl⟩))
  have hgg := Lib.hid (show w.heap.size + 1 ≤ g by simpa using hg)
  have hbb := ((Below.refl _ w).alloc (Nat.le_refl _) (.cells pzero 77)).trans (Hb.out.mono (by simp))
  have hbl := Lib.hid hbb
  clear hbb
  have hst := ((((((HK.out.set_ 0 (.string ⟨#[111, 110, 105, 111, 110]⟩)).set_ 1 (.int .i64 444)).set_ 2 (.slice (some ⟨g, 0, none⟩) 2 2)).set_ 3 (.int .i64 96)).set_ 4 (.bool false)).set_ 5 (.iface 147 (.agg #[fnv 142, fnv 143, fnv 144])))
  refine bodyPost_ret (results_cell_row rfl _ _ w.heap.size 77 (xcells x444 444 g) (0, 0) _ rfl hst Tryz.underlying77 rfl (proto_size.trans rfl)) rfl ?_
  exact ⟨g, rfl, Nat.le_of_succ_le hgg.out, ((((((Hr.out.far (p := ⟨w.heap.size, 0, none⟩) (by simp; have := hgg.out; omega) _).far (p := ⟨w.heap.size, 1, none⟩) (by simp; have := hgg.out; omega) _).far (p := ⟨w.heap.size, 2, none⟩) (by simp; have := hgg.out; omega) _).far (p := ⟨w.heap.size, 3, none⟩) (by simp; have := hgg.out; omega) _).far (p := ⟨w.heap.size, 4, none⟩) (by simp; have := hgg.out; omega) _).far (p := ⟨w.heap.size, 5, none⟩) (by simp; have := hgg.out; omega) _), ((((((hbl.out.setCell (by simp) _).setCell (by simp) _).setCell (by simp) _).setCell (by simp) _).setCell (by simp) _).setCell (by simp) _)⟩
def x445 : ProtoX := ⟨[111, 110, 105, 111, 110, 51], [189, 3], 296, false, .iface 147 (.agg #[fnv 145, fnv 146, fnv 147])⟩
theorem px_445 (w : World) : Calls Tryz.prog 85 #[] w (OutX x445 445 w) := by
  go_enter Tryz.func85, Tryz.ntmps85
  go_wp2_with (first
    | (go_at_call 109; refine (code_445 _).mono ?_; rintro e w1 ⟨g, rfl, hg, hr, hb⟩; have hk := (Blk.new w 77 pzero).below hb (by simp); have Hb := Lib.hid hb; have Hr := Lib.hid hr; clear hr hb; obtain ⟨c0, c1, c2, c3, c4, c5⟩ := pzero_cells hk; obtain ⟨f0, f1, f2, f3, f4, f5⟩ := six_frozen hk; have HK := Lib.hid hk; clear hk)
    | (go_at_call 117; refine (tr_Onion3 _).mono ?_; rintro e w2 ⟨rfl, rfl⟩))
  have hgg := Lib.hid (show w.heap.size + 1 ≤ g by simpa using hg)
  have hbb := ((Below.refl _ w).alloc (Nat.le_refl _) (.cells pzero 77)).trans (Hb.out.mono (by simp))
  have hbl := Lib.hid hbb
  clear hbb
  have hst := ((((((HK.out.set_ 0 (.string ⟨#[111, 110, 105, 111, 110, 51]⟩)).set_ 1 (.int .i64 445)).set_ 2 (.slice (some ⟨g, 0, none⟩) 2 2)).set_ 3 (.int .i64 296)).set_ 4 (.bool false)).set_ 5 (.iface 147 (.agg #[fnv 145, fnv 146, fnv 147])))
  refine bodyPost_ret (results_cell_row rfl _ _ w.heap.size 77 (xcells x445 445 g) (0, 0) _ rfl hst Tryz.underlying77 rfl (proto_size.trans rfl)) rfl ?_
  exact ⟨g, rfl, Nat.le_of_succ_le hgg.out, ((((((Hr.out.far (p := ⟨w.heap.size, 0, none⟩) (by simp; have := hgg.out; omega) _).far (p := ⟨w.heap.size, 1, none⟩) (by simp; have := hgg.out; omega) _).far (p := ⟨w.heap.size, 2, none⟩) (by simp; have := hgg.out; omega) _).far (p := ⟨w.heap.size, 3, none⟩) (by simp; have := hgg.out; omega) _).far (p := ⟨w.heap.size, 4, none⟩) (by simp; have := hgg.out; omega) _).far (p := ⟨w.heap.size, 5, none⟩) (by simp; have := hgg.out; omega) _), ((((((hbl.out.setCell (by simp) _).setCell (by simp) _).setCell (by simp) _).setCell (by simp) _).setCell (by simp) _).setCell (by simp) _)⟩
def x446 : ProtoX := ⟨[103, 97, 114, 108, 105, 99, 54, 52], [190, 3], -1, false, .iface 147 (.agg #[fnv 148, fnv 149, fnv 150])⟩
theorem px_446 (w : World) : Calls Tryz.prog 86 #[] w (OutX x446 446 w) := by
  go_enter Tryz.func86, Tryz.ntmps86
  go_wp2_with (first
    | (go_at_call 109; refine (code_446 _).mono ?_; rintro e w1 ⟨g, rfl, hg, hr, hb⟩; have hk := (Blk.new w 77 pzero).below hb (by simp); have Hb := Lib.hid hb; have Hr := Lib.hid hr; clear hr hb; obtain ⟨c0, c1, c2, c3, c4, c5⟩ := pzero_cells hk; obtain ⟨f0, f1, f2, f3, f4, f5⟩ := six_frozen hk; have HK := Lib.hid hk; clear hk)
    | (go_at_call 118; refine (tr_Garlic64 _).mono ?_; rintro e w2 ⟨rfl, rfl⟩))
  have hgg := Lib.hid (show w.heap.size + 1 ≤ g by simpa using hg)
  have hbb := ((Below.refl _ w).alloc (Nat.le_refl _) (.cells pzero 77)).trans (Hb.out.mono (by simp))
  have hbl := Lib.hid hbb
  clear hbb
  have hst := ((((((HK.out.set_ 0 (.string ⟨#[103, 97, 114, 108, 105, 99, 54, 52]⟩)).set_ 1 (.int .i64 446)).set_ 2 (.slice (some ⟨g, 0, none⟩) 2 2)).set_ 3 (.int .i64 (-1))).set_ 4 (.bool false)).set_ 5 (.iface 147 (.agg #[fnv 148, fnv 149, fnv 150])))
  refine bodyPost_ret (results_cell_row rfl _ _ w.heap.size 77 (xcells x446 446 g) (0, 0) _ rfl hst Tryz.underlying77 rfl (proto_size.trans rfl)) rfl ?_
  exact ⟨g, rfl, Nat.le_of_succ_le hgg.out, ((((((Hr.out.far (p := ⟨w.heap.size, 0, none⟩) (by simp; have := hgg.out; omega) _).far (p := ⟨w.heap.size, 1, none⟩) (by simp; have := hgg.out; omega) _).far (p := ⟨w.heap.size, 2, none⟩) (by simp; have := hgg.out; omega) _).far (p := ⟨w.heap.size, 3, none⟩) (by simp; have := hgg.out; omega) _).far (p := ⟨w.heap.size, 4, none⟩) (by simp; have := hgg.out; omega) _).far (p := ⟨w.heap.size, 5, none⟩) (by simp; have := hgg.out; omega) _), ((((((hbl.out.setCell (by simp) _).setCell (by simp) _).setCell (by simp) _).setCell (by simp) _).setCell (by simp) _).setCell (by simp) _)⟩
def x447 : ProtoX := ⟨[103, 97, 114, 108, 105, 99, 51, 50], [191, 3], -1, false, .iface 147 (.agg #[fnv 151, fnv 152, fnv 153])⟩
theorem px_447 (w : World) : Calls Tryz.prog 87 #[] w (OutX x447 447 w) := by
  go_enter Tryz.func87, Tryz.ntmps87
  go_wp2_with (first
    | (go_at_call 109; refine (code_447 _).mono ?_; rintro e w1 ⟨g, rfl, hg, hr, hb⟩; have hk := (Blk.new w 77 pzero).below hb (by simp); have Hb := Lib.hid hb; have Hr := Lib.hid hr; clear hr hb; obtain ⟨c0, c1, c2, c3, c4, c5⟩ := pzero_cells hk; obtain ⟨f0, f1, f2, f3, f4, f5⟩ := six_frozen hk; have HK := Lib.hid hk; clear hk)
    | (go_at_call 119; refine (tr_Garlic32 _).mono ?_; rintro e w2 ⟨rfl, rfl⟩))
  have hgg := Lib.hid (show w.heap.size + 1 ≤ g by simpa using hg)
  have hbb := ((Below.refl _ w).alloc (Nat.le_refl _) (.cells pzero 77)).trans (Hb.out.mono (by simp))
  have hbl := Lib.hid hbb
  clear hbb
  have hst := ((((((HK.out.set_ 0 (.string ⟨#[103, 97, 114, 108, 105, 99, 51, 50]⟩)).set_ 1 (.int .i64 447)).set_ 2 (.slice (some ⟨g, 0, none⟩) 2 2)).set_ 3 (.int .i64 (-1))).set_ 4 (.bool false)).set_ 5 (.iface 147 (.agg #[fnv 151, fnv 152, fnv 153])))
  refine bodyPost_ret (results_cell_row rfl _ _ w.heap.size 77 (xcells x447 447 g) (0, 0) _ rfl hst Tryz.underlying77 rfl (proto_size.trans rfl)) rfl ?_
  exact ⟨g, rfl, Nat.le_of_succ_le hgg.out, ((((((Hr.out.far (p := ⟨w.heap.size, 0, none⟩) (by simp; have := hgg.out; omega) _).far (p := ⟨w.heap.size, 1, none⟩) (by simp; have := hgg.out; omega) _).far (p := ⟨w.heap.size, 2, none⟩) (by simp; have := hgg.out; omega) _).far (p := ⟨w.heap.size, 3, none⟩) (by simp; have := hgg.out; omega) _).far (p := ⟨w.heap.size, 4, none⟩) (by simp; have := hgg.out; omega) _).far (p := ⟨w.heap.size, 5, none⟩) (by simp; have := hgg.out; omega) _), ((((((hbl.out.setCell (by simp) _).setCell (by simp) _).setCell (by simp) _).setCell (by simp) _).setCell (by simp) _).setCell (by simp) _)⟩
def x448 : ProtoX := ⟨[116, 108, 115], [192, 3], 0, false, .nilIface⟩
theorem px_448 (w : World) : Calls Tryz.prog 100 #[] w (OutX x448 448 w) := by
  go_enter Tryz.func100, Tryz.ntmps100
  go_wp2_with (first
    | (go_at_call 109; refine (code_448 _).mono ?_; rintro e w1 ⟨g, rfl, hg, hr, hb⟩; have hk := (Blk.new w 77 pzero).below hb (by simp); have Hb := Lib.hid hb; have Hr := Lib.hid hr; clear hr hb; obtain ⟨c0, c1, c2, c3, c4, c5⟩ := pzero_cells hk; obtain ⟨f0, f1, f2, f3, f4, f5⟩ := six_frozen hk; have HK := Lib.hid hk; clear hk))
  have hgg := Lib.hid (show w.heap.size + 1 ≤ g by simpa using hg)
  have hbb := ((Below.refl _ w).alloc (Nat.le_refl _) (.cells pzero 77)).trans (Hb.out.mono (by simp))
  have hbl := Lib.hid hbb
  clear hbb
  have hst := ((((((HK.out.set_ 0 (.string ⟨#[116, 108, 115]⟩)).set_ 1 (.int .i64 448)).set_ 2 (.slice (some ⟨g, 0, none⟩) 2 2)).set_ 3 (.int .i64 0)).set_ 4 (.bool false)).set_ 5 (.nilIface))
  refine bodyPost_ret (results_cell_row rfl _ _ w.heap.size 77 (xcells x448 448 g) (0, 0) _ rfl hst Tryz.underlying77 rfl (proto_size.trans rfl)) rfl ?_
  exact ⟨g, rfl, Nat.le_of_succ_le hgg.out, ((((((Hr.out.far (p := ⟨w.heap.size, 0, none⟩) (by simp; have := hgg.out; omega) _).far (p := ⟨w.heap.size, 1, none⟩) (by simp; have := hgg.out; omega) _).far (p := ⟨w.heap.size, 2, none⟩) (by simp; have := hgg.out; omega) _).far (p := ⟨w.heap.size, 3, none⟩) (by simp; have := hgg.out; omega) _).far (p := ⟨w.heap.size, 4, none⟩) (by simp; have := hgg.out; omega) _).far (p := ⟨w.heap.size, 5, none⟩) (by simp; have := hgg.out; omega) _), ((((((hbl.out.setCell (by simp) _).setCell (by simp) _).setCell (by simp) _).setCell (by simp) _).setCell (by simp) _).setCell (by simp) _)⟩
def x449 : ProtoX := ⟨[115, 110, 105], [193, 3], -1, false, .iface 147 (.agg #[fnv 131, fnv 132, fnv 133])⟩
theorem px_449 (w : World) : Calls Tryz.prog 101 #[] w (OutX x449 449 w) := by
  go_enter Tryz.func101, Tryz.ntmps101
  go_wp2_with (first
    | (go_at_call 109; refine (code_449 _).mono ?_; rintro e w1 ⟨g, rfl, hg, hr, hb⟩; have hk := (Blk.new w 77 pzero).below hb (by simp); have Hb := Lib.hid hb; have Hr := Lib.hid hr; clear hr hb; obtain ⟨c0, c1, c2, c3, c4, c5⟩ := pzero_cells hk; obtain ⟨f0, f1, f2, f3, f4, f5⟩ := six_frozen hk; have HK := Lib.hid hk; clear hk)
    | (go_at_call 112; refine (tr_Dns _).mono ?_; rintro e w2 ⟨rfl, rfl⟩))
  have hgg := Lib.hid (show w.heap.size + 1 ≤ g by simpa using hg)
  have hbb := ((Below.refl _ w).alloc (Nat.le_refl _) (.cells pzero 77)).trans (Hb.out.mono (by simp))
  have hbl := Lib.hid hbb
  clear hbb
  have hst := ((((((HK.out.set_ 0 (.string ⟨#[115, 110, 105]⟩)).set_ 1 (.int .i64 449)).set_ 2 (.slice (some ⟨g, 0, none⟩) 2 2)).set_ 3 (.int .i64 (-1))).set_ 4 (.bool false)).set_ 5 (.iface 147 (.agg #[fnv 131, fnv 132, fnv 133])))
  refine bodyPost_ret (results_cell_row rfl _ _ w.heap.size 77 (xcells x449 449 g) (0, 0) _ rfl hst Tryz.underlying77 rfl (proto_size.trans rfl)) rfl ?_
  exact ⟨g, rfl, Nat.le_of_succ_le hgg.out, ((((((Hr.out.far (p := ⟨w.heap.size, 0, none⟩) (by simp; have := hgg.out; omega) _).far (p := ⟨w.heap.size, 1, none⟩) (by simp; have := hgg.out; omega) _).far (p := ⟨w.heap.size, 2, none⟩) (by simp; have := hgg.out; omega) _).far (p := ⟨w.heap.size, 3, none⟩) (by simp; have := hgg.out; omega) _).far (p := ⟨w.heap.size, 4, none⟩) (by simp; have := hgg.out; omega) _).far (p := ⟨w.heap.size, 5, none⟩) (by simp; have := hgg.out; omega) _), ((((((hbl.out.setCell (by simp) _).setCell (by simp) _).setCell (by simp) _).setCell (by simp) _).setCell (by simp) _).setCell (by simp) _)⟩
def x454 : ProtoX := ⟨[110, 111, 105, 115, 101], [198, 3], 0, false, .nilIface⟩
theorem px_454 (w : World) : Calls Tryz.prog 102 #[] w (OutX x454 454 w) := by
  go_enter Tryz.func102, Tryz.ntmps102
  go_wp2_with (first
    | (go_at_call 109; refine (code_454 _).mono ?_; rintro e w1 ⟨g, rfl, hg, hr, hb⟩; have hk := (Blk.new w 77 pzero).below hb (by simp); have Hb := Lib.hid hb; have Hr := Lib.hid hr; clear hr hb; obtain ⟨c0, c1, c2, c3, c4, c5⟩ := pzero_cells hk; obtain ⟨f0, f1, f2, f3, f4, f5⟩ := six_frozen hk; have HK := Lib.hid hk; clear hk))
  have hgg := Lib.hid (show w.heap.size + 1 ≤ g by simpa using hg)
  have hbb := ((Below.refl _ w).alloc (Nat.le_refl _) (.cells pzero 77)).trans (Hb.out.mono (by simp))
  have hbl := Lib.hid hbb
  clear hbb
  have hst := ((((((HK.out.set_ 0 (.string ⟨#[110, 111, 105, 115, 101]⟩)).set_ 1 (.int .i64 454)).set_ 2 (.slice (some ⟨g, 0, none⟩) 2 2)).set_ 3 (.int .i64 0)).set_ 4 (.bool false)).set_ 5 (.nilIface))
  refine bodyPost_ret (results_cell_row rfl _ _ w.heap.size 77 (xcells x454 454 g) (0, 0) _ rfl hst Tryz.underlying77 rfl (proto_size.trans rfl)) rfl ?_
  exact ⟨g, rfl, Nat.le_of_succ_le hgg.out, ((((((Hr.out.far (p := ⟨w.heap.size, 0, none⟩) (by simp; have := hgg.out; omega) _).far (p := ⟨w.heap.size, 1, none⟩) (by simp; have := hgg.out; omega) _).far (p := ⟨w.heap.size, 2, none⟩) (by simp; have := hgg.out; omega) _).far (p := ⟨w.heap.size, 3, none⟩) (by simp; have := hgg.out; omega) _).far (p := ⟨w.heap.size, 4, none⟩) (by simp; have := hgg.out; omega) _).far (p := ⟨w.heap.size, 5, none⟩) (by simp; have := hgg.out; omega) _), ((((((hbl.out.setCell (by simp) _).setCell (by simp) _).setCell (by simp) _).setCell (by simp) _).setCell (by simp) _).setCell (by simp) _)⟩
def x460 : ProtoX := ⟨[113, 117, 105, 99], [204, 3], 0, false, .nilIface⟩
theorem px_460 (w : World) : Calls Tryz.prog 90 #[] w (OutX x460 460 w) := by
  go_enter Tryz.func90, Tryz.ntmps90
  go_wp2_with (first
    | (go_at_call 109; refine (code_460 _).mono ?_; rintro e w1 ⟨g, rfl, hg, hr, hb⟩; have hk := (Blk.new w 77 pzero).below hb (by simp); have Hb := Lib.hid hb; have Hr := Lib.hid hr; clear hr hb; obtain ⟨c0, c1, c2, c3, c4, c5⟩ := pzero_cells hk; obtain ⟨f0, f1, f2, f3, f4, f5⟩ := six_frozen hk; have HK := Lib.hid hk; clear hk))
  have hgg := Lib.hid (show w.heap.size + 1 ≤ g by simpa using hg)
  have hbb := ((Below.refl _ w).alloc (Nat.le_refl _) (.cells pzero 77)).trans (Hb.out.mono (by simp))
  have hbl := Lib.hid hbb
  clear hbb
  have hst := ((((((HK.out.set_ 0 (.string ⟨#[113, 117, 105, 99]⟩)).set_ 1 (.int .i64 460)).set_ 2 (.slice (some ⟨g, 0, none⟩) 2 2)).set_ 3 (.int .i64 0)).set_ 4 (.bool false)).set_ 5 (.nilIface))
  refine bodyPost_ret (results_cell_row rfl _ _ w.heap.size 77 (xcells x460 460 g) (0, 0) _ rfl hst Tryz.underlying77 rfl (proto_size.trans rfl)) rfl ?_
  exact ⟨g, rfl, Nat.le_of_succ_le hgg.out, ((((((Hr.out.far (p := ⟨w.heap.size, 0, none⟩) (by simp; have := hgg.out; omega) _).far (p := ⟨w.heap.size, 1, none⟩) (by simp; have := hgg.out; omega) _).far (p := ⟨w.heap.size, 2, none⟩) (by simp; have := hgg.out; omega) _).far (p := ⟨w.heap.size, 3, none⟩) (by simp; have := hgg.out; omega) _).far (p := ⟨w.heap.size, 4, none⟩) (by simp; have := hgg.out; omega) _).far (p := ⟨w.heap.size, 5, none⟩) (by simp; have := hgg.out; omega) _), ((((((hbl.out.setCell (by simp) _).setCell (by simp) _).setCell (by simp) _).setCell (by simp) _).setCell (by simp) _).setCell (by simp) _)⟩
def x461 : ProtoX := ⟨[113, 117, 105, 99, 45, 118, 49], [205, 3], 0, false, .nilIface⟩
def x465 : ProtoX := ⟨[119, 101, 98, 116, 114, 97, 110, 115, 112, 111, 114, 116], [209, 3], 0, false, .nilIface⟩
theorem px_465 (w : World) : Calls Tryz.prog 92 #[] w (OutX x465 465 w) := by
  go_enter Tryz.func92, Tryz.ntmps92
  go_wp2_with (first
    | (go_at_call 109; refine (code_465 _).mono ?_; rintro e w1 ⟨g, rfl, hg, hr, hb⟩; have hk := (Blk.new w 77 pzero).below hb (by simp); have Hb := Lib.hid hb; have Hr := Lib.hid hr; clear hr hb; obtain ⟨c0, c1, c2, c3, c4, c5⟩ := pzero_cells hk; obtain ⟨f0, f1, f2, f3, f4, f5⟩ := six_frozen hk; have HK := Lib.hid hk; clear hk))
  have hgg := Lib.hid (show w.heap.size + 1 ≤ g by simpa using hg)
  have hbb := ((Below.refl _ w).alloc (Nat.le_refl _) (.cells pzero 77)).trans (Hb.out.mono (by simp))
  have hbl := Lib.hid hbb
  clear hbb
  have hst := ((((((HK.out.set_ 0 (.string ⟨#[119, 101, 98, 116, 114, 97, 110, 115, 112, 111, 114, 116]⟩)).set_ 1 (.int .i64 465)).set_ 2 (.slice (some ⟨g, 0, none⟩) 2 2)).set_ 3 (.int .i64 0)).set_ 4 (.bool false)).set_ 5 (.nilIface))
  refine bodyPost_ret (results_cell_row rfl _ _ w.heap.size 77 (xcells x465 465 g) (0, 0) _ rfl hst Tryz.underlying77 rfl (proto_size.trans rfl)) rfl ?_
  exact ⟨g, rfl, Nat.le_of_succ_le hgg.out, ((((((Hr.out.far (p := ⟨w.heap.size, 0, none⟩) (by simp; have := hgg.out; omega) _).far (p := ⟨w.heap.size, 1, none⟩) (by simp; have := hgg.out; omega) _).far (p := ⟨w.heap.size, 2, none⟩) (by simp; have := hgg.out; omega) _).far (p := ⟨w.heap.size, 3, none⟩) (by simp; have := hgg.out; omega) _).far (p := ⟨w.heap.size, 4, none⟩) (by simp; have := hgg.out; omega) _).far (p := ⟨w.heap.size, 5, none⟩) (by simp; have := hgg.out; omega) _), ((((((hbl.out.setCell (by simp) _).setCell (by simp) _).setCell (by simp) _).setCell (by simp) _).setCell (by simp) _).setCell (by simp) _)⟩
def x466 : ProtoX := ⟨[99, 101, 114, 116, 104, 97, 115, 104], [210, 3], -1, false, .iface 147 (.agg #[fnv 154, fnv 155, fnv 156])⟩
theorem px_466 (w : World) : Calls Tryz.prog 93 #[] w (OutX x466 466 w) := by
  go_enter Tryz.func93, Tryz.ntmps93
  go_wp2_with (first
    | (go_at_call 109; refine (code_466 _).mono ?_; rintro e w1 ⟨g, rfl, hg, hr, hb⟩; have hk := (Blk.new w 77 pzero).below hb (by simp); have Hb := Lib.hid hb; have Hr := Lib.hid hr; clear hr hb; obtain ⟨c0, c1, c2, c3, c4, c5⟩ := pzero_cells hk; obtain ⟨f0, f1, f2, f3, f4, f5⟩ := six_frozen hk; have HK := Lib.hid hk; clear hk)
    | (go_at_call 120; refine (tr_CertHash _).mono ?_; rintro e w2 ⟨rfl, rfl⟩))
  have hgg := Lib.hid (show w.heap.size + 1 ≤ g by simpa using hg)
  have hbb := ((Below.refl _ w).alloc (Nat.le_refl _) (.cells pzero 77)).trans (Hb.out.mono (by simp))
  have hbl := Lib.hid hbb
  clear hbb
  have hst := ((((((HK.out.set_ 0 (.string ⟨#[99, 101, 114, 116, 104, 97, 115, 104]⟩)).set_ 1 (.int .i64 466)).set_ 2 (.slice (some ⟨g, 0, none⟩) 2 2)).set_ 3 (.int .i64 (-1))).set_ 4 (.bool false)).set_ 5 (.iface 147 (.agg #[fnv 154, fnv 155, fnv 156])))
  refine bodyPost_ret (results_cell_row rfl _ _ w.heap.size 77 (xcells x466 466 g) (0, 0) _ rfl hst Tryz.underlying77 rfl (proto_size.trans rfl)) rfl ?_
  exact ⟨g, rfl, Nat.le_of_succ_le hgg.out, ((((((Hr.out.far (p := ⟨w.heap.size, 0, none⟩) (by simp; have := hgg.out; omega) _).far (p := ⟨w.heap.size, 1, none⟩) (by simp; have := hgg.out; omega) _).far (p := ⟨w.heap.size, 2, none⟩) (by simp; have := hgg.out; omega) _).far (p := ⟨w.heap.size, 3, none⟩) (by simp; have := hgg.out; omega) _).far (p := ⟨w.heap.size, 4, none⟩) (by simp; have := hgg.out; omega) _).far (p := ⟨w.heap.size, 5, none⟩) (by simp; have := hgg.out; omega) _), ((((((hbl.out.setCell (by simp) _).setCell (by simp) _).setCell (by simp) _).setCell (by simp) _).setCell (by simp) _).setCell (by simp) _)⟩
def x477 : ProtoX := ⟨[119, 115], [221, 3], 0, false, .nilIface⟩
def x478 : ProtoX := ⟨[119, 115, 115], [222, 3], 0, false, .nilIface⟩
theorem px_478 (w : World) : Calls Tryz.prog 104 #[] w (OutX x478 478 w) := by
  go_enter Tryz.func104, Tryz.ntmps104
  go_wp2_with (first
    | (go_at_call 109; refine (code_478 _).mono ?_; rintro e w1 ⟨g, rfl, hg, hr, hb⟩; have hk := (Blk.new w 77 pzero).below hb (by simp); have Hb := Lib.hid hb; have Hr := Lib.hid hr; clear hr hb; obtain ⟨c0, c1, c2, c3, c4, c5⟩ := pzero_cells hk; obtain ⟨f0, f1, f2, f3, f4, f5⟩ := six_frozen hk; have HK := Lib.hid hk; clear hk))
  have hgg := Lib.hid (show w.heap.size + 1 ≤ g by simpa using hg)
  have hbb := ((Below.refl _ w).alloc (Nat.le_refl _) (.cells pzero 77)).trans (Hb.out.mono (by simp))
  have hbl := Lib.hid hbb
  clear hbb
  have hst := ((((((HK.out.set_ 0 (.string ⟨#[119, 115, 115]⟩)).set_ 1 (.int .i64 478)).set_ 2 (.slice (some ⟨g, 0, none⟩) 2 2)).set_ 3 (.int .i64 0)).set_ 4 (.bool false)).set_ 5 (.nilIface))
  refine bodyPost_ret (results_cell_row rfl _ _ w.heap.size 77 (xcells x478 478 g) (0, 0) _ rfl hst Tryz.underlying77 rfl (proto_size.trans rfl)) rfl ?_
  exact ⟨g, rfl, Nat.le_of_succ_le hgg.out, ((((((Hr.out.far (p := ⟨w.heap.size, 0, none⟩) (by simp; have := hgg.out; omega) _).far (p := ⟨w.heap.size, 1, none⟩) (by simp; have := hgg.out; omega) _).far (p := ⟨w.heap.size, 2, none⟩) (by simp; have := hgg.out; omega) _).far (p := ⟨w.heap.size, 3, none⟩) (by simp; have := hgg.out; omega) _).far (p := ⟨w.heap.size, 4, none⟩) (by simp; have := hgg.out; omega) _).far (p := ⟨w.heap.size, 5, none⟩) (by simp; have := hgg.out; omega) _), ((((((hbl.out.setCell (by simp) _).setCell (by simp) _).setCell (by simp) _).setCell (by simp) _).setCell (by simp) _).setCell (by simp) _)⟩
def x480 : ProtoX := ⟨[104, 116, 116, 112], [224, 3], 0, false, .nilIface⟩
theorem px_480 (w : World) : Calls Tryz.prog 94 #[] w (OutX x480 480 w) := by
  go_enter Tryz.func94, Tryz.ntmps94
  go_wp2_with (first
    | (go_at_call 109; refine (code_480 _).mono ?_; rintro e w1 ⟨g, rfl, hg, hr, hb⟩; have hk := (Blk.new w 77 pzero).below hb (by simp); have Hb := Lib.hid hb; have Hr := Lib.hid hr; clear hr hb; obtain ⟨c0, c1, c2, c3, c4, c5⟩ := pzero_cells hk; obtain ⟨f0, f1, f2, f3, f4, f5⟩ := six_frozen hk; have HK := Lib.hid hk; clear hk))
  have hgg := Lib.hid (show w.heap.size + 1 ≤ g by simpa using hg)
  have hbb := ((Below.refl _ w).alloc (Nat.le_refl _) (.cells pzero 77)).trans (Hb.out.mono (by simp))
  have hbl := Lib.hid hbb
  clear hbb
  have hst := ((((((HK.out.set_ 0 (.string ⟨#[104, 116, 116, 112]⟩)).set_ 1 (.int .i64 480)).set_ 2 (.slice (some ⟨g, 0, none⟩) 2 2)).set_ 3 (.int .i64 0)).set_ 4 (.bool false)).set_ 5 (.nilIface))
  refine bodyPost_ret (results_cell_row rfl _ _ w.heap.size 77 (xcells x480 480 g) (0, 0) _ rfl hst Tryz.underlying77 rfl (proto_size.trans rfl)) rfl ?_
  exact ⟨g, rfl, Nat.le_of_succ_le hgg.out, ((((((Hr.out.far (p := ⟨w.heap.size, 0, none⟩) (by simp; have := hgg.out; omega) _).far (p := ⟨w.heap.size, 1, none⟩) (by simp; have := hgg.out; omega) _).far (p := ⟨w.heap.size, 2, none⟩) (by simp; have := hgg.out; omega) _).far (p := ⟨w.heap.size, 3, none⟩) (by simp; have := hgg.out; omega) _).far (p := ⟨w.heap.size, 4, none⟩) (by simp; have := hgg.out; omega) _).far (p := ⟨w.heap.size, 5, none⟩) (by simp; have := hgg.out; omega) _), ((((((hbl.out.setCell (by simp) _).setCell (by simp) _).setCell (by simp) _).setCell (by simp) _).setCell (by simp) _).setCell (by simp) _)⟩
def x481 : ProtoX := ⟨[104, 116, 116, 112, 45, 112, 97, 116, 104], [225, 3], -1, false, .iface 147 (.agg #[fnv 157, fnv 158, fnv 159])⟩
theorem px_481 (w : World) : Calls Tryz.prog 95 #[] w (OutX x481 481 w) := by
  go_enter Tryz.func95, Tryz.ntmps95
  go_wp2_with (first
    | (go_at_call 109; refine (code_481 _).mono ?_; rintro e w1 ⟨g, rfl, hg, hr, hb⟩; have hk := (Blk.new w 77 pzero).below hb (by simp); have Hb := Lib.hid hb; have Hr := Lib.hid hr; clear hr hb; obtain ⟨c0, c1, c2, c3, c4, c5⟩ := pzero_cells hk; obtain ⟨f0, f1, f2, f3, f4, f5⟩ := six_frozen hk; have HK := Lib.hid hk; clear hk)
    | (go_at_call 121; refine (tr_HTTPPath _).mono ?_; rintro e w2 ⟨rfl, rfl⟩))
  have hgg := Lib.hid (show w.heap.size + 1 ≤ g by simpa using hg)
  have hbb := ((Below.refl _ w).alloc (Nat.le_refl _) (.cells pzero 77)).trans (Hb.out.mono (by simp))
  have hbl := Lib.hid hbb
  clear hbb
  have hst := ((((((HK.out.set_ 0 (.string ⟨#[104, 116, 116, 112, 45, 112, 97, 116, 104]⟩)).set_ 1 (.int .i64 481)).set_ 2 (.slice (some ⟨g, 0, none⟩) 2 2)).set_ 3 (.int .i64 (-1))).set_ 4 (.bool false)).set_ 5 (.iface 147 (.agg #[fnv 157, fnv 158, fnv 159])))
  refine bodyPost_ret (results_cell_row rfl _ _ w.heap.size 77 (xcells x481 481 g) (0, 0) _ rfl hst Tryz.underlying77 rfl (proto_size.trans rfl)) rfl ?_
  exact ⟨g, rfl, Nat.le_of_succ_le hgg.out, ((((((Hr.out.far (p := ⟨w.heap.size, 0, none⟩) (by simp; have := hgg.out; omega) _).far (p := ⟨w.heap.size, 1, none⟩) (by simp; have := hgg.out; omega) _).far (p := ⟨w.heap.size, 2, none⟩) (by simp; have := hgg.out; omega) _).far (p := ⟨w.heap.size, 3, none⟩) (by simp; have := hgg.out; omega) _).far (p := ⟨w.heap.size, 4, none⟩) (by simp; have := hgg.out; omega) _).far (p := ⟨w.heap.size, 5, none⟩) (by simp; have := hgg.out; omega) _), ((((((hbl.out.setCell (by simp) _).setCell (by simp) _).setCell (by simp) _).setCell (by simp) _).setCell (by simp) _).setCell (by simp) _)⟩
def x777 : ProtoX := ⟨[109, 101, 109, 111, 114, 121], [137, 6], 64, false, .iface 147 (.agg #[fnv 166, fnv 167, fnv 168])⟩
theorem px_777 (w : World) : Calls Tryz.prog 108 #[] w (OutX x777 777 w) := by
  go_enter Tryz.func108, Tryz.ntmps108
  go_wp2_with (first
    | (go_at_call 109; refine (code_777 _).mono ?_; rintro e w1 ⟨g, rfl, hg, hr, hb⟩; have hk := (Blk.new w 77 pzero).below hb (by simp); have Hb := Lib.hid hb; have Hr := Lib.hid hr; clear hr hb; obtain ⟨c0, c1, c2, c3, c4, c5⟩ := pzero_cells hk; obtain ⟨f0, f1, f2, f3, f4, f5⟩ := six_frozen hk; have HK := Lib.hid hk; clear hk)
    | (go_at_call 124; refine (tr_Memory _).mono ?_; rintro e w2 ⟨rfl, rfl⟩))
  have hgg := Lib.hid (show w.heap.size + 1 ≤ g by simpa using hg)
  have hbb := ((Below.refl _ w).alloc (Nat.le_refl _) (.cells pzero 77)).trans (Hb.out.mono (by simp))
  have hbl := Lib.hid hbb
  clear hbb
  have hst := ((((((HK.out.set_ 0 (.string ⟨#[109, 101, 109, 111, 114, 121]⟩)).set_ 1 (.int .i64 777)).set_ 2 (.slice (some ⟨g, 0, none⟩) 2 2)).set_ 3 (.int .i64 64)).set_ 4 (.bool false)).set_ 5 (.iface 147 (.agg #[fnv 166, fnv 167, fnv 168])))
  refine bodyPost_ret (results_cell_row rfl _ _ w.heap.size 77 (xcells x777 777 g) (0, 0) _ rfl hst Tryz.underlying77 rfl (proto_size.trans rfl)) rfl ?_
  exact ⟨g, rfl, Nat.le_of_succ_le hgg.out, ((((((Hr.out.far (p := ⟨w.heap.size, 0, none⟩) (by simp; have := hgg.out; omega) _).far (p := ⟨w.heap.size, 1, none⟩) (by simp; have := hgg.out; omega) _).far (p := ⟨w.heap.size, 2, none⟩) (by simp; have := hgg.out; omega) _).far (p := ⟨w.heap.size, 3, none⟩) (by simp; have := hgg.out; omega) _).far (p := ⟨w.heap.size, 4, none⟩) (by simp; have := hgg.out; omega) _).far (p := ⟨w.heap.size, 5, none⟩) (by simp; have := hgg.out; omega) _), ((((((hbl.out.setCell (by simp) _).setCell (by simp) _).setCell (by simp) _).setCell (by simp) _).setCell (by simp) _).setCell (by simp) _)⟩
def x7367777 : ProtoX := ⟨[112, 108, 97, 105, 110, 116, 101, 120, 116, 118, 50], [225, 216, 193, 3], 0, false, .nilIface⟩
theorem px_7367777 (w : World) : Calls Tryz.prog 105 #[] w (OutX x7367777 7367777 w) := by
  go_enter Tryz.func105, Tryz.ntmps105
  go_wp2_with (first
    | (go_at_call 109; refine (code_7367777 _).mono ?_; rintro e w1 ⟨g, rfl, hg, hr, hb⟩; have hk := (Blk.new w 77 pzero).below hb (by simp); have Hb := Lib.hid hb; have Hr := Lib.hid hr; clear hr hb; obtain ⟨c0, c1, c2, c3, c4, c5⟩ := pzero_cells hk; obtain ⟨f0, f1, f2, f3, f4, f5⟩ := six_frozen hk; have HK := Lib.hid hk; clear hk))
  have hgg := Lib.hid (show w.heap.size + 1 ≤ g by simpa using hg)
  have hbb := ((Below.refl _ w).alloc (Nat.le_refl _) (.cells pzero 77)).trans (Hb.out.mono (by simp))
  have hbl := Lib.hid hbb
  clear hbb
  have hst := ((((((HK.out.set_ 0 (.string ⟨#[112, 108, 97, 105, 110, 116, 101, 120, 116, 118, 50]⟩)).set_ 1 (.int .i64 7367777)).set_ 2 (.slice (some ⟨g, 0, none⟩) 4 4)).set_ 3 (.int .i64 0)).set_ 4 (.bool false)).set_ 5 (.nilIface))
  refine bodyPost_ret (results_cell_row rfl _ _ w.heap.size 77 (xcells x7367777 7367777 g) (0, 0) _ rfl hst Tryz.underlying77 rfl (proto_size.trans rfl)) rfl ?_
  exact ⟨g, rfl, Nat.le_of_succ_le hgg.out, ((((((Hr.out.far (p := ⟨w.heap.size, 0, none⟩) (by simp; have := hgg.out; omega) _).far (p := ⟨w.heap.size, 1, none⟩) (by simp; have := hgg.out; omega) _).far (p := ⟨w.heap.size, 2, none⟩) (by simp; have := hgg.out; omega) _).far (p := ⟨w.heap.size, 3, none⟩) (by simp; have := hgg.out; omega) _).far (p := ⟨w.heap.size, 4, none⟩) (by simp; have := hgg.out; omega) _).far (p := ⟨w.heap.size, 5, none⟩) (by simp; have := hgg.out; omega) _), ((((((hbl.out.setCell (by simp) _).setCell (by simp) _).setCell (by simp) _).setCell (by simp) _).setCell (by simp) _).setCell (by simp) _)⟩
end Go.Proofs.YtghddiboggdhcaaGreatDoor
