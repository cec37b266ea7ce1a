/- readComponent at a part of which the last byte is lost: an error. -/
import Derived.Test.YtpddelepoaichaaGreatDoorPl
namespace Go.Proofs.YtpddelepoaichaaGreatDoor
open Go.RowKit
attribute [local go_sem ↓] Go.wp_at_zero Go.wp_at_succ
/-- An error. -/
def OutE1 (w : World) (e : Ending) (w' : World) : Prop := ∃ t v, e = .returned (.iface t v) ∧ Below w.heap.size w w'
/-- No component, and an error. -/
def OutE3 (w : World) (e : Ending) (w' : World) : Prop := ∃ t v, e = .returned (.tuple #[.int .i64 0, .pointer none, .iface t v]) ∧ Below w.heap.size w w'
/-- The error of a number that does not end. -/
structure Und (w : World) : Prop where
  held : ∃ t v, w.cell? ⟨4, 0, none⟩ = some (.iface t v)
theorem Und.below {w w' : World} (h : Und w) (hb : Below w.heap.size w w') : Und w' := by
  obtain ⟨t, v, hc⟩ := h.held
  exact ⟨t, v, (hb.cell (World.block_lt_of_cell? _ _ hc)).trans hc⟩
set_option maxHeartbeats 1000000 in
set_option maxRecDepth 100000 in
theorem errnew_any (s : ByteArray) (w : World) : Calls Tryz.prog 43 #[.string s] w (OutE1 w) := by
  go_enter Tryz.func43, Tryz.ntmps43
  go_wp2_with fail
  go_ret
  exact ⟨_, _, rfl, (Below.refl _ w).alloc (Nat.le_refl _) _⟩
set_option maxRecDepth 100000 in
set_option maxHeartbeats 1000000 in
theorem from_torn (A : Option Addr) (c : Nat) (b : UInt8) (w : World) (h : RB w w.heap.size A 1 c [b]) (hu : Und w) (hb : 128 ≤ b.toNat) :
    Calls Tryz.prog 53 #[.slice A 1 c] w fun e w' => (∃ t v, e = .returned (.tuple #[.int .u64 0, .int .i64 0, .iface t v])) ∧ ∃ n, w' = w.drewN n := by
  obtain ⟨ad, rfl, hbk, hn, hcell, _⟩ := h.first
  obtain ⟨t, v, hc⟩ := hu.held
  have hlt : ¬ ((b.toNat : Int) < 128) := by omega
  clear h hn hu
  go_enter Tryz.func53, Tryz.ntmps53
  go_wp2_with fail
  refine wp_loop_rounds 2 ?_
  rw [rounds_succ]
  go_wp2_with fail
  rw [rounds_succ]
  go_wp2_with fail
  go_quiet (fail)
  go_wp2_with fail
  go_ret3
  exact ⟨⟨t, v, rfl⟩, _, rfl⟩
set_option maxRecDepth 100000 in
set_option maxHeartbeats 1000000 in
theorem readvar_torn (A : Option Addr) (c : Nat) (b : UInt8) (w : World) (h : RB w w.heap.size A 1 c [b]) (hu : Und w) (hb : 128 ≤ b.toNat) :
    Calls Tryz.prog 49 #[.slice A 1 c] w fun e w' => (∃ t v, e = .returned (.tuple #[.int .i64 0, .int .i64 0, .iface t v])) ∧ Below w.heap.size w w' := by
  have H := Lib.hid (from_torn A c b w h hu hb)
  clear h hu
  go_enter Tryz.func49, Tryz.ntmps49
  go_wp2_with fail
  refine H.out.mono ?_
  rintro e w' ⟨⟨t, v, rfl⟩, k, rfl⟩
  go_wp2_with fail
  go_ret3
  exact ⟨⟨t, v, rfl⟩, below_drewN (Below.refl _ _) _⟩
set_option maxRecDepth 100000 in
set_option maxHeartbeats 1000000 in
theorem torn_code (A : Option Addr) (c : Nat) (b : UInt8) (w : World) (h : RB w w.heap.size A 1 c [b]) (hu : Und w) (hb : 128 ≤ b.toNat) :
    Calls Tryz.prog 48 #[.slice A 1 c] w (OutE3 w) := by
  have H := Lib.hid (readvar_torn A c b w h hu hb)
  clear h hu
  go_enter Tryz.func48, Tryz.ntmps48
  go_wp2_with fail
  refine H.out.mono ?_
  rintro e w' ⟨⟨t, v, rfl⟩, hb1⟩
  have HB := Lib.hid hb1
  clear hb1
  go_wp2_with fail
  go_ret3
  exact ⟨t, v, rfl, HB.out⟩

set_option maxHeartbeats 2000000 in
set_option maxRecDepth 100000 in
theorem torn_4 (A : Option Addr) (c : Nat) (d : List UInt8) (w : World) (h : RB w w.heap.size A (4) c ([4] ++ d)) (_hd : d.length = 3) :
    Calls Tryz.prog 48 #[.slice A (4) c] w (OutE3 w) := by
  have hcap := h.cap
  have hmax : c ≤ 9223372036854775807 := h.max
  have HRV := Lib.hid (readvar_one A 4 c 4 d w h (by decide))
  have HB := Lib.hid h
  clear h
  go_enter Tryz.func48, Tryz.ntmps48
  go_wp2_with fail
  refine HRV.out.mono ?_
  rintro e w' ⟨rfl, rfl⟩
  go_wp2_with fail
  refine (pcode_4 _).mono ?_
  rintro e w1 ⟨g1, rfl, _, _, hb1⟩
  have HB1 := Lib.hid hb1
  clear hb1
  go_wp2_with fail
  rw [run_storeCells_new w1 84 #[.string ⟨#[]⟩, .int .i64 0, .slice none 0 0, .int .i64 0, .bool false, .nilIface] (pcells 4 g1) rfl (pcells_one _ _)]
  have hk := Blk.new w1 84 (pcells 4 g1)
  have k1 : (w1.alloc (.cells (pcells 4 g1) 84)).cell? ⟨w1.heap.size, 1, none⟩ = some (.int .i64 4) := hk.cell 1
  have HK := Lib.hid hk
  clear hk
  go_wp2_with fail
  clear k1
  refine (ptr_4 _).mono ?_
  rintro e w3 ⟨p, g, rfl, _, _, _, hp, hv, hb3⟩
  have k3 : w3.cell? ⟨w1.heap.size, 3, none⟩ = some (.int .i64 32) := ((HK.out.below hb3 HK.out.lt).cell 3)
  have HB3 := Lib.hid ((HB1.out.alloc HB1.out.size (.cells (pcells 4 g1) 84)).trans (hb3.mono (Nat.le_trans HB1.out.size (by simp))))
  clear hp hv hb3
  go_wp2_with fail
  refine (errnew_any _ _).mono ?_
  rintro e w5 ⟨t, v, rfl, hb5⟩
  have HBF := Lib.hid (HB3.out.trans (hb5.mono HB3.out.size))
  clear hb5
  go_wp2_with fail
  go_ret3
  exact ⟨t, v, rfl, HBF.out⟩

set_option maxHeartbeats 2000000 in
set_option maxRecDepth 100000 in
theorem torn_6 (A : Option Addr) (c : Nat) (d : List UInt8) (w : World) (h : RB w w.heap.size A (2) c ([6] ++ d)) (_hd : d.length = 1) :
    Calls Tryz.prog 48 #[.slice A (2) c] w (OutE3 w) := by
  have hcap := h.cap
  have hmax : c ≤ 9223372036854775807 := h.max
  have HRV := Lib.hid (readvar_one A 2 c 6 d w h (by decide))
  have HB := Lib.hid h
  clear h
  go_enter Tryz.func48, Tryz.ntmps48
  go_wp2_with fail
  refine HRV.out.mono ?_
  rintro e w' ⟨rfl, rfl⟩
  go_wp2_with fail
  refine (pcode_6 _).mono ?_
  rintro e w1 ⟨g1, rfl, _, _, hb1⟩
  have HB1 := Lib.hid hb1
  clear hb1
  go_wp2_with fail
  rw [run_storeCells_new w1 84 #[.string ⟨#[]⟩, .int .i64 0, .slice none 0 0, .int .i64 0, .bool false, .nilIface] (pcells 6 g1) rfl (pcells_one _ _)]
  have hk := Blk.new w1 84 (pcells 6 g1)
  have k1 : (w1.alloc (.cells (pcells 6 g1) 84)).cell? ⟨w1.heap.size, 1, none⟩ = some (.int .i64 6) := hk.cell 1
  have HK := Lib.hid hk
  clear hk
  go_wp2_with fail
  clear k1
  refine (ptr_6 _).mono ?_
  rintro e w3 ⟨p, g, rfl, _, _, _, hp, hv, hb3⟩
  have k3 : w3.cell? ⟨w1.heap.size, 3, none⟩ = some (.int .i64 16) := ((HK.out.below hb3 HK.out.lt).cell 3)
  have HB3 := Lib.hid ((HB1.out.alloc HB1.out.size (.cells (pcells 6 g1) 84)).trans (hb3.mono (Nat.le_trans HB1.out.size (by simp))))
  clear hp hv hb3
  go_wp2_with fail
  refine (errnew_any _ _).mono ?_
  rintro e w5 ⟨t, v, rfl, hb5⟩
  have HBF := Lib.hid (HB3.out.trans (hb5.mono HB3.out.size))
  clear hb5
  go_wp2_with fail
  go_ret3
  exact ⟨t, v, rfl, HBF.out⟩

set_option maxHeartbeats 2000000 in
set_option maxRecDepth 100000 in
theorem torn_41 (A : Option Addr) (c : Nat) (d : List UInt8) (w : World) (h : RB w w.heap.size A (16) c ([41] ++ d)) (_hd : d.length = 15) :
    Calls Tryz.prog 48 #[.slice A (16) c] w (OutE3 w) := by
  have hcap := h.cap
  have hmax : c ≤ 9223372036854775807 := h.max
  have HRV := Lib.hid (readvar_one A 16 c 41 d w h (by decide))
  have HB := Lib.hid h
  clear h
  go_enter Tryz.func48, Tryz.ntmps48
  go_wp2_with fail
  refine HRV.out.mono ?_
  rintro e w' ⟨rfl, rfl⟩
  go_wp2_with fail
  refine (pcode_41 _).mono ?_
  rintro e w1 ⟨g1, rfl, _, _, hb1⟩
  have HB1 := Lib.hid hb1
  clear hb1
  go_wp2_with fail
  rw [run_storeCells_new w1 84 #[.string ⟨#[]⟩, .int .i64 0, .slice none 0 0, .int .i64 0, .bool false, .nilIface] (pcells 41 g1) rfl (pcells_one _ _)]
  have hk := Blk.new w1 84 (pcells 41 g1)
  have k1 : (w1.alloc (.cells (pcells 41 g1) 84)).cell? ⟨w1.heap.size, 1, none⟩ = some (.int .i64 41) := hk.cell 1
  have HK := Lib.hid hk
  clear hk
  go_wp2_with fail
  clear k1
  refine (ptr_41 _).mono ?_
  rintro e w3 ⟨p, g, rfl, _, _, _, hp, hv, hb3⟩
  have k3 : w3.cell? ⟨w1.heap.size, 3, none⟩ = some (.int .i64 128) := ((HK.out.below hb3 HK.out.lt).cell 3)
  have HB3 := Lib.hid ((HB1.out.alloc HB1.out.size (.cells (pcells 41 g1) 84)).trans (hb3.mono (Nat.le_trans HB1.out.size (by simp))))
  clear hp hv hb3
  go_wp2_with fail
  refine (errnew_any _ _).mono ?_
  rintro e w5 ⟨t, v, rfl, hb5⟩
  have HBF := Lib.hid (HB3.out.trans (hb5.mono HB3.out.size))
  clear hb5
  go_wp2_with fail
  go_ret3
  exact ⟨t, v, rfl, HBF.out⟩

set_option maxHeartbeats 2000000 in
set_option maxRecDepth 100000 in
theorem torn_273 (A : Option Addr) (c : Nat) (d : List UInt8) (w : World) (h : RB w w.heap.size A (3) c ([145, 2] ++ d)) (_hd : d.length = 1) :
    Calls Tryz.prog 48 #[.slice A (3) c] w (OutE3 w) := by
  have hcap := h.cap
  have hmax : c ≤ 9223372036854775807 := h.max
  have HRV := Lib.hid (readvar_273 A 3 c d w h)
  have HB := Lib.hid h
  clear h
  go_enter Tryz.func48, Tryz.ntmps48
  go_wp2_with fail
  refine HRV.out.mono ?_
  rintro e w' ⟨rfl, rfl⟩
  go_wp2_with fail
  refine (pcode_273 _).mono ?_
  rintro e w1 ⟨g1, rfl, _, _, hb1⟩
  have HB1 := Lib.hid hb1
  clear hb1
  go_wp2_with fail
  rw [run_storeCells_new w1 84 #[.string ⟨#[]⟩, .int .i64 0, .slice none 0 0, .int .i64 0, .bool false, .nilIface] (pcells 273 g1) rfl (pcells_one _ _)]
  have hk := Blk.new w1 84 (pcells 273 g1)
  have k1 : (w1.alloc (.cells (pcells 273 g1) 84)).cell? ⟨w1.heap.size, 1, none⟩ = some (.int .i64 273) := hk.cell 1
  have HK := Lib.hid hk
  clear hk
  go_wp2_with fail
  clear k1
  refine (ptr_273 _).mono ?_
  rintro e w3 ⟨p, g, rfl, _, _, _, hp, hv, hb3⟩
  have k3 : w3.cell? ⟨w1.heap.size, 3, none⟩ = some (.int .i64 16) := ((HK.out.below hb3 HK.out.lt).cell 3)
  have HB3 := Lib.hid ((HB1.out.alloc HB1.out.size (.cells (pcells 273 g1) 84)).trans (hb3.mono (Nat.le_trans HB1.out.size (by simp))))
  clear hp hv hb3
  go_wp2_with fail
  refine (errnew_any _ _).mono ?_
  rintro e w5 ⟨t, v, rfl, hb5⟩
  have HBF := Lib.hid (HB3.out.trans (hb5.mono HB3.out.size))
  clear hb5
  go_wp2_with fail
  go_ret3
  exact ⟨t, v, rfl, HBF.out⟩

set_option maxHeartbeats 2000000 in
set_option maxRecDepth 100000 in
theorem torn_421 (A : Option Addr) (c : Nat) (bb : UInt8) (d : List UInt8) (w : World) (h : RB w w.heap.size A (d.length + 3) c ([165, 3] ++ ([bb] ++ d))) (hbb : bb.toNat = d.length + 1) (hd : d.length ≤ 43) (hd0 : 1 ≤ d.length) :
    Calls Tryz.prog 48 #[.slice A (d.length + 3) c] w (OutE3 w) := by
  have hcap := h.cap
  have hmax : c ≤ 9223372036854775807 := h.max
  have hcne : ¬ c = 2 := by omega
  have hcne3 : ¬ c = 3 := by omega
  have HRV := Lib.hid (readvar_421 A (d.length + 3) c _ w h)
  have HB := Lib.hid h
  have HD2 := Lib.hid (h.drop (k := 2) (by omega))
  have HBB := Lib.hid hbb
  clear h hbb
  go_enter Tryz.func48, Tryz.ntmps48
  go_wp2_with fail
  refine HRV.out.mono ?_
  rintro e w' ⟨rfl, rfl⟩
  go_wp2_with fail
  refine (pcode_421 _).mono ?_
  rintro e w1 ⟨g1, rfl, _, _, hb1⟩
  have HB1 := Lib.hid hb1
  clear hb1
  go_wp2_with fail
  rw [run_storeCells_new w1 84 #[.string ⟨#[]⟩, .int .i64 0, .slice none 0 0, .int .i64 0, .bool false, .nilIface] (pcells 421 g1) rfl (pcells_one _ _)]
  have hk := Blk.new w1 84 (pcells 421 g1)
  have k1 : (w1.alloc (.cells (pcells 421 g1) 84)).cell? ⟨w1.heap.size, 1, none⟩ = some (.int .i64 421) := hk.cell 1
  have HK := Lib.hid hk
  clear hk
  go_wp2_with fail
  clear k1
  refine (ptr_421 _).mono ?_
  rintro e w3 ⟨p, g, rfl, _, _, _, hp, hv, hb3⟩
  have k3 : w3.cell? ⟨w1.heap.size, 3, none⟩ = some (.int .i64 (-1)) := ((HK.out.below hb3 HK.out.lt).cell 3)
  have HB3 := Lib.hid ((HB1.out.alloc HB1.out.size (.cells (pcells 421 g1) 84)).trans (hb3.mono (Nat.le_trans HB1.out.size (by simp))))
  clear hp hv hb3
  go_wp2_with fail
  have hd2 := HD2.out.below HB3.out
  rw [if_neg hcne] at hd2
  have hrv := readvar_one _ _ _ bb _ _ (hd2.more HB3.out.size) (by have := HBB.out; omega)
  rw [HBB.out] at hrv
  have HRW := Lib.hid hrv
  clear hd2 hrv
  refine HRW.out.mono ?_
  rintro e w' ⟨rfl, rfl⟩
  go_wp2_with fail
  refine (errnew_any _ _).mono ?_
  rintro e w5 ⟨t, v, rfl, hb5⟩
  have HBF := Lib.hid (HB3.out.trans (hb5.mono HB3.out.size))
  clear hb5
  go_wp2_with fail
  go_ret3
  exact ⟨t, v, rfl, HBF.out⟩
end Go.Proofs.YtpddelepoaichaaGreatDoor
