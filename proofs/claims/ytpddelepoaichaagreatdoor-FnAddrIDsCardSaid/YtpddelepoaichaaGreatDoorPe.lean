/- Multihashes of one byte of code and one byte of length: what the package makes of them. -/
import Derived.Test.YtpddelepoaichaaGreatDoorPd
import Derived.BigQuiet
import Derived.Deep.QuietTactic
import Derived.Outline
namespace Go.Proofs.YtpddelepoaichaaGreatDoor
open Go.RowKit
theorem RB.drewN {w : World} {B n c : Nat} {A : Option Addr} {l : List UInt8} (h : RB w B A n c l) (k : Nat) : RB (w.drewN k) B A n c l := ⟨h.reads.drewN k, h.cap, h.max⟩
theorem RB.undrewN {w : World} {B n c k : Nat} {A : Option Addr} {l : List UInt8} (h : RB (w.drewN k) B A n c l) : RB w B A n c l := ⟨h.reads, h.cap, h.max⟩
theorem RB.alloc {w : World} {n c : Nat} {A : Option Addr} {l : List UInt8} (h : RB w w.heap.size A n c l) (o : Obj) : RB (w.alloc o) (w.alloc o).heap.size A n c l := h.next ((Below.refl _ _).alloc (Nat.le_refl _) _)
/-- The rest of the bytes, behind a number. -/
def OutU (v : Nat) (l : List UInt8) (w : World) (e : Ending) (w' : World) : Prop :=
  ∃ A c k, e = .returned (.tuple #[.int .u64 v, .slice A l.length c, .nilIface]) ∧ w' = w.drewN k ∧ RB w w.heap.size A l.length c l

set_option maxRecDepth 100000 in
set_option maxHeartbeats 1000000 in
theorem muv_any (A : Option Addr) (n c : Nat) (b : UInt8) (v : Nat) (l : List UInt8) (w : World) (h : RB w w.heap.size A n c (b :: l)) (hv : b.toNat = v) (hb : v < 128) :
    Calls Tryz.prog 322 #[.slice A n c] w (OutU v l w) := by
  have hlen := h.len
  have hn : n = l.length + 1 := by simp at hlen; omega
  subst hn
  have hd := Lib.hid (h.drop (k := 1) (by omega))
  have hcap := h.cap
  have hm := h.max
  unfold maxLen at hm
  have hc := from_one A (l.length + 1) c b l w h (by omega)
  rw [hv] at hc
  have HC := Lib.hid hc
  clear h hlen hv hc
  go_enter Tryz.func322, Tryz.ntmps322
  go_wp2_with (go_at_call 53; refine HC.out.mono ?_; rintro e w' ⟨rfl, rfl⟩)
  go_quiet (fail)
  go_wp2_with fail
  · go_ret3
    have hd := hd.out
    rw [if_pos h] at hd
    subst h
    exact ⟨_, _, _, rfl, rfl, hd⟩
  · go_ret3
    have hd := hd.out
    rw [if_neg h] at hd
    exact ⟨_, _, _, rfl, rfl, hd⟩

/-- What a multihash holds. -/
def OutM (v : Nat) (l : List UInt8) (w : World) (e : Ending) (w' : World) : Prop :=
  ∃ A c k, e = .returned (.tuple #[.int .i64 (l.length + 2 : Nat), .int .u64 v, .slice A l.length c, .nilIface]) ∧ w' = w.drewN k ∧ RB w w.heap.size A l.length c l

set_option maxRecDepth 100000 in
set_option maxHeartbeats 1000000 in
theorem readmh_any (A : Option Addr) (c : Nat) (b b2 : UInt8) (v : Nat) (l : List UInt8) (w : World) (h : RB w w.heap.size A (l.length + 2) c (b :: b2 :: l)) (hv : b.toNat = v) (hb : v < 128) (hv2 : b2.toNat = l.length) (hb2 : l.length < 128) :
    Calls Tryz.prog 288 #[.slice A (l.length + 2 : Nat) c] w (OutM v l w) := by
  have HC := Lib.hid (muv_any A (l.length + 2) c b v (b2 :: l) w h hv hb)
  have HV := Lib.hid hv2
  clear h hv hv2
  go_enter Tryz.func288, Tryz.ntmps288
  go_wp2_with fail
  refine HC.out.mono ?_
  rintro e w' ⟨A1, c1, k1, rfl, rfl, hr⟩
  have HR := Lib.hid (muv_any A1 _ c1 b2 l.length l _ (hr.drewN k1) HV.out hb2)
  clear hr
  go_wp2_with fail
  refine HR.out.mono ?_
  rintro e w' ⟨A2, c2, k2, rfl, rfl, hr⟩
  have hcap := hr.cap
  have hmax : c2 ≤ 9223372036854775807 := hr.max
  have HR2 := Lib.hid (hr.drewN k1)
  clear hr
  go_wp2_with fail
  go_quiet (fail)
  go_wp2_with fail
  refine bodyPost_ret (results_tmp4 rfl _ _ _) rfl ?_
  exact ⟨A2, c2, _, rfl, by simp only [World.drewN_drewN]; rfl, HR2.out.undrewN.undrewN⟩

theorem dm_size : (Tryz.prog.info? 171).map (·.size) = some 4 := by kernel_rfl
/-- A multihash, read. -/
def OutD (v : Nat) (l : List UInt8) (w : World) (e : Ending) (w' : World) : Prop :=
  ∃ A c, e = .returned (.tuple #[.agg #[.int .u64 v, .string ⟨#[]⟩, .int .i64 l.length, .slice A l.length c], .nilIface]) ∧ Below w.heap.size w w'
set_option maxRecDepth 100000 in
set_option maxHeartbeats 1000000 in
theorem decode_any (A : Option Addr) (c : Nat) (b b2 : UInt8) (v : Nat) (l : List UInt8) (w : World) (h : RB w w.heap.size A (l.length + 2) c (b :: b2 :: l)) (hv : b.toNat = v) (hb : v < 128) (hv2 : b2.toNat = l.length) (hb2 : l.length < 128) :
    Calls Tryz.prog 228 #[.slice A (l.length + 2 : Nat) c] w (OutD v l w) := by
  have HC := Lib.hid (readmh_any A c b b2 v l _ (h.alloc (.cells #[.int .u64 0, .string ⟨#[]⟩, .int .i64 0, .slice none 0 0] 171)) hv hb hv2 hb2)
  clear h hv hv2
  go_enter Tryz.func228, Tryz.ntmps228
  go_wp2_with fail
  refine HC.out.mono ?_
  rintro e w1 ⟨A1, cc, k1, rfl, hw, hr⟩
  have hk : Blk w1 w.heap.size 171 #[.int .u64 0, .string ⟨#[]⟩, .int .i64 0, .slice none 0 0] := by rw [hw]; exact (Blk.new _ _ _).drewN _
  have hb1 : Below w.heap.size w w1 := by rw [hw]; exact below_drewN ((Below.refl _ w).alloc (Nat.le_refl _) _) _
  have c0 : w1.cell? ⟨w.heap.size, 0, none⟩ = some (.int .u64 0) := hk.cell 0
  have c1 : w1.cell? ⟨w.heap.size, 1, none⟩ = some (.string ⟨#[]⟩) := hk.cell 1
  have c2 : w1.cell? ⟨w.heap.size, 2, none⟩ = some (.int .i64 0) := hk.cell 2
  have c3 : w1.cell? ⟨w.heap.size, 3, none⟩ = some (.slice none 0 0) := hk.cell 3
  obtain ⟨f0, f1, f2, f3, _, _⟩ := six_frozen hk
  have HB := Lib.hid hb1
  have HK := Lib.hid hk
  clear hr hw hk hb1
  go_wp2_with fail
  exact bodyPost_ret (results_cell_tmp rfl _ _ w.heap.size 171 #[.int .u64 v, .string ⟨#[]⟩, .int .i64 l.length, .slice A1 l.length cc] (0, 0) _ rfl ((((((((HK.out.set_ 0 (.int .u64 v)).set_ 1 (.string ⟨#[]⟩)).set_ 2 (.int .i64 l.length)).set_ 3 (.slice A1 l.length cc)).set_ 0 (.int .u64 v)).set_ 1 (.string ⟨#[]⟩)).set_ 2 (.int .i64 l.length)).set_ 3 (.slice A1 l.length cc)) Tryz.underlying171 rfl dm_size) rfl
    ⟨A1, cc, rfl, ((((((((HB.out.setCell (Nat.le_refl _) _).setCell (Nat.le_refl _) _).setCell (Nat.le_refl _) _).setCell (Nat.le_refl _) _).setCell (Nat.le_refl _) _).setCell (Nat.le_refl _) _).setCell (Nat.le_refl _) _).setCell (Nat.le_refl _) _)⟩

/-- A multihash, read, on the heap. -/
def OutDP (v : Nat) (l : List UInt8) (w : World) (e : Ending) (w' : World) : Prop :=
  ∃ g A c, e = .returned (.tuple #[.pointer (some ⟨g, 0, none⟩), .nilIface]) ∧ Blk w' g 171 #[.int .u64 v, .string ⟨#[]⟩, .int .i64 l.length, .slice A l.length c] ∧ Below w.heap.size w w'
set_option maxRecDepth 100000 in
set_option maxHeartbeats 1000000 in
theorem mdecode_any (A : Option Addr) (c : Nat) (b b2 : UInt8) (v : Nat) (l : List UInt8) (w : World) (h : RB w w.heap.size A (l.length + 2) c (b :: b2 :: l)) (hv : b.toNat = v) (hb : v < 128) (hv2 : b2.toNat = l.length) (hb2 : l.length < 128) :
    Calls Tryz.prog 179 #[.slice A (l.length + 2 : Nat) c] w (OutDP v l w) := by
  have HC := Lib.hid (decode_any A c b b2 v l _ h hv hb hv2 hb2)
  clear h hv hv2
  go_enter Tryz.func179, Tryz.ntmps179
  go_wp2_with fail
  refine HC.out.mono ?_
  rintro e w1 ⟨A1, cc, rfl, hb1⟩
  have HB := Lib.hid hb1
  clear hb1
  go_wp2_with fail
  go_ret2
  exact ⟨w1.heap.size, A1, cc, rfl, Blk.new _ _ _, HB.out.alloc HB.out.size _⟩
set_option maxRecDepth 100000 in
set_option maxHeartbeats 1000000 in
theorem cast_any (A : Option Addr) (c : Nat) (b b2 : UInt8) (v : Nat) (l : List UInt8) (w : World) (h : RB w w.heap.size A (l.length + 2) c (b :: b2 :: l)) (hv : b.toNat = v) (hb : v < 128) (hv2 : b2.toNat = l.length) (hb2 : l.length < 128) :
    Calls Tryz.prog 188 #[.slice A (l.length + 2 : Nat) c] w fun e w' => e = .returned (.tuple #[.slice A (l.length + 2 : Nat) c, .nilIface]) ∧ Below w.heap.size w w' := by
  have HC := Lib.hid (mdecode_any A c b b2 v l _ h hv hb hv2 hb2)
  clear h hv hv2
  go_enter Tryz.func188, Tryz.ntmps188
  go_wp2_with fail
  refine HC.out.mono ?_
  rintro e w1 ⟨g, A1, cc, rfl, _, hb1⟩
  have HB := Lib.hid hb1
  clear hb1
  go_wp2_with fail
  go_ret2
  exact ⟨rfl, HB.out⟩
set_option maxRecDepth 100000 in
set_option maxHeartbeats 1000000 in
theorem pval_0 (A : Option Addr) (c : Nat) (b b2 : UInt8) (l : List UInt8) (w : World) (h : RB w w.heap.size A (l.length + 2) c (b :: b2 :: l)) (hv : b.toNat = 0) (hv2 : b2.toNat = l.length) (hb2 : l.length < 128) :
    Calls Tryz.prog 147 #[.slice A (l.length + 2 : Nat) c] w fun e w' => e = .returned .nilIface ∧ Below w.heap.size w w' := by
  have HC := Lib.hid (mdecode_any A c b b2 0 l _ h hv (by omega) hv2 hb2)
  clear h hv hv2
  go_enter Tryz.func147, Tryz.ntmps147
  go_wp2_with fail
  refine HC.out.mono ?_
  rintro e w1 ⟨g, A1, cc, rfl, hk, hb1⟩
  have HB := Lib.hid hb1
  have c0 : w1.cell? ⟨g, 0, none⟩ = some (.int .u64 0) := hk.cell 0
  have c2 : w1.cell? ⟨g, 2, none⟩ = some (.int .i64 l.length) := hk.cell 2
  clear hb1 hk
  go_wp2_with fail
  go_ret
  exact ⟨rfl, HB.out⟩
set_option maxRecDepth 100000 in
set_option maxHeartbeats 1000000 in
theorem pval_18 (A : Option Addr) (c : Nat) (b b2 : UInt8) (l : List UInt8) (w : World) (h : RB w w.heap.size A (l.length + 2) c (b :: b2 :: l)) (hv : b.toNat = 18) (hv2 : b2.toNat = l.length) (hb2 : l.length < 128) (hl : l.length = 32) :
    Calls Tryz.prog 147 #[.slice A (l.length + 2 : Nat) c] w fun e w' => e = .returned .nilIface ∧ Below w.heap.size w w' := by
  have HC := Lib.hid (mdecode_any A c b b2 18 l _ h hv (by omega) hv2 hb2)
  have HL := Lib.hid hl
  clear hl
  clear h hv hv2
  go_enter Tryz.func147, Tryz.ntmps147
  go_wp2_with fail
  refine HC.out.mono ?_
  rintro e w1 ⟨g, A1, cc, rfl, hk, hb1⟩
  have HB := Lib.hid hb1
  have c0 : w1.cell? ⟨g, 0, none⟩ = some (.int .u64 18) := hk.cell 0
  have c2 : w1.cell? ⟨g, 2, none⟩ = some (.int .i64 l.length) := hk.cell 2
  have c3 : w1.cell? ⟨g, 2, none⟩ = some (.int .i64 32) := by rw [c2, HL.out]; rfl
  clear c2
  clear hb1 hk
  go_wp2_with fail
  go_ret
  exact ⟨rfl, HB.out⟩
end Go.Proofs.YtpddelepoaichaaGreatDoor
