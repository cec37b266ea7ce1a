/- The texts of IPv6 addresses and of multihashes: they are there. -/
import Derived.Test.YthpcfnegfdcbjaaGreatDoorPz1
import Derived.Test.YthpcfnegfdcbjaaGreatDoorPz4
import Derived.Test.YthpcfnegfdcbjaaGreatDoorPg
import Derived.StillTailTactics
namespace Go.Proofs.YthpcfnegfdcbjaaGreatDoor
open Go.RowKit
attribute [local go_sem ↓] Go.wp_at_zero Go.wp_at_succ
set_option maxHeartbeats 2000000 in
set_option maxRecDepth 100000 in
theorem btc_any (w : World) : Calls Tryz.prog 273 #[] w fun e w' => ∃ xs, e = .returned (.pointer (some ⟨w.heap.size, 0, none⟩)) ∧ Blk w' w.heap.size 337 xs ∧ Alp xs ∧ Below w.heap.size w w' := by
  have HN := Lib.hid (newalpha w)
  go_enter Tryz.func273, Tryz.ntmps273
  go_wp2_with fail
  refine HN.out.mono ?_
  rintro e w1 ⟨xs, rfl, hb, ha, hbe⟩
  have H := Lib.hid (And.intro hb (And.intro ha hbe))
  clear hb ha hbe
  go_wp2_with fail
  go_ret
  exact ⟨xs, rfl, H.out.1, H.out.2.1, H.out.2.2⟩
set_option maxHeartbeats 2000000 in
set_option maxRecDepth 100000 in
theorem fast_any (A : Option Addr) (n c : Nat) (d : List UInt8) (w : World) (hd : d.length ≤ 44) (h : RB w w.heap.size A n c d) : Calls Tryz.prog 354 #[.slice A n c] w (OutS 100000 w) := by
  have HB := Lib.hid (btc_any w)
  have H := Lib.hid h
  clear h
  go_enter Tryz.func354, Tryz.ntmps354
  go_wp2_with fail
  refine HB.out.mono ?_
  rintro e w1 ⟨xs, rfl, hb, ha, hbe⟩
  have HE := Lib.hid (enc58 A n c d w1 _ xs hd (H.out.next hbe) hb ha)
  have HBE := Lib.hid hbe
  clear hb ha hbe
  go_wp2_with fail
  refine HE.out.mono ?_
  rintro e w2 ⟨s, rfl, hs, hb2⟩
  have HB2 := Lib.hid (HBE.out.trans (hb2.mono HBE.out.size))
  clear hb2
  go_wp2_with fail
  go_ret
  exact ⟨s, rfl, hs, HB2.out⟩
set_option maxHeartbeats 2000000 in
set_option maxRecDepth 100000 in
theorem encode_any (A : Option Addr) (n c : Nat) (d : List UInt8) (w : World) (hd : d.length ≤ 44) (h : RB w w.heap.size A n c d) : Calls Tryz.prog 303 #[.slice A n c] w (OutS 100000 w) := by
  have HE := Lib.hid (fast_any A n c d w hd h)
  clear h
  go_enter Tryz.func303, Tryz.ntmps303
  go_wp2_with fail
  refine HE.out.mono ?_
  rintro e w2 ⟨s, rfl, hs, hb2⟩
  have HB2 := Lib.hid hb2
  clear hb2
  go_wp2_with fail
  go_ret
  exact ⟨s, rfl, hs, HB2.out⟩
set_option maxHeartbeats 2000000 in
set_option maxRecDepth 100000 in
theorem b58_any (A : Option Addr) (n c : Nat) (d : List UInt8) (w : World) (hd : d.length ≤ 44) (h : RB w w.heap.size A n c d) : Calls Tryz.prog 240 #[.slice A n c] w (OutS 100000 w) := by
  have HE := Lib.hid (encode_any A n c d w hd h)
  clear h
  go_enter Tryz.func240, Tryz.ntmps240
  go_wp2_with fail
  refine HE.out.mono ?_
  rintro e w2 ⟨s, rfl, hs, hb2⟩
  have HB2 := Lib.hid hb2
  clear hb2
  go_wp2_with fail
  go_ret
  exact ⟨s, rfl, hs, HB2.out⟩
end Go.Proofs.YthpcfnegfdcbjaaGreatDoor

/- A component on the heap: its value as bytes. -/
namespace Go.Proofs.YthpcfnegfdcbjaaGreatDoor
open Go.RowKit
attribute [local go_sem ↓] Go.wp_at_zero Go.wp_at_succ
/-- A component's cells. -/
def ccells (l : List UInt8) (p vs : Nat) : Array Value := #[.string ⟨l.toArray⟩, .pointer (some ⟨p, 0, none⟩), .int .i64 vs]
theorem below_drew_left {B : Nat} {w w' : World} (h : Below B w.drew w') : Below B w w' := ⟨h.os, h.tape, h.output, h.size, h.block⟩
/-- '[]byte(s)', the new world under a name. -/
theorem conv_list (w : World) (L : List UInt8) (h : L.length ≤ 1000000) : ∃ c w', (convert 9 26 (.string ⟨L.toArray⟩)).run Tryz.prog w = .ok (.slice (some ⟨w.heap.size, 0, none⟩) L.length c) w' ∧
    RB w' w'.heap.size (some ⟨w.heap.size, 0, none⟩) L.length c L ∧ Below w.heap.size w w' ∧ w.heap.size < w'.heap.size := by
  refine ⟨_, _, ?_, RB.of_bytesWorld w 5 L (by unfold maxLen; omega), below_bytesWorld _ _ _, by rw [Lib.bytesWorld_size]; omega⟩
  have := Lib.run_convert_string_bytes (P := Tryz.prog) w 9 26 5 ⟨L.toArray⟩ Tryz.underlying9 Tryz.underlying26 Tryz.underlying5
  simpa [ByteArray.size] using this
theorem extract_drop (l : List UInt8) (vs : Nat) : (⟨l.toArray⟩ : ByteArray).extract vs l.length = ⟨(l.drop vs).toArray⟩ := by
  apply ByteArray.ext
  apply Array.ext'
  rw [Lib.extract_data]
  simp only
  exact List.take_of_length_le (by simp)
theorem extract_take (l : List UInt8) (k : Nat) : (⟨l.toArray⟩ : ByteArray).extract 0 k = ⟨(l.take k).toArray⟩ := by
  apply ByteArray.ext
  apply Array.ext'
  rw [Lib.extract_data]
  simp
theorem size_toArray (l : List UInt8) : (⟨l.toArray⟩ : ByteArray).size = l.length := by simp [ByteArray.size]

set_option maxHeartbeats 2000000 in
set_option maxRecDepth 100000 in
theorem rawvalue_any (q : Nat) (l : List UInt8) (p vs : Nat) (w : World) (h : Blk w q 91 (ccells l p vs)) (hv : vs ≤ l.length) (hl : l.length ≤ 100000) :
    Calls Tryz.prog 45 #[.pointer (some ⟨q, 0, none⟩)] w (OutB (l.drop vs) w) := by
  have c0 : w.cell? ⟨q, 0, none⟩ = some (.string ⟨l.toArray⟩) := h.cell 0
  have c2 : w.cell? ⟨q, 2, none⟩ = some (.int .i64 vs) := h.cell 2
  have hsz := size_toArray l
  have kx := extract_drop l vs
  have hL1 : (l.drop vs).length ≤ 1000000 := by simp; omega
  obtain ⟨L, hL⟩ : ∃ L, L = l.drop vs := ⟨_, rfl⟩
  rw [← hL] at kx hL1 ⊢
  have k0 : (0 : Int) ≤ (vs : Int) := by omega
  have k1 : (vs : Int) ≤ (l.length : Int) := by omega
  obtain ⟨cc, w1, hcv, hr, hb, _⟩ := conv_list w.drew L hL1
  have HR := Lib.hid hr
  have HB := Lib.hid (below_drew_left hb)
  clear h hL hr hb
  go_enter Tryz.func45, Tryz.ntmps45
  go_wp2_with fail
  go_still_tail 9, (by kernel_rfl)
  change wpList _ _ _ _ _ w.drew
  go_wp2_with fail
  go_ret
  exact ⟨_, cc, rfl, HR.out, HB.out⟩
end Go.Proofs.YthpcfnegfdcbjaaGreatDoor
