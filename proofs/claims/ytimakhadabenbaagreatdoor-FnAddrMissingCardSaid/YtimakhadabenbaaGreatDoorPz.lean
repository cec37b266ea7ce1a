/- The texts of IPv6 addresses and of multihashes: they are there. -/
import Derived.Test.YtimakhadabenbaaGreatDoorPz1
import Derived.Test.YtimakhadabenbaaGreatDoorPz4
namespace Go.Proofs.YtimakhadabenbaaGreatDoor
open Go.RowKit
attribute [local go_sem ↓] Go.wp_at_zero Go.wp_at_succ
set_option maxHeartbeats 2000000 in
set_option maxRecDepth 100000 in
theorem btc_any (w : World) : Calls Tryz.prog 242 #[] w fun e w' => ∃ xs, e = .returned (.pointer (some ⟨w.heap.size, 0, none⟩)) ∧ Blk w' w.heap.size 315 xs ∧ Alp xs ∧ Below w.heap.size w w' := by
  have HN := Lib.hid (newalpha w)
  go_enter Tryz.func242, Tryz.ntmps242
  go_wp2_with fail
  refine HN.out.mono ?_
  rintro e w1 ⟨xs, rfl, hb, ha, hbe⟩
  have H := Lib.hid (And.intro hb (And.intro ha hbe))
  clear hb ha hbe
  go_wp2_with fail
  go_ret
  exact ⟨xs, rfl, H.out.1, H.out.2.1, H.out.2.2⟩
set_option maxHeartbeats 2000000 in
set_option maxRecDepth 100000 in
theorem fast_any (A : Option Addr) (n c : Nat) (d : List UInt8) (w : World) (hd : d.length ≤ 44) (h : RB w w.heap.size A n c d) : Calls Tryz.prog 326 #[.slice A n c] w (OutS 100000 w) := by
  have HB := Lib.hid (btc_any w)
  have H := Lib.hid h
  clear h
  go_enter Tryz.func326, Tryz.ntmps326
  go_wp2_with fail
  refine HB.out.mono ?_
  rintro e w1 ⟨xs, rfl, hb, ha, hbe⟩
  have HE := Lib.hid (enc58 A n c d w1 _ xs hd (H.out.next hbe) hb ha)
  have HBE := Lib.hid hbe
  clear hb ha hbe
  go_wp2_with fail
  refine HE.out.mono ?_
  rintro e w2 ⟨s, rfl, hs, hb2⟩
  have HB2 := Lib.hid (HBE.out.trans (hb2.mono HBE.out.size))
  clear hb2
  go_wp2_with fail
  go_ret
  exact ⟨s, rfl, hs, HB2.out⟩
set_option maxHeartbeats 2000000 in
set_option maxRecDepth 100000 in
theorem encode_any (A : Option Addr) (n c : Nat) (d : List UInt8) (w : World) (hd : d.length ≤ 44) (h : RB w w.heap.size A n c d) : Calls Tryz.prog 272 #[.slice A n c] w (OutS 100000 w) := by
  have HE := Lib.hid (fast_any A n c d w hd h)
  clear h
  go_enter Tryz.func272, Tryz.ntmps272
  go_wp2_with fail
  refine HE.out.mono ?_
  rintro e w2 ⟨s, rfl, hs, hb2⟩
  have HB2 := Lib.hid hb2
  clear hb2
  go_wp2_with fail
  go_ret
  exact ⟨s, rfl, hs, HB2.out⟩
set_option maxHeartbeats 2000000 in
set_option maxRecDepth 100000 in
theorem b58_any (A : Option Addr) (n c : Nat) (d : List UInt8) (w : World) (hd : d.length ≤ 44) (h : RB w w.heap.size A n c d) : Calls Tryz.prog 208 #[.slice A n c] w (OutS 100000 w) := by
  have HE := Lib.hid (encode_any A n c d w hd h)
  clear h
  go_enter Tryz.func208, Tryz.ntmps208
  go_wp2_with fail
  refine HE.out.mono ?_
  rintro e w2 ⟨s, rfl, hs, hb2⟩
  have HB2 := Lib.hid hb2
  clear hb2
  go_wp2_with fail
  go_ret
  exact ⟨s, rfl, hs, HB2.out⟩
end Go.Proofs.YtimakhadabenbaaGreatDoor
