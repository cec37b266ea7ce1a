/- The texts of IPv6 addresses and of multihashes: they are there. -/
import Derived.Test.YtghddiboggdhcaaGreatDoorPz1
import Derived.Test.YtghddiboggdhcaaGreatDoorPz4
import Derived.Test.YtghddiboggdhcaaGreatDoorPg
import Derived.StillTailTactics
set_option maxRecDepth 100000
set_option maxHeartbeats 2000000
namespace Go.Proofs.YtghddiboggdhcaaGreatDoor
open Go.RowKit
attribute [local go_sem ↓] Go.wp_at_zero Go.wp_at_succ
theorem btc_any (w : World) : Calls Tryz.prog 238 #[] w fun e w' => ∃ xs, e = .returned (.pointer (some ⟨w.heap.size, 0, none⟩)) ∧ Blk w' w.heap.size 315 xs ∧ Alp xs ∧ Below w.heap.size w w' := by
  have HN := Lib.hid (newalpha w)
  go_enter Tryz.func238, Tryz.ntmps238
  go_wp2_with fail
  refine HN.out.mono ?_
  rintro e w1 ⟨xs, rfl, hb, ha, hbe⟩
  have H := Lib.hid (And.intro hb (And.intro ha hbe))
  clear hb ha hbe
  go_wp2_with fail
  go_ret
  exact ⟨xs, rfl, H.out.1, H.out.2.1, H.out.2.2⟩
theorem fast_any (A : Option Addr) (n c : Nat) (d : List UInt8) (w : World) (hd : d.length ≤ 44) (h : RB w w.heap.size A n c d) : Calls Tryz.prog 322 #[.slice A n c] w (OutS 100000 w) := by
  have HB := Lib.hid (btc_any w)
  have H := Lib.hid h
  clear h
  go_enter Tryz.func322, Tryz.ntmps322
  go_wp2_with fail
  refine HB.out.mono ?_
  rintro e w1 ⟨xs, rfl, hb, ha, hbe⟩
  have HE := Lib.hid (enc58 A n c d w1 _ xs hd (H.out.next hbe) hb ha)
  have HBE := Lib.hid hbe
  clear hb ha hbe
  go_wp2_with fail
  refine HE.out.mono ?_
  rintro e w2 ⟨s, rfl, hs, hb2⟩
  have HB2 := Lib.hid (HBE.out.trans (hb2.mono HBE.out.size))
  clear hb2
  go_wp2_with fail
  go_ret
  exact ⟨s, rfl, hs, HB2.out⟩
theorem encode_any (A : Option Addr) (n c : Nat) (d : List UInt8) (w : World) (hd : d.length ≤ 44) (h : RB w w.heap.size A n c d) : Calls Tryz.prog 268 #[.slice A n c] w (OutS 100000 w) := by
  have HE := Lib.hid (fast_any A n c d w hd h)
  clear h
  go_enter Tryz.func268, Tryz.ntmps268
  go_wp2_with fail
  refine HE.out.mono ?_
  rintro e w2 ⟨s, rfl, hs, hb2⟩
  have HB2 := Lib.hid hb2
  clear hb2
  go_wp2_with fail
  go_ret
  exact ⟨s, rfl, hs, HB2.out⟩
theorem b58_any (A : Option Addr) (n c : Nat) (d : List UInt8) (w : World) (hd : d.length ≤ 44) (h : RB w w.heap.size A n c d) : Calls Tryz.prog 204 #[.slice A n c] w (OutS 100000 w) := by
  have HE := Lib.hid (encode_any A n c d w hd h)
  clear h
  go_enter Tryz.func204, Tryz.ntmps204
  go_wp2_with fail
  refine HE.out.mono ?_
  rintro e w2 ⟨s, rfl, hs, hb2⟩
  have HB2 := Lib.hid hb2
  clear hb2
  go_wp2_with fail
  go_ret
  exact ⟨s, rfl, hs, HB2.out⟩
end Go.Proofs.YtghddiboggdhcaaGreatDoor
/- A component on the heap: its value as bytes. -/
namespace Go.Proofs.YtghddiboggdhcaaGreatDoor
open Go.RowKit
attribute [local go_sem ↓] Go.wp_at_zero Go.wp_at_succ
def ccells (l : List UInt8) (p vs : Nat) : Array Value := #[.string ⟨l.toArray⟩, .pointer (some ⟨p, 0, none⟩), .int .i64 vs]
theorem below_drew_left {B : Nat} {w w' : World} (h : Below B w.drew w') : Below B w w' := ⟨h.os, h.tape, h.output, h.size, h.block⟩
theorem conv_list (w : World) (L : List UInt8) (h : L.length ≤ 1000000) : ∃ c w', (convert 9 22 (.string ⟨L.toArray⟩)).run Tryz.prog w = .ok (.slice (some ⟨w.heap.size, 0, none⟩) L.length c) w' ∧
    RB w' w'.heap.size (some ⟨w.heap.size, 0, none⟩) L.length c L ∧ Below w.heap.size w w' ∧ w.heap.size < w'.heap.size := by
  refine ⟨_, _, ?_, RB.of_bytesWorld w 5 L (by unfold maxLen; omega), below_bytesWorld _ _ _, by rw [Lib.bytesWorld_size]; omega⟩
  have := Lib.run_convert_string_bytes (P := Tryz.prog) w 9 22 5 ⟨L.toArray⟩ Tryz.underlying9 Tryz.underlying22 Tryz.underlying5
  simpa [ByteArray.size] using this
theorem extract_drop (l : List UInt8) (vs : Nat) : (⟨l.toArray⟩ : ByteArray).extract vs l.length = ⟨(l.drop vs).toArray⟩ := by
  apply ByteArray.ext
  apply Array.ext'
  rw [Lib.extract_data]
  simp only
  exact List.take_of_length_le (by simp)
theorem extract_take (l : List UInt8) (k : Nat) : (⟨l.toArray⟩ : ByteArray).extract 0 k = ⟨(l.take k).toArray⟩ := by
  apply ByteArray.ext
  apply Array.ext'
  rw [Lib.extract_data]
  simp
theorem size_toArray (l : List UInt8) : (⟨l.toArray⟩ : ByteArray).size = l.length := by simp [ByteArray.size]
end Go.Proofs.YtghddiboggdhcaaGreatDoor
