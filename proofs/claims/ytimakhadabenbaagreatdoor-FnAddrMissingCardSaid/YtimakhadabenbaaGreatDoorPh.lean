/- A component on the heap: its value as bytes. -/
import Derived.Test.YtimakhadabenbaaGreatDoorPg
import Derived.StillTailTactics
namespace Go.Proofs.YtimakhadabenbaaGreatDoor
open Go.RowKit
attribute [local go_sem ↓] Go.wp_at_zero Go.wp_at_succ
/-- A component's cells. -/
def ccells (l : List UInt8) (p vs : Nat) : Array Value := #[.string ⟨l.toArray⟩, .pointer (some ⟨p, 0, none⟩), .int .i64 vs]
theorem below_drew_left {B : Nat} {w w' : World} (h : Below B w.drew w') : Below B w w' := ⟨h.os, h.tape, h.output, h.size, h.block⟩
/-- '[]byte(s)', the new world under a name. -/
theorem conv_list (w : World) (L : List UInt8) (h : L.length ≤ 1000000) : ∃ c w', (convert 9 27 (.string ⟨L.toArray⟩)).run Tryz.prog w = .ok (.slice (some ⟨w.heap.size, 0, none⟩) L.length c) w' ∧
    RB w' w'.heap.size (some ⟨w.heap.size, 0, none⟩) L.length c L ∧ Below w.heap.size w w' ∧ w.heap.size < w'.heap.size := by
  refine ⟨_, _, ?_, RB.of_bytesWorld w 5 L (by unfold maxLen; omega), below_bytesWorld _ _ _, by rw [Lib.bytesWorld_size]; omega⟩
  have := Lib.run_convert_string_bytes (P := Tryz.prog) w 9 27 5 ⟨L.toArray⟩ Tryz.underlying9 Tryz.underlying27 Tryz.underlying5
  simpa [ByteArray.size] using this
theorem extract_drop (l : List UInt8) (vs : Nat) : (⟨l.toArray⟩ : ByteArray).extract vs l.length = ⟨(l.drop vs).toArray⟩ := by
  apply ByteArray.ext
  apply Array.ext'
  rw [Lib.extract_data]
  simp only
  exact List.take_of_length_le (by simp)
theorem extract_take (l : List UInt8) (k : Nat) : (⟨l.toArray⟩ : ByteArray).extract 0 k = ⟨(l.take k).toArray⟩ := by
  apply ByteArray.ext
  apply Array.ext'
  rw [Lib.extract_data]
  simp
theorem size_toArray (l : List UInt8) : (⟨l.toArray⟩ : ByteArray).size = l.length := by simp [ByteArray.size]

set_option maxHeartbeats 2000000 in
set_option maxRecDepth 100000 in
theorem rawvalue_any (q : Nat) (l : List UInt8) (p vs : Nat) (w : World) (h : Blk w q 87 (ccells l p vs)) (hv : vs ≤ l.length) (hl : l.length ≤ 100000) :
    Calls Tryz.prog 35 #[.pointer (some ⟨q, 0, none⟩)] w (OutB (l.drop vs) w) := by
  have c0 : w.cell? ⟨q, 0, none⟩ = some (.string ⟨l.toArray⟩) := h.cell 0
  have c2 : w.cell? ⟨q, 2, none⟩ = some (.int .i64 vs) := h.cell 2
  have hsz := size_toArray l
  have kx := extract_drop l vs
  have hL1 : (l.drop vs).length ≤ 1000000 := by simp; omega
  obtain ⟨L, hL⟩ : ∃ L, L = l.drop vs := ⟨_, rfl⟩
  rw [← hL] at kx hL1 ⊢
  have k0 : (0 : Int) ≤ (vs : Int) := by omega
  have k1 : (vs : Int) ≤ (l.length : Int) := by omega
  obtain ⟨cc, w1, hcv, hr, hb, _⟩ := conv_list w.drew L hL1
  have HR := Lib.hid hr
  have HB := Lib.hid (below_drew_left hb)
  clear h hL hr hb
  go_enter Tryz.func35, Tryz.ntmps35
  go_wp2_with fail
  go_still_tail 9, (by kernel_rfl)
  change wpList _ _ _ _ _ w.drew
  go_wp2_with fail
  go_ret
  exact ⟨_, cc, rfl, HR.out, HB.out⟩
end Go.Proofs.YtimakhadabenbaaGreatDoor
