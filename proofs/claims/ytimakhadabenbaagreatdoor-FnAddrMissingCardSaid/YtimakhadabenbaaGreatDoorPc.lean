/- Varints as the package reads them: one byte, two bytes. -/
import Derived.Test.YtimakhadabenbaaGreatDoorXd
import Derived.BigQuiet
import Derived.Laws.Bits64b
import Derived.Laws.Rows
namespace Go.Proofs.YtimakhadabenbaaGreatDoor
open Go.RowKit

theorem or0 (b : UInt8) : bits .or .u64 0 (b.toNat : Int) = (b.toNat : Int) := by
  have h := b.toNat_lt
  have := bits_or_u64_nat 0 b.toNat (by omega) (by omega)
  simpa using this
theorem RB.first {w : World} {B n c : Nat} {A : Option Addr} {b : UInt8} {l : List UInt8} (h : RB w B A n c (b :: l)) :
    ∃ ad, A = some ad ∧ ad.block < B ∧ n = l.length + 1 ∧ w.cell? ad = some (.int .u8 b.toNat) ∧ ∀ b2 l2, l = b2 :: l2 → w.cell? ⟨ad.block, ad.off + 1, none⟩ = some (.int .u8 b2.toNat) := by
  have hl := h.len
  obtain ⟨ad, rfl, hb, hc⟩ := h.at_ (k := 0) (by simp at hl; omega) (by simp)
  refine ⟨ad, rfl, hb, by simp at hl; omega, by simpa [Addr.add] using hc, fun b2 l2 e => ?_⟩
  subst e
  obtain ⟨ad', e', _, hc'⟩ := h.at_ (k := 1) (by simp at hl; omega) (by simp)
  injection e' with e'
  subst e'
  simpa [Addr.add] using hc'

set_option maxRecDepth 100000 in
set_option maxHeartbeats 1000000 in
theorem from_one (A : Option Addr) (n c : Nat) (b : UInt8) (l : List UInt8) (w : World) (h : RB w w.heap.size A n c (b :: l)) (hb : b.toNat < 128) :
    Calls Tryz.prog 72 #[.slice A n c] w fun e w' => e = .returned (.tuple #[.int .u64 b.toNat, .int .i64 1, .nilIface]) ∧ w = w' := by
  obtain ⟨ad, rfl, hbk, hn, hcell, _⟩ := h.first
  have hm : n ≤ maxLen := Nat.le_trans h.cap h.max
  unfold maxLen at hm
  have hn0 : 0 < n := by omega
  have q0 := or0 b
  have q1 : bits .or .u64 0 0 = 0 := by kernel_rfl
  clear h hn
  go_enter Tryz.func72, Tryz.ntmps72
  go_wp2_with fail
  refine wp_loop_rounds 1 ?_
  rw [rounds_succ]
  go_wp2_with fail
  all_goals (go_ret3; exact ⟨by simp [*], rfl⟩)

set_option maxRecDepth 100000 in
set_option maxHeartbeats 1000000 in
theorem readvar_one (A : Option Addr) (n c : Nat) (b : UInt8) (l : List UInt8) (w : World) (h : RB w w.heap.size A n c (b :: l)) (hb : b.toNat < 128) :
    Calls Tryz.prog 65 #[.slice A n c] w fun e w' => e = .returned (.tuple #[.int .i64 b.toNat, .int .i64 1, .nilIface]) ∧ w = w' := by
  have H := Lib.hid h
  clear h
  go_enter Tryz.func65, Tryz.ntmps65
  go_wp2_with (go_at_call 72; refine (from_one A n c b l _ H.out hb).mono ?_; rintro e w' ⟨rfl, rfl⟩)
  go_ret3
  exact ⟨rfl, rfl⟩

set_option maxRecDepth 100000 in
set_option maxHeartbeats 1000000 in
theorem from_273 (A : Option Addr) (n c : Nat) (l : List UInt8) (w : World) (h : RB w w.heap.size A n c (145 :: 2 :: l)) :
    Calls Tryz.prog 72 #[.slice A n c] w fun e w' => e = .returned (.tuple #[.int .u64 273, .int .i64 2, .nilIface]) ∧ w = w' := by
  obtain ⟨ad, rfl, hbk, hn, hcell, hcell2⟩ := h.first
  have hcell1 : w.cell? ⟨ad.block, ad.off + 1, none⟩ = some (.int .u8 2) := hcell2 _ _ rfl
  have hcell0 : w.cell? ad = some (.int .u8 145) := hcell
  have hm : n ≤ maxLen := Nat.le_trans h.cap h.max
  unfold maxLen at hm
  have hn0 : 0 < n := by omega
  have hn1 : 1 < n := by simp at hn; omega
  clear h hn hcell2 hcell
  go_enter Tryz.func72, Tryz.ntmps72
  go_wp2_with fail
  refine wp_loop_rounds 2 ?_
  rw [rounds_succ]
  go_wp2_with fail
  rw [rounds_succ]
  go_wp2_with fail
  go_ret3
  exact ⟨by simp; try kernel_rfl, rfl⟩

set_option maxRecDepth 100000 in
set_option maxHeartbeats 1000000 in
theorem readvar_273 (A : Option Addr) (n c : Nat) (l : List UInt8) (w : World) (h : RB w w.heap.size A n c (145 :: 2 :: l)) :
    Calls Tryz.prog 65 #[.slice A n c] w fun e w' => e = .returned (.tuple #[.int .i64 273, .int .i64 2, .nilIface]) ∧ w = w' := by
  have H := Lib.hid h
  clear h
  go_enter Tryz.func65, Tryz.ntmps65
  go_wp2_with (go_at_call 72; refine (from_273 A n c l _ H.out).mono ?_; rintro e w' ⟨rfl, rfl⟩)
  go_ret3
  exact ⟨rfl, rfl⟩

set_option maxRecDepth 100000 in
set_option maxHeartbeats 1000000 in
theorem from_461 (A : Option Addr) (n c : Nat) (l : List UInt8) (w : World) (h : RB w w.heap.size A n c (205 :: 3 :: l)) :
    Calls Tryz.prog 72 #[.slice A n c] w fun e w' => e = .returned (.tuple #[.int .u64 461, .int .i64 2, .nilIface]) ∧ w = w' := by
  obtain ⟨ad, rfl, hbk, hn, hcell, hcell2⟩ := h.first
  have hcell1 : w.cell? ⟨ad.block, ad.off + 1, none⟩ = some (.int .u8 3) := hcell2 _ _ rfl
  have hcell0 : w.cell? ad = some (.int .u8 205) := hcell
  have hm : n ≤ maxLen := Nat.le_trans h.cap h.max
  unfold maxLen at hm
  have hn0 : 0 < n := by omega
  have hn1 : 1 < n := by simp at hn; omega
  clear h hn hcell2 hcell
  go_enter Tryz.func72, Tryz.ntmps72
  go_wp2_with fail
  refine wp_loop_rounds 2 ?_
  rw [rounds_succ]
  go_wp2_with fail
  rw [rounds_succ]
  go_wp2_with fail
  go_ret3
  exact ⟨by simp; try kernel_rfl, rfl⟩

set_option maxRecDepth 100000 in
set_option maxHeartbeats 1000000 in
theorem readvar_461 (A : Option Addr) (n c : Nat) (l : List UInt8) (w : World) (h : RB w w.heap.size A n c (205 :: 3 :: l)) :
    Calls Tryz.prog 65 #[.slice A n c] w fun e w' => e = .returned (.tuple #[.int .i64 461, .int .i64 2, .nilIface]) ∧ w = w' := by
  have H := Lib.hid h
  clear h
  go_enter Tryz.func65, Tryz.ntmps65
  go_wp2_with (go_at_call 72; refine (from_461 A n c l _ H.out).mono ?_; rintro e w' ⟨rfl, rfl⟩)
  go_ret3
  exact ⟨rfl, rfl⟩

set_option maxRecDepth 100000 in
set_option maxHeartbeats 1000000 in
theorem from_477 (A : Option Addr) (n c : Nat) (l : List UInt8) (w : World) (h : RB w w.heap.size A n c (221 :: 3 :: l)) :
    Calls Tryz.prog 72 #[.slice A n c] w fun e w' => e = .returned (.tuple #[.int .u64 477, .int .i64 2, .nilIface]) ∧ w = w' := by
  obtain ⟨ad, rfl, hbk, hn, hcell, hcell2⟩ := h.first
  have hcell1 : w.cell? ⟨ad.block, ad.off + 1, none⟩ = some (.int .u8 3) := hcell2 _ _ rfl
  have hcell0 : w.cell? ad = some (.int .u8 221) := hcell
  have hm : n ≤ maxLen := Nat.le_trans h.cap h.max
  unfold maxLen at hm
  have hn0 : 0 < n := by omega
  have hn1 : 1 < n := by simp at hn; omega
  clear h hn hcell2 hcell
  go_enter Tryz.func72, Tryz.ntmps72
  go_wp2_with fail
  refine wp_loop_rounds 2 ?_
  rw [rounds_succ]
  go_wp2_with fail
  rw [rounds_succ]
  go_wp2_with fail
  go_ret3
  exact ⟨by simp; try kernel_rfl, rfl⟩

set_option maxRecDepth 100000 in
set_option maxHeartbeats 1000000 in
theorem readvar_477 (A : Option Addr) (n c : Nat) (l : List UInt8) (w : World) (h : RB w w.heap.size A n c (221 :: 3 :: l)) :
    Calls Tryz.prog 65 #[.slice A n c] w fun e w' => e = .returned (.tuple #[.int .i64 477, .int .i64 2, .nilIface]) ∧ w = w' := by
  have H := Lib.hid h
  clear h
  go_enter Tryz.func65, Tryz.ntmps65
  go_wp2_with (go_at_call 72; refine (from_477 A n c l _ H.out).mono ?_; rintro e w' ⟨rfl, rfl⟩)
  go_ret3
  exact ⟨rfl, rfl⟩

set_option maxRecDepth 100000 in
set_option maxHeartbeats 1000000 in
theorem from_290 (A : Option Addr) (n c : Nat) (l : List UInt8) (w : World) (h : RB w w.heap.size A n c (162 :: 2 :: l)) :
    Calls Tryz.prog 72 #[.slice A n c] w fun e w' => e = .returned (.tuple #[.int .u64 290, .int .i64 2, .nilIface]) ∧ w = w' := by
  obtain ⟨ad, rfl, hbk, hn, hcell, hcell2⟩ := h.first
  have hcell1 : w.cell? ⟨ad.block, ad.off + 1, none⟩ = some (.int .u8 2) := hcell2 _ _ rfl
  have hcell0 : w.cell? ad = some (.int .u8 162) := hcell
  have hm : n ≤ maxLen := Nat.le_trans h.cap h.max
  unfold maxLen at hm
  have hn0 : 0 < n := by omega
  have hn1 : 1 < n := by simp at hn; omega
  clear h hn hcell2 hcell
  go_enter Tryz.func72, Tryz.ntmps72
  go_wp2_with fail
  refine wp_loop_rounds 2 ?_
  rw [rounds_succ]
  go_wp2_with fail
  rw [rounds_succ]
  go_wp2_with fail
  go_ret3
  exact ⟨by simp; try kernel_rfl, rfl⟩

set_option maxRecDepth 100000 in
set_option maxHeartbeats 1000000 in
theorem readvar_290 (A : Option Addr) (n c : Nat) (l : List UInt8) (w : World) (h : RB w w.heap.size A n c (162 :: 2 :: l)) :
    Calls Tryz.prog 65 #[.slice A n c] w fun e w' => e = .returned (.tuple #[.int .i64 290, .int .i64 2, .nilIface]) ∧ w = w' := by
  have H := Lib.hid h
  clear h
  go_enter Tryz.func65, Tryz.ntmps65
  go_wp2_with (go_at_call 72; refine (from_290 A n c l _ H.out).mono ?_; rintro e w' ⟨rfl, rfl⟩)
  go_ret3
  exact ⟨rfl, rfl⟩

set_option maxRecDepth 100000 in
set_option maxHeartbeats 1000000 in
theorem from_421 (A : Option Addr) (n c : Nat) (l : List UInt8) (w : World) (h : RB w w.heap.size A n c (165 :: 3 :: l)) :
    Calls Tryz.prog 72 #[.slice A n c] w fun e w' => e = .returned (.tuple #[.int .u64 421, .int .i64 2, .nilIface]) ∧ w = w' := by
  obtain ⟨ad, rfl, hbk, hn, hcell, hcell2⟩ := h.first
  have hcell1 : w.cell? ⟨ad.block, ad.off + 1, none⟩ = some (.int .u8 3) := hcell2 _ _ rfl
  have hcell0 : w.cell? ad = some (.int .u8 165) := hcell
  have hm : n ≤ maxLen := Nat.le_trans h.cap h.max
  unfold maxLen at hm
  have hn0 : 0 < n := by omega
  have hn1 : 1 < n := by simp at hn; omega
  clear h hn hcell2 hcell
  go_enter Tryz.func72, Tryz.ntmps72
  go_wp2_with fail
  refine wp_loop_rounds 2 ?_
  rw [rounds_succ]
  go_wp2_with fail
  rw [rounds_succ]
  go_wp2_with fail
  go_ret3
  exact ⟨by simp; try kernel_rfl, rfl⟩

set_option maxRecDepth 100000 in
set_option maxHeartbeats 1000000 in
theorem readvar_421 (A : Option Addr) (n c : Nat) (l : List UInt8) (w : World) (h : RB w w.heap.size A n c (165 :: 3 :: l)) :
    Calls Tryz.prog 65 #[.slice A n c] w fun e w' => e = .returned (.tuple #[.int .i64 421, .int .i64 2, .nilIface]) ∧ w = w' := by
  have H := Lib.hid h
  clear h
  go_enter Tryz.func65, Tryz.ntmps65
  go_wp2_with (go_at_call 72; refine (from_421 A n c l _ H.out).mono ?_; rintro e w' ⟨rfl, rfl⟩)
  go_ret3
  exact ⟨rfl, rfl⟩
end Go.Proofs.YtimakhadabenbaaGreatDoor

/- Varints as the package writes them, at the codes of protocols. -/
namespace Go.Proofs.YtimakhadabenbaaGreatDoor
open Go.RowKit
/-- A new block of bytes. -/
def OutV (l : List UInt8) (w : World) (e : Ending) (w' : World) : Prop :=
  ∃ g, e = .returned (.slice (some ⟨g, 0, none⟩) l.length l.length) ∧ w.heap.size ≤ g ∧ Blk w' g 5 (bv l).toArray ∧ Below w.heap.size w w'
/-- Zeros just laid. -/
theorem run_make_bytes (m : Nat) (hm : m ≤ 1000) : ∀ w : World, (Instr.makeSlice 27 (.int .i64 m) (.int .i64 m)).run Tryz.prog w = .ok (.slice (some ⟨w.heap.size, 0, none⟩) m m) (w.alloc (.cells (madeCells #[.int .u8 0] (m * 1)) 5)) := by
  intro w
  obtain ⟨i0, hi0, hz0, hz1, hz2⟩ := info_parts u8_info
  have h := run_make (P := Tryz.prog) w 27 5 i0 (.int .u8 0) Tryz.underlying27 hi0 hz0 .i64 .i64 m m (by omega) (by omega) (by rw [hz2]; omega) (by omega)
  simp only [Int.toNat_natCast, hz1] at h
  exact h

set_option maxRecDepth 100000 in
set_option maxHeartbeats 1000000 in
theorem len64_4 (w : World) : Calls Tryz.prog 52 #[.int .u64 4] w fun e w' => e = .returned (.int .i64 3) ∧ w = w' := by
  go_enter Tryz.func52, Tryz.ntmps52
  go_wp2_with fail
  go_ret
  exact ⟨by simp; try kernel_rfl, rfl⟩
set_option maxRecDepth 100000 in
set_option maxHeartbeats 1000000 in
theorem usize_4 (w : World) : Calls Tryz.prog 173 #[.int .u64 4] w fun e w' => e = .returned (.int .i64 1) ∧ w = w' := by
  go_enter Tryz.func173, Tryz.ntmps173
  go_wp2_with (go_at_call 52; refine (len64_4 _).mono ?_; rintro e w' ⟨rfl, rfl⟩)
  go_ret
  exact ⟨rfl, rfl⟩
set_option maxRecDepth 100000 in
set_option maxHeartbeats 1000000 in
theorem putu_4 (w : World) (g : Nat) (t : TypeId) (h : Blk w g t #[.int .u8 0]) : Calls Tryz.prog 174 #[.slice (some ⟨g, 0, none⟩) 1 1, .int .u64 4] w fun e w' => e = .returned (.int .i64 1) ∧ Blk w' g t #[.int .u8 4] ∧ ∀ B, B ≤ g → Below B w w' := by
  have c0 : w.cell? ⟨g, 0, none⟩ = some (.int .u8 0) := h.cell 0
  have f0 := h.frozen 0
  have f1 := h.frozen 1
  have H := Lib.hid h
  clear h
  go_enter Tryz.func174, Tryz.ntmps174
  go_wp2_with fail
  refine wp_loop_rounds 1 ?_
  rw [rounds_succ]
  go_wp2_with fail
  go_ret
  refine ⟨rfl, ?_, ?_⟩
  · exact (H.out.set_ 0 (.int .u8 4))
  · intro B hB; exact ((Below.refl _ _).setCell (by simpa using hB) _)
set_option maxRecDepth 100000 in
set_option maxHeartbeats 1000000 in
theorem touv_4 (w : World) : Calls Tryz.prog 129 #[.int .u64 4] w (OutV [4] w) := by
  have hmk := run_make_bytes 1 (by omega)
  have e1 : ((1 : Nat) : Int) = 1 := rfl
  have e2 : madeCells #[.int .u8 0] (1 * 1) = #[.int .u8 0] := by kernel_rfl
  rw [e1, e2] at hmk
  clear e1 e2
  go_enter Tryz.func129, Tryz.ntmps129
  go_wp2_with (first
    | (go_at_call 173; refine (usize_4 _).mono ?_; rintro e w' ⟨rfl, rfl⟩)
    | (go_at_call 174; refine (putu_4 _ _ 5 (Blk.new _ _ _)).mono ?_; rintro e w' ⟨rfl, hB, hb⟩))
  have H := Lib.hid hB
  have HB := Lib.hid (hb w.heap.size (Nat.le_refl _))
  clear hB hb hmk
  go_wp2_with fail
  go_ret
  exact ⟨w.heap.size, rfl, Nat.le_refl _, H.out, ((Below.refl _ w).alloc (Nat.le_refl _) _).trans HB.out⟩
set_option maxRecDepth 100000 in
set_option maxHeartbeats 1000000 in
theorem code_4 (w : World) : Calls Tryz.prog 113 #[.int .i64 4] w (OutV [4] w) := by
  go_enter Tryz.func113, Tryz.ntmps113
  go_wp2_with (go_at_call 129; refine (touv_4 _).mono ?_; rintro e w' ⟨g, rfl, hg, hr, hb⟩)
  go_ret
  exact ⟨g, rfl, hg, hr, hb⟩

set_option maxRecDepth 100000 in
set_option maxHeartbeats 1000000 in
theorem len64_6 (w : World) : Calls Tryz.prog 52 #[.int .u64 6] w fun e w' => e = .returned (.int .i64 3) ∧ w = w' := by
  go_enter Tryz.func52, Tryz.ntmps52
  go_wp2_with fail
  go_ret
  exact ⟨by simp; try kernel_rfl, rfl⟩
set_option maxRecDepth 100000 in
set_option maxHeartbeats 1000000 in
theorem usize_6 (w : World) : Calls Tryz.prog 173 #[.int .u64 6] w fun e w' => e = .returned (.int .i64 1) ∧ w = w' := by
  go_enter Tryz.func173, Tryz.ntmps173
  go_wp2_with (go_at_call 52; refine (len64_6 _).mono ?_; rintro e w' ⟨rfl, rfl⟩)
  go_ret
  exact ⟨rfl, rfl⟩
set_option maxRecDepth 100000 in
set_option maxHeartbeats 1000000 in
theorem putu_6 (w : World) (g : Nat) (t : TypeId) (h : Blk w g t #[.int .u8 0]) : Calls Tryz.prog 174 #[.slice (some ⟨g, 0, none⟩) 1 1, .int .u64 6] w fun e w' => e = .returned (.int .i64 1) ∧ Blk w' g t #[.int .u8 6] ∧ ∀ B, B ≤ g → Below B w w' := by
  have c0 : w.cell? ⟨g, 0, none⟩ = some (.int .u8 0) := h.cell 0
  have f0 := h.frozen 0
  have f1 := h.frozen 1
  have H := Lib.hid h
  clear h
  go_enter Tryz.func174, Tryz.ntmps174
  go_wp2_with fail
  refine wp_loop_rounds 1 ?_
  rw [rounds_succ]
  go_wp2_with fail
  go_ret
  refine ⟨rfl, ?_, ?_⟩
  · exact (H.out.set_ 0 (.int .u8 6))
  · intro B hB; exact ((Below.refl _ _).setCell (by simpa using hB) _)
set_option maxRecDepth 100000 in
set_option maxHeartbeats 1000000 in
theorem touv_6 (w : World) : Calls Tryz.prog 129 #[.int .u64 6] w (OutV [6] w) := by
  have hmk := run_make_bytes 1 (by omega)
  have e1 : ((1 : Nat) : Int) = 1 := rfl
  have e2 : madeCells #[.int .u8 0] (1 * 1) = #[.int .u8 0] := by kernel_rfl
  rw [e1, e2] at hmk
  clear e1 e2
  go_enter Tryz.func129, Tryz.ntmps129
  go_wp2_with (first
    | (go_at_call 173; refine (usize_6 _).mono ?_; rintro e w' ⟨rfl, rfl⟩)
    | (go_at_call 174; refine (putu_6 _ _ 5 (Blk.new _ _ _)).mono ?_; rintro e w' ⟨rfl, hB, hb⟩))
  have H := Lib.hid hB
  have HB := Lib.hid (hb w.heap.size (Nat.le_refl _))
  clear hB hb hmk
  go_wp2_with fail
  go_ret
  exact ⟨w.heap.size, rfl, Nat.le_refl _, H.out, ((Below.refl _ w).alloc (Nat.le_refl _) _).trans HB.out⟩
set_option maxRecDepth 100000 in
set_option maxHeartbeats 1000000 in
theorem code_6 (w : World) : Calls Tryz.prog 113 #[.int .i64 6] w (OutV [6] w) := by
  go_enter Tryz.func113, Tryz.ntmps113
  go_wp2_with (go_at_call 129; refine (touv_6 _).mono ?_; rintro e w' ⟨g, rfl, hg, hr, hb⟩)
  go_ret
  exact ⟨g, rfl, hg, hr, hb⟩

set_option maxRecDepth 100000 in
set_option maxHeartbeats 1000000 in
theorem len64_41 (w : World) : Calls Tryz.prog 52 #[.int .u64 41] w fun e w' => e = .returned (.int .i64 6) ∧ w = w' := by
  go_enter Tryz.func52, Tryz.ntmps52
  go_wp2_with fail
  go_ret
  exact ⟨by simp; try kernel_rfl, rfl⟩
set_option maxRecDepth 100000 in
set_option maxHeartbeats 1000000 in
theorem usize_41 (w : World) : Calls Tryz.prog 173 #[.int .u64 41] w fun e w' => e = .returned (.int .i64 1) ∧ w = w' := by
  go_enter Tryz.func173, Tryz.ntmps173
  go_wp2_with (go_at_call 52; refine (len64_41 _).mono ?_; rintro e w' ⟨rfl, rfl⟩)
  go_ret
  exact ⟨rfl, rfl⟩
set_option maxRecDepth 100000 in
set_option maxHeartbeats 1000000 in
theorem putu_41 (w : World) (g : Nat) (t : TypeId) (h : Blk w g t #[.int .u8 0]) : Calls Tryz.prog 174 #[.slice (some ⟨g, 0, none⟩) 1 1, .int .u64 41] w fun e w' => e = .returned (.int .i64 1) ∧ Blk w' g t #[.int .u8 41] ∧ ∀ B, B ≤ g → Below B w w' := by
  have c0 : w.cell? ⟨g, 0, none⟩ = some (.int .u8 0) := h.cell 0
  have f0 := h.frozen 0
  have f1 := h.frozen 1
  have H := Lib.hid h
  clear h
  go_enter Tryz.func174, Tryz.ntmps174
  go_wp2_with fail
  refine wp_loop_rounds 1 ?_
  rw [rounds_succ]
  go_wp2_with fail
  go_ret
  refine ⟨rfl, ?_, ?_⟩
  · exact (H.out.set_ 0 (.int .u8 41))
  · intro B hB; exact ((Below.refl _ _).setCell (by simpa using hB) _)
set_option maxRecDepth 100000 in
set_option maxHeartbeats 1000000 in
theorem touv_41 (w : World) : Calls Tryz.prog 129 #[.int .u64 41] w (OutV [41] w) := by
  have hmk := run_make_bytes 1 (by omega)
  have e1 : ((1 : Nat) : Int) = 1 := rfl
  have e2 : madeCells #[.int .u8 0] (1 * 1) = #[.int .u8 0] := by kernel_rfl
  rw [e1, e2] at hmk
  clear e1 e2
  go_enter Tryz.func129, Tryz.ntmps129
  go_wp2_with (first
    | (go_at_call 173; refine (usize_41 _).mono ?_; rintro e w' ⟨rfl, rfl⟩)
    | (go_at_call 174; refine (putu_41 _ _ 5 (Blk.new _ _ _)).mono ?_; rintro e w' ⟨rfl, hB, hb⟩))
  have H := Lib.hid hB
  have HB := Lib.hid (hb w.heap.size (Nat.le_refl _))
  clear hB hb hmk
  go_wp2_with fail
  go_ret
  exact ⟨w.heap.size, rfl, Nat.le_refl _, H.out, ((Below.refl _ w).alloc (Nat.le_refl _) _).trans HB.out⟩
set_option maxRecDepth 100000 in
set_option maxHeartbeats 1000000 in
theorem code_41 (w : World) : Calls Tryz.prog 113 #[.int .i64 41] w (OutV [41] w) := by
  go_enter Tryz.func113, Tryz.ntmps113
  go_wp2_with (go_at_call 129; refine (touv_41 _).mono ?_; rintro e w' ⟨g, rfl, hg, hr, hb⟩)
  go_ret
  exact ⟨g, rfl, hg, hr, hb⟩

set_option maxRecDepth 100000 in
set_option maxHeartbeats 1000000 in
theorem len64_273 (w : World) : Calls Tryz.prog 52 #[.int .u64 273] w fun e w' => e = .returned (.int .i64 9) ∧ w = w' := by
  go_enter Tryz.func52, Tryz.ntmps52
  go_wp2_with fail
  go_ret
  exact ⟨by simp; try kernel_rfl, rfl⟩
set_option maxRecDepth 100000 in
set_option maxHeartbeats 1000000 in
theorem usize_273 (w : World) : Calls Tryz.prog 173 #[.int .u64 273] w fun e w' => e = .returned (.int .i64 2) ∧ w = w' := by
  go_enter Tryz.func173, Tryz.ntmps173
  go_wp2_with (go_at_call 52; refine (len64_273 _).mono ?_; rintro e w' ⟨rfl, rfl⟩)
  go_ret
  exact ⟨rfl, rfl⟩
set_option maxRecDepth 100000 in
set_option maxHeartbeats 1000000 in
theorem putu_273 (w : World) (g : Nat) (t : TypeId) (h : Blk w g t #[.int .u8 0, .int .u8 0]) : Calls Tryz.prog 174 #[.slice (some ⟨g, 0, none⟩) 2 2, .int .u64 273] w fun e w' => e = .returned (.int .i64 2) ∧ Blk w' g t #[.int .u8 145, .int .u8 2] ∧ ∀ B, B ≤ g → Below B w w' := by
  have c0 : w.cell? ⟨g, 0, none⟩ = some (.int .u8 0) := h.cell 0
  have c1 : w.cell? ⟨g, 1, none⟩ = some (.int .u8 0) := h.cell 1
  have o0 : bits .or .u8 17 128 = 145 := by kernel_rfl
  have f0 := h.frozen 0
  have f1 := h.frozen 1
  have H := Lib.hid h
  clear h
  go_enter Tryz.func174, Tryz.ntmps174
  go_wp2_with fail
  refine wp_loop_rounds 2 ?_
  rw [rounds_succ]
  go_wp2_with fail
  rw [rounds_succ]
  go_wp2_with fail
  go_ret
  refine ⟨rfl, ?_, ?_⟩
  · exact ((H.out.set_ 0 (.int .u8 145)).set_ 1 (.int .u8 2))
  · intro B hB; exact (((Below.refl _ _).setCell (by simpa using hB) _).setCell (by simpa using hB) _)
set_option maxRecDepth 100000 in
set_option maxHeartbeats 1000000 in
theorem touv_273 (w : World) : Calls Tryz.prog 129 #[.int .u64 273] w (OutV [145, 2] w) := by
  have hmk := run_make_bytes 2 (by omega)
  have e1 : ((2 : Nat) : Int) = 2 := rfl
  have e2 : madeCells #[.int .u8 0] (2 * 1) = #[.int .u8 0, .int .u8 0] := by kernel_rfl
  rw [e1, e2] at hmk
  clear e1 e2
  go_enter Tryz.func129, Tryz.ntmps129
  go_wp2_with (first
    | (go_at_call 173; refine (usize_273 _).mono ?_; rintro e w' ⟨rfl, rfl⟩)
    | (go_at_call 174; refine (putu_273 _ _ 5 (Blk.new _ _ _)).mono ?_; rintro e w' ⟨rfl, hB, hb⟩))
  have H := Lib.hid hB
  have HB := Lib.hid (hb w.heap.size (Nat.le_refl _))
  clear hB hb hmk
  go_wp2_with fail
  go_ret
  exact ⟨w.heap.size, rfl, Nat.le_refl _, H.out, ((Below.refl _ w).alloc (Nat.le_refl _) _).trans HB.out⟩
set_option maxRecDepth 100000 in
set_option maxHeartbeats 1000000 in
theorem code_273 (w : World) : Calls Tryz.prog 113 #[.int .i64 273] w (OutV [145, 2] w) := by
  go_enter Tryz.func113, Tryz.ntmps113
  go_wp2_with (go_at_call 129; refine (touv_273 _).mono ?_; rintro e w' ⟨g, rfl, hg, hr, hb⟩)
  go_ret
  exact ⟨g, rfl, hg, hr, hb⟩

set_option maxRecDepth 100000 in
set_option maxHeartbeats 1000000 in
theorem len64_290 (w : World) : Calls Tryz.prog 52 #[.int .u64 290] w fun e w' => e = .returned (.int .i64 9) ∧ w = w' := by
  go_enter Tryz.func52, Tryz.ntmps52
  go_wp2_with fail
  go_ret
  exact ⟨by simp; try kernel_rfl, rfl⟩
set_option maxRecDepth 100000 in
set_option maxHeartbeats 1000000 in
theorem usize_290 (w : World) : Calls Tryz.prog 173 #[.int .u64 290] w fun e w' => e = .returned (.int .i64 2) ∧ w = w' := by
  go_enter Tryz.func173, Tryz.ntmps173
  go_wp2_with (go_at_call 52; refine (len64_290 _).mono ?_; rintro e w' ⟨rfl, rfl⟩)
  go_ret
  exact ⟨rfl, rfl⟩
set_option maxRecDepth 100000 in
set_option maxHeartbeats 1000000 in
theorem putu_290 (w : World) (g : Nat) (t : TypeId) (h : Blk w g t #[.int .u8 0, .int .u8 0]) : Calls Tryz.prog 174 #[.slice (some ⟨g, 0, none⟩) 2 2, .int .u64 290] w fun e w' => e = .returned (.int .i64 2) ∧ Blk w' g t #[.int .u8 162, .int .u8 2] ∧ ∀ B, B ≤ g → Below B w w' := by
  have c0 : w.cell? ⟨g, 0, none⟩ = some (.int .u8 0) := h.cell 0
  have c1 : w.cell? ⟨g, 1, none⟩ = some (.int .u8 0) := h.cell 1
  have o0 : bits .or .u8 34 128 = 162 := by kernel_rfl
  have f0 := h.frozen 0
  have f1 := h.frozen 1
  have H := Lib.hid h
  clear h
  go_enter Tryz.func174, Tryz.ntmps174
  go_wp2_with fail
  refine wp_loop_rounds 2 ?_
  rw [rounds_succ]
  go_wp2_with fail
  rw [rounds_succ]
  go_wp2_with fail
  go_ret
  refine ⟨rfl, ?_, ?_⟩
  · exact ((H.out.set_ 0 (.int .u8 162)).set_ 1 (.int .u8 2))
  · intro B hB; exact (((Below.refl _ _).setCell (by simpa using hB) _).setCell (by simpa using hB) _)
set_option maxRecDepth 100000 in
set_option maxHeartbeats 1000000 in
theorem touv_290 (w : World) : Calls Tryz.prog 129 #[.int .u64 290] w (OutV [162, 2] w) := by
  have hmk := run_make_bytes 2 (by omega)
  have e1 : ((2 : Nat) : Int) = 2 := rfl
  have e2 : madeCells #[.int .u8 0] (2 * 1) = #[.int .u8 0, .int .u8 0] := by kernel_rfl
  rw [e1, e2] at hmk
  clear e1 e2
  go_enter Tryz.func129, Tryz.ntmps129
  go_wp2_with (first
    | (go_at_call 173; refine (usize_290 _).mono ?_; rintro e w' ⟨rfl, rfl⟩)
    | (go_at_call 174; refine (putu_290 _ _ 5 (Blk.new _ _ _)).mono ?_; rintro e w' ⟨rfl, hB, hb⟩))
  have H := Lib.hid hB
  have HB := Lib.hid (hb w.heap.size (Nat.le_refl _))
  clear hB hb hmk
  go_wp2_with fail
  go_ret
  exact ⟨w.heap.size, rfl, Nat.le_refl _, H.out, ((Below.refl _ w).alloc (Nat.le_refl _) _).trans HB.out⟩
set_option maxRecDepth 100000 in
set_option maxHeartbeats 1000000 in
theorem code_290 (w : World) : Calls Tryz.prog 113 #[.int .i64 290] w (OutV [162, 2] w) := by
  go_enter Tryz.func113, Tryz.ntmps113
  go_wp2_with (go_at_call 129; refine (touv_290 _).mono ?_; rintro e w' ⟨g, rfl, hg, hr, hb⟩)
  go_ret
  exact ⟨g, rfl, hg, hr, hb⟩

set_option maxRecDepth 100000 in
set_option maxHeartbeats 1000000 in
theorem len64_421 (w : World) : Calls Tryz.prog 52 #[.int .u64 421] w fun e w' => e = .returned (.int .i64 9) ∧ w = w' := by
  go_enter Tryz.func52, Tryz.ntmps52
  go_wp2_with fail
  go_ret
  exact ⟨by simp; try kernel_rfl, rfl⟩
set_option maxRecDepth 100000 in
set_option maxHeartbeats 1000000 in
theorem usize_421 (w : World) : Calls Tryz.prog 173 #[.int .u64 421] w fun e w' => e = .returned (.int .i64 2) ∧ w = w' := by
  go_enter Tryz.func173, Tryz.ntmps173
  go_wp2_with (go_at_call 52; refine (len64_421 _).mono ?_; rintro e w' ⟨rfl, rfl⟩)
  go_ret
  exact ⟨rfl, rfl⟩
set_option maxRecDepth 100000 in
set_option maxHeartbeats 1000000 in
theorem putu_421 (w : World) (g : Nat) (t : TypeId) (h : Blk w g t #[.int .u8 0, .int .u8 0]) : Calls Tryz.prog 174 #[.slice (some ⟨g, 0, none⟩) 2 2, .int .u64 421] w fun e w' => e = .returned (.int .i64 2) ∧ Blk w' g t #[.int .u8 165, .int .u8 3] ∧ ∀ B, B ≤ g → Below B w w' := by
  have c0 : w.cell? ⟨g, 0, none⟩ = some (.int .u8 0) := h.cell 0
  have c1 : w.cell? ⟨g, 1, none⟩ = some (.int .u8 0) := h.cell 1
  have o0 : bits .or .u8 165 128 = 165 := by kernel_rfl
  have f0 := h.frozen 0
  have f1 := h.frozen 1
  have H := Lib.hid h
  clear h
  go_enter Tryz.func174, Tryz.ntmps174
  go_wp2_with fail
  refine wp_loop_rounds 2 ?_
  rw [rounds_succ]
  go_wp2_with fail
  rw [rounds_succ]
  go_wp2_with fail
  go_ret
  refine ⟨rfl, ?_, ?_⟩
  · exact ((H.out.set_ 0 (.int .u8 165)).set_ 1 (.int .u8 3))
  · intro B hB; exact (((Below.refl _ _).setCell (by simpa using hB) _).setCell (by simpa using hB) _)
set_option maxRecDepth 100000 in
set_option maxHeartbeats 1000000 in
theorem touv_421 (w : World) : Calls Tryz.prog 129 #[.int .u64 421] w (OutV [165, 3] w) := by
  have hmk := run_make_bytes 2 (by omega)
  have e1 : ((2 : Nat) : Int) = 2 := rfl
  have e2 : madeCells #[.int .u8 0] (2 * 1) = #[.int .u8 0, .int .u8 0] := by kernel_rfl
  rw [e1, e2] at hmk
  clear e1 e2
  go_enter Tryz.func129, Tryz.ntmps129
  go_wp2_with (first
    | (go_at_call 173; refine (usize_421 _).mono ?_; rintro e w' ⟨rfl, rfl⟩)
    | (go_at_call 174; refine (putu_421 _ _ 5 (Blk.new _ _ _)).mono ?_; rintro e w' ⟨rfl, hB, hb⟩))
  have H := Lib.hid hB
  have HB := Lib.hid (hb w.heap.size (Nat.le_refl _))
  clear hB hb hmk
  go_wp2_with fail
  go_ret
  exact ⟨w.heap.size, rfl, Nat.le_refl _, H.out, ((Below.refl _ w).alloc (Nat.le_refl _) _).trans HB.out⟩
set_option maxRecDepth 100000 in
set_option maxHeartbeats 1000000 in
theorem code_421 (w : World) : Calls Tryz.prog 113 #[.int .i64 421] w (OutV [165, 3] w) := by
  go_enter Tryz.func113, Tryz.ntmps113
  go_wp2_with (go_at_call 129; refine (touv_421 _).mono ?_; rintro e w' ⟨g, rfl, hg, hr, hb⟩)
  go_ret
  exact ⟨g, rfl, hg, hr, hb⟩

set_option maxRecDepth 100000 in
set_option maxHeartbeats 1000000 in
theorem len64_461 (w : World) : Calls Tryz.prog 52 #[.int .u64 461] w fun e w' => e = .returned (.int .i64 9) ∧ w = w' := by
  go_enter Tryz.func52, Tryz.ntmps52
  go_wp2_with fail
  go_ret
  exact ⟨by simp; try kernel_rfl, rfl⟩
set_option maxRecDepth 100000 in
set_option maxHeartbeats 1000000 in
theorem usize_461 (w : World) : Calls Tryz.prog 173 #[.int .u64 461] w fun e w' => e = .returned (.int .i64 2) ∧ w = w' := by
  go_enter Tryz.func173, Tryz.ntmps173
  go_wp2_with (go_at_call 52; refine (len64_461 _).mono ?_; rintro e w' ⟨rfl, rfl⟩)
  go_ret
  exact ⟨rfl, rfl⟩
set_option maxRecDepth 100000 in
set_option maxHeartbeats 1000000 in
theorem putu_461 (w : World) (g : Nat) (t : TypeId) (h : Blk w g t #[.int .u8 0, .int .u8 0]) : Calls Tryz.prog 174 #[.slice (some ⟨g, 0, none⟩) 2 2, .int .u64 461] w fun e w' => e = .returned (.int .i64 2) ∧ Blk w' g t #[.int .u8 205, .int .u8 3] ∧ ∀ B, B ≤ g → Below B w w' := by
  have c0 : w.cell? ⟨g, 0, none⟩ = some (.int .u8 0) := h.cell 0
  have c1 : w.cell? ⟨g, 1, none⟩ = some (.int .u8 0) := h.cell 1
  have o0 : bits .or .u8 205 128 = 205 := by kernel_rfl
  have f0 := h.frozen 0
  have f1 := h.frozen 1
  have H := Lib.hid h
  clear h
  go_enter Tryz.func174, Tryz.ntmps174
  go_wp2_with fail
  refine wp_loop_rounds 2 ?_
  rw [rounds_succ]
  go_wp2_with fail
  rw [rounds_succ]
  go_wp2_with fail
  go_ret
  refine ⟨rfl, ?_, ?_⟩
  · exact ((H.out.set_ 0 (.int .u8 205)).set_ 1 (.int .u8 3))
  · intro B hB; exact (((Below.refl _ _).setCell (by simpa using hB) _).setCell (by simpa using hB) _)
set_option maxRecDepth 100000 in
set_option maxHeartbeats 1000000 in
theorem touv_461 (w : World) : Calls Tryz.prog 129 #[.int .u64 461] w (OutV [205, 3] w) := by
  have hmk := run_make_bytes 2 (by omega)
  have e1 : ((2 : Nat) : Int) = 2 := rfl
  have e2 : madeCells #[.int .u8 0] (2 * 1) = #[.int .u8 0, .int .u8 0] := by kernel_rfl
  rw [e1, e2] at hmk
  clear e1 e2
  go_enter Tryz.func129, Tryz.ntmps129
  go_wp2_with (first
    | (go_at_call 173; refine (usize_461 _).mono ?_; rintro e w' ⟨rfl, rfl⟩)
    | (go_at_call 174; refine (putu_461 _ _ 5 (Blk.new _ _ _)).mono ?_; rintro e w' ⟨rfl, hB, hb⟩))
  have H := Lib.hid hB
  have HB := Lib.hid (hb w.heap.size (Nat.le_refl _))
  clear hB hb hmk
  go_wp2_with fail
  go_ret
  exact ⟨w.heap.size, rfl, Nat.le_refl _, H.out, ((Below.refl _ w).alloc (Nat.le_refl _) _).trans HB.out⟩
set_option maxRecDepth 100000 in
set_option maxHeartbeats 1000000 in
theorem code_461 (w : World) : Calls Tryz.prog 113 #[.int .i64 461] w (OutV [205, 3] w) := by
  go_enter Tryz.func113, Tryz.ntmps113
  go_wp2_with (go_at_call 129; refine (touv_461 _).mono ?_; rintro e w' ⟨g, rfl, hg, hr, hb⟩)
  go_ret
  exact ⟨g, rfl, hg, hr, hb⟩

set_option maxRecDepth 100000 in
set_option maxHeartbeats 1000000 in
theorem len64_477 (w : World) : Calls Tryz.prog 52 #[.int .u64 477] w fun e w' => e = .returned (.int .i64 9) ∧ w = w' := by
  go_enter Tryz.func52, Tryz.ntmps52
  go_wp2_with fail
  go_ret
  exact ⟨by simp; try kernel_rfl, rfl⟩
set_option maxRecDepth 100000 in
set_option maxHeartbeats 1000000 in
theorem usize_477 (w : World) : Calls Tryz.prog 173 #[.int .u64 477] w fun e w' => e = .returned (.int .i64 2) ∧ w = w' := by
  go_enter Tryz.func173, Tryz.ntmps173
  go_wp2_with (go_at_call 52; refine (len64_477 _).mono ?_; rintro e w' ⟨rfl, rfl⟩)
  go_ret
  exact ⟨rfl, rfl⟩
set_option maxRecDepth 100000 in
set_option maxHeartbeats 1000000 in
theorem putu_477 (w : World) (g : Nat) (t : TypeId) (h : Blk w g t #[.int .u8 0, .int .u8 0]) : Calls Tryz.prog 174 #[.slice (some ⟨g, 0, none⟩) 2 2, .int .u64 477] w fun e w' => e = .returned (.int .i64 2) ∧ Blk w' g t #[.int .u8 221, .int .u8 3] ∧ ∀ B, B ≤ g → Below B w w' := by
  have c0 : w.cell? ⟨g, 0, none⟩ = some (.int .u8 0) := h.cell 0
  have c1 : w.cell? ⟨g, 1, none⟩ = some (.int .u8 0) := h.cell 1
  have o0 : bits .or .u8 221 128 = 221 := by kernel_rfl
  have f0 := h.frozen 0
  have f1 := h.frozen 1
  have H := Lib.hid h
  clear h
  go_enter Tryz.func174, Tryz.ntmps174
  go_wp2_with fail
  refine wp_loop_rounds 2 ?_
  rw [rounds_succ]
  go_wp2_with fail
  rw [rounds_succ]
  go_wp2_with fail
  go_ret
  refine ⟨rfl, ?_, ?_⟩
  · exact ((H.out.set_ 0 (.int .u8 221)).set_ 1 (.int .u8 3))
  · intro B hB; exact (((Below.refl _ _).setCell (by simpa using hB) _).setCell (by simpa using hB) _)
set_option maxRecDepth 100000 in
set_option maxHeartbeats 1000000 in
theorem touv_477 (w : World) : Calls Tryz.prog 129 #[.int .u64 477] w (OutV [221, 3] w) := by
  have hmk := run_make_bytes 2 (by omega)
  have e1 : ((2 : Nat) : Int) = 2 := rfl
  have e2 : madeCells #[.int .u8 0] (2 * 1) = #[.int .u8 0, .int .u8 0] := by kernel_rfl
  rw [e1, e2] at hmk
  clear e1 e2
  go_enter Tryz.func129, Tryz.ntmps129
  go_wp2_with (first
    | (go_at_call 173; refine (usize_477 _).mono ?_; rintro e w' ⟨rfl, rfl⟩)
    | (go_at_call 174; refine (putu_477 _ _ 5 (Blk.new _ _ _)).mono ?_; rintro e w' ⟨rfl, hB, hb⟩))
  have H := Lib.hid hB
  have HB := Lib.hid (hb w.heap.size (Nat.le_refl _))
  clear hB hb hmk
  go_wp2_with fail
  go_ret
  exact ⟨w.heap.size, rfl, Nat.le_refl _, H.out, ((Below.refl _ w).alloc (Nat.le_refl _) _).trans HB.out⟩
set_option maxRecDepth 100000 in
set_option maxHeartbeats 1000000 in
theorem code_477 (w : World) : Calls Tryz.prog 113 #[.int .i64 477] w (OutV [221, 3] w) := by
  go_enter Tryz.func113, Tryz.ntmps113
  go_wp2_with (go_at_call 129; refine (touv_477 _).mono ?_; rintro e w' ⟨g, rfl, hg, hr, hb⟩)
  go_ret
  exact ⟨g, rfl, hg, hr, hb⟩
end Go.Proofs.YtimakhadabenbaaGreatDoor

/- Protocols by their codes. -/
namespace Go.Proofs.YtimakhadabenbaaGreatDoor
open Go.RowKit
/-- A function, as a value. -/
def fnv (a : Nat) : Value := .func (Fn.func a) #[] #[]
/-- The cells of no protocol. -/
def pzero : Array Value := #[.string ⟨#[]⟩, .int .i64 0, .slice none 0 0, .int .i64 0, .bool false, .nilIface]
theorem pzero_cells {w : World} {g : Nat} {t : TypeId} (h : Blk w g t pzero) : w.cell? ⟨g, 0, none⟩ = some (.string ⟨#[]⟩) ∧ w.cell? ⟨g, 1, none⟩ = some (.int .i64 0) ∧ w.cell? ⟨g, 2, none⟩ = some (.slice none 0 0) ∧
    w.cell? ⟨g, 3, none⟩ = some (.int .i64 0) ∧ w.cell? ⟨g, 4, none⟩ = some (.bool false) ∧ w.cell? ⟨g, 5, none⟩ = some .nilIface := ⟨h.cell 0, h.cell 1, h.cell 2, h.cell 3, h.cell 4, h.cell 5⟩
theorem six_frozen {w : World} {g : Nat} {t : TypeId} {cs : Array Value} (h : Blk w g t cs) : w.frozen? ⟨g, 0, none⟩ = false ∧ w.frozen? ⟨g, 1, none⟩ = false ∧ w.frozen? ⟨g, 2, none⟩ = false ∧ w.frozen? ⟨g, 3, none⟩ = false ∧
    w.frozen? ⟨g, 4, none⟩ = false ∧ w.frozen? ⟨g, 5, none⟩ = false := ⟨h.frozen 0, h.frozen 1, h.frozen 2, h.frozen 3, h.frozen 4, h.frozen 5⟩
set_option maxRecDepth 100000 in
set_option maxHeartbeats 1000000 in
theorem newtr_two (a b : Nat) (w : World) : Calls Tryz.prog 130 #[.func (Fn.func a) #[] #[], .func (Fn.func b) #[] #[], .nilFunc] w fun e w' => e = .returned (.iface 147 (.agg #[fnv a, fnv b, .nilFunc])) ∧ w = w' := by
  go_enter Tryz.func130, Tryz.ntmps130
  go_wp2_with fail
  go_ret
  exact ⟨rfl, rfl⟩
set_option maxRecDepth 100000 in
set_option maxHeartbeats 1000000 in
theorem newtr_three (a b c : Nat) (w : World) : Calls Tryz.prog 130 #[.func (Fn.func a) #[] #[], .func (Fn.func b) #[] #[], .func (Fn.func c) #[] #[]] w fun e w' => e = .returned (.iface 147 (.agg #[fnv a, fnv b, fnv c])) ∧ w = w' := by
  go_enter Tryz.func130, Tryz.ntmps130
  go_wp2_with fail
  go_ret
  exact ⟨rfl, rfl⟩

set_option maxRecDepth 100000 in
set_option maxHeartbeats 1000000 in
theorem tr_IP4 (w : World) : Calls Tryz.prog 114 #[] w fun e w' => e = .returned (.iface 147 (.agg #[fnv 131, fnv 132, .nilFunc])) ∧ w = w' := by
  go_enter Tryz.func114, Tryz.ntmps114
  go_wp2_with (go_at_call 130; refine (newtr_two 131 132 _).mono ?_; rintro e w' ⟨rfl, rfl⟩)
  go_ret
  exact ⟨rfl, rfl⟩

set_option maxRecDepth 100000 in
set_option maxHeartbeats 1000000 in
theorem tr_IP6 (w : World) : Calls Tryz.prog 117 #[] w fun e w' => e = .returned (.iface 147 (.agg #[fnv 138, fnv 139, .nilFunc])) ∧ w = w' := by
  go_enter Tryz.func117, Tryz.ntmps117
  go_wp2_with (go_at_call 130; refine (newtr_two 138 139 _).mono ?_; rintro e w' ⟨rfl, rfl⟩)
  go_ret
  exact ⟨rfl, rfl⟩

set_option maxRecDepth 100000 in
set_option maxHeartbeats 1000000 in
theorem tr_Port (w : World) : Calls Tryz.prog 115 #[] w fun e w' => e = .returned (.iface 147 (.agg #[fnv 133, fnv 134, .nilFunc])) ∧ w = w' := by
  go_enter Tryz.func115, Tryz.ntmps115
  go_wp2_with (go_at_call 130; refine (newtr_two 133 134 _).mono ?_; rintro e w' ⟨rfl, rfl⟩)
  go_ret
  exact ⟨rfl, rfl⟩

set_option maxRecDepth 100000 in
set_option maxHeartbeats 1000000 in
theorem tr_P2P (w : World) : Calls Tryz.prog 126 #[] w fun e w' => e = .returned (.iface 147 (.agg #[fnv 164, fnv 165, fnv 166])) ∧ w = w' := by
  go_enter Tryz.func126, Tryz.ntmps126
  go_wp2_with (go_at_call 130; refine (newtr_three 164 165 166 _).mono ?_; rintro e w' ⟨rfl, rfl⟩)
  go_ret
  exact ⟨rfl, rfl⟩

/-- What is known of a protocol: name, varint, size, transcoder. -/
structure Proto where
  name : List UInt8
  vc : List UInt8
  size : Int
  tc : Value
def protoOf : Nat → Proto
  | 4 => ⟨[105, 112, 52], [4], 32, .iface 147 (.agg #[fnv 131, fnv 132, .nilFunc])⟩
  | 6 => ⟨[116, 99, 112], [6], 16, .iface 147 (.agg #[fnv 133, fnv 134, .nilFunc])⟩
  | 41 => ⟨[105, 112, 54], [41], 128, .iface 147 (.agg #[fnv 138, fnv 139, .nilFunc])⟩
  | 273 => ⟨[117, 100, 112], [145, 2], 16, .iface 147 (.agg #[fnv 133, fnv 134, .nilFunc])⟩
  | 290 => ⟨[112, 50, 112, 45, 99, 105, 114, 99, 117, 105, 116], [162, 2], 0, .nilIface⟩
  | 421 => ⟨[112, 50, 112], [165, 3], -1, .iface 147 (.agg #[fnv 164, fnv 165, fnv 166])⟩
  | 461 => ⟨[113, 117, 105, 99, 45, 118, 49], [205, 3], 0, .nilIface⟩
  | 477 => ⟨[119, 115], [221, 3], 0, .nilIface⟩
  | _ => ⟨[], [], 0, .nilIface⟩
/-- The cells of a protocol. -/
def pcells (k g : Nat) : Array Value := #[.string ⟨(protoOf k).name.toArray⟩, .int .i64 k, .slice (some ⟨g, 0, none⟩) (protoOf k).vc.length (protoOf k).vc.length, .int .i64 (protoOf k).size, .bool false, (protoOf k).tc]
def OutP (k : Nat) (w : World) (e : Ending) (w' : World) : Prop :=
  ∃ g, e = .returned (.agg (pcells k g)) ∧ w.heap.size ≤ g ∧ Blk w' g 5 (bv (protoOf k).vc).toArray ∧ Below w.heap.size w w'
theorem proto_size : (Tryz.prog.info? 83).map (·.size) = some 6 := by kernel_rfl

set_option maxRecDepth 100000 in
set_option maxHeartbeats 1000000 in
theorem proto_4 (w : World) : Calls Tryz.prog 75 #[] w (OutP 4 w) := by
  go_enter Tryz.func75, Tryz.ntmps75
  go_wp2_with (first
    | (go_at_call 113; refine (code_4 _).mono ?_; rintro e w1 ⟨g, rfl, hg, hr, hb⟩; have hk := (Blk.new w 83 pzero).below hb (by simp); have Hb := Lib.hid hb; have Hr := Lib.hid hr; clear hr hb; obtain ⟨c0, c1, c2, c3, c4, c5⟩ := pzero_cells hk; obtain ⟨f0, f1, f2, f3, f4, f5⟩ := six_frozen hk; have HK := Lib.hid hk; clear hk)
    | (go_at_call 114; refine (tr_IP4 _).mono ?_; rintro e w2 ⟨rfl, rfl⟩))
  have hgg := Lib.hid (show w.heap.size + 1 ≤ g by simpa using hg)
  have hbb := ((Below.refl _ w).alloc (Nat.le_refl _) (.cells pzero 83)).trans (Hb.out.mono (by simp))
  have hbl := Lib.hid hbb
  clear hbb
  have hst := ((((((HK.out.set_ 0 (.string ⟨#[105, 112, 52]⟩)).set_ 1 (.int .i64 4)).set_ 2 (.slice (some ⟨g, 0, none⟩) 1 1)).set_ 3 (.int .i64 32)).set_ 4 (.bool false)).set_ 5 (.iface 147 (.agg #[fnv 131, fnv 132, .nilFunc])))
  refine bodyPost_ret (results_cell_row rfl _ _ w.heap.size 83 (pcells 4 g) (0, 0) _ rfl hst Tryz.underlying83 rfl (proto_size.trans rfl)) rfl ?_
  exact ⟨g, rfl, Nat.le_of_succ_le hgg.out, ((((((Hr.out.far (p := ⟨w.heap.size, 0, none⟩) (by simp; have := hgg.out; omega) _).far (p := ⟨w.heap.size, 1, none⟩) (by simp; have := hgg.out; omega) _).far (p := ⟨w.heap.size, 2, none⟩) (by simp; have := hgg.out; omega) _).far (p := ⟨w.heap.size, 3, none⟩) (by simp; have := hgg.out; omega) _).far (p := ⟨w.heap.size, 4, none⟩) (by simp; have := hgg.out; omega) _).far (p := ⟨w.heap.size, 5, none⟩) (by simp; have := hgg.out; omega) _), ((((((hbl.out.setCell (by simp) _).setCell (by simp) _).setCell (by simp) _).setCell (by simp) _).setCell (by simp) _).setCell (by simp) _)⟩

set_option maxRecDepth 100000 in
set_option maxHeartbeats 1000000 in
theorem proto_6 (w : World) : Calls Tryz.prog 76 #[] w (OutP 6 w) := by
  go_enter Tryz.func76, Tryz.ntmps76
  go_wp2_with (first
    | (go_at_call 113; refine (code_6 _).mono ?_; rintro e w1 ⟨g, rfl, hg, hr, hb⟩; have hk := (Blk.new w 83 pzero).below hb (by simp); have Hb := Lib.hid hb; have Hr := Lib.hid hr; clear hr hb; obtain ⟨c0, c1, c2, c3, c4, c5⟩ := pzero_cells hk; obtain ⟨f0, f1, f2, f3, f4, f5⟩ := six_frozen hk; have HK := Lib.hid hk; clear hk)
    | (go_at_call 115; refine (tr_Port _).mono ?_; rintro e w2 ⟨rfl, rfl⟩))
  have hgg := Lib.hid (show w.heap.size + 1 ≤ g by simpa using hg)
  have hbb := ((Below.refl _ w).alloc (Nat.le_refl _) (.cells pzero 83)).trans (Hb.out.mono (by simp))
  have hbl := Lib.hid hbb
  clear hbb
  have hst := ((((((HK.out.set_ 0 (.string ⟨#[116, 99, 112]⟩)).set_ 1 (.int .i64 6)).set_ 2 (.slice (some ⟨g, 0, none⟩) 1 1)).set_ 3 (.int .i64 16)).set_ 4 (.bool false)).set_ 5 (.iface 147 (.agg #[fnv 133, fnv 134, .nilFunc])))
  refine bodyPost_ret (results_cell_row rfl _ _ w.heap.size 83 (pcells 6 g) (0, 0) _ rfl hst Tryz.underlying83 rfl (proto_size.trans rfl)) rfl ?_
  exact ⟨g, rfl, Nat.le_of_succ_le hgg.out, ((((((Hr.out.far (p := ⟨w.heap.size, 0, none⟩) (by simp; have := hgg.out; omega) _).far (p := ⟨w.heap.size, 1, none⟩) (by simp; have := hgg.out; omega) _).far (p := ⟨w.heap.size, 2, none⟩) (by simp; have := hgg.out; omega) _).far (p := ⟨w.heap.size, 3, none⟩) (by simp; have := hgg.out; omega) _).far (p := ⟨w.heap.size, 4, none⟩) (by simp; have := hgg.out; omega) _).far (p := ⟨w.heap.size, 5, none⟩) (by simp; have := hgg.out; omega) _), ((((((hbl.out.setCell (by simp) _).setCell (by simp) _).setCell (by simp) _).setCell (by simp) _).setCell (by simp) _).setCell (by simp) _)⟩

set_option maxRecDepth 100000 in
set_option maxHeartbeats 1000000 in
theorem proto_41 (w : World) : Calls Tryz.prog 83 #[] w (OutP 41 w) := by
  go_enter Tryz.func83, Tryz.ntmps83
  go_wp2_with (first
    | (go_at_call 113; refine (code_41 _).mono ?_; rintro e w1 ⟨g, rfl, hg, hr, hb⟩; have hk := (Blk.new w 83 pzero).below hb (by simp); have Hb := Lib.hid hb; have Hr := Lib.hid hr; clear hr hb; obtain ⟨c0, c1, c2, c3, c4, c5⟩ := pzero_cells hk; obtain ⟨f0, f1, f2, f3, f4, f5⟩ := six_frozen hk; have HK := Lib.hid hk; clear hk)
    | (go_at_call 117; refine (tr_IP6 _).mono ?_; rintro e w2 ⟨rfl, rfl⟩))
  have hgg := Lib.hid (show w.heap.size + 1 ≤ g by simpa using hg)
  have hbb := ((Below.refl _ w).alloc (Nat.le_refl _) (.cells pzero 83)).trans (Hb.out.mono (by simp))
  have hbl := Lib.hid hbb
  clear hbb
  have hst := ((((((HK.out.set_ 0 (.string ⟨#[105, 112, 54]⟩)).set_ 1 (.int .i64 41)).set_ 2 (.slice (some ⟨g, 0, none⟩) 1 1)).set_ 3 (.int .i64 128)).set_ 4 (.bool false)).set_ 5 (.iface 147 (.agg #[fnv 138, fnv 139, .nilFunc])))
  refine bodyPost_ret (results_cell_row rfl _ _ w.heap.size 83 (pcells 41 g) (0, 0) _ rfl hst Tryz.underlying83 rfl (proto_size.trans rfl)) rfl ?_
  exact ⟨g, rfl, Nat.le_of_succ_le hgg.out, ((((((Hr.out.far (p := ⟨w.heap.size, 0, none⟩) (by simp; have := hgg.out; omega) _).far (p := ⟨w.heap.size, 1, none⟩) (by simp; have := hgg.out; omega) _).far (p := ⟨w.heap.size, 2, none⟩) (by simp; have := hgg.out; omega) _).far (p := ⟨w.heap.size, 3, none⟩) (by simp; have := hgg.out; omega) _).far (p := ⟨w.heap.size, 4, none⟩) (by simp; have := hgg.out; omega) _).far (p := ⟨w.heap.size, 5, none⟩) (by simp; have := hgg.out; omega) _), ((((((hbl.out.setCell (by simp) _).setCell (by simp) _).setCell (by simp) _).setCell (by simp) _).setCell (by simp) _).setCell (by simp) _)⟩

set_option maxRecDepth 100000 in
set_option maxHeartbeats 1000000 in
theorem proto_273 (w : World) : Calls Tryz.prog 81 #[] w (OutP 273 w) := by
  go_enter Tryz.func81, Tryz.ntmps81
  go_wp2_with (first
    | (go_at_call 113; refine (code_273 _).mono ?_; rintro e w1 ⟨g, rfl, hg, hr, hb⟩; have hk := (Blk.new w 83 pzero).below hb (by simp); have Hb := Lib.hid hb; have Hr := Lib.hid hr; clear hr hb; obtain ⟨c0, c1, c2, c3, c4, c5⟩ := pzero_cells hk; obtain ⟨f0, f1, f2, f3, f4, f5⟩ := six_frozen hk; have HK := Lib.hid hk; clear hk)
    | (go_at_call 115; refine (tr_Port _).mono ?_; rintro e w2 ⟨rfl, rfl⟩))
  have hgg := Lib.hid (show w.heap.size + 1 ≤ g by simpa using hg)
  have hbb := ((Below.refl _ w).alloc (Nat.le_refl _) (.cells pzero 83)).trans (Hb.out.mono (by simp))
  have hbl := Lib.hid hbb
  clear hbb
  have hst := ((((((HK.out.set_ 0 (.string ⟨#[117, 100, 112]⟩)).set_ 1 (.int .i64 273)).set_ 2 (.slice (some ⟨g, 0, none⟩) 2 2)).set_ 3 (.int .i64 16)).set_ 4 (.bool false)).set_ 5 (.iface 147 (.agg #[fnv 133, fnv 134, .nilFunc])))
  refine bodyPost_ret (results_cell_row rfl _ _ w.heap.size 83 (pcells 273 g) (0, 0) _ rfl hst Tryz.underlying83 rfl (proto_size.trans rfl)) rfl ?_
  exact ⟨g, rfl, Nat.le_of_succ_le hgg.out, ((((((Hr.out.far (p := ⟨w.heap.size, 0, none⟩) (by simp; have := hgg.out; omega) _).far (p := ⟨w.heap.size, 1, none⟩) (by simp; have := hgg.out; omega) _).far (p := ⟨w.heap.size, 2, none⟩) (by simp; have := hgg.out; omega) _).far (p := ⟨w.heap.size, 3, none⟩) (by simp; have := hgg.out; omega) _).far (p := ⟨w.heap.size, 4, none⟩) (by simp; have := hgg.out; omega) _).far (p := ⟨w.heap.size, 5, none⟩) (by simp; have := hgg.out; omega) _), ((((((hbl.out.setCell (by simp) _).setCell (by simp) _).setCell (by simp) _).setCell (by simp) _).setCell (by simp) _).setCell (by simp) _)⟩

set_option maxRecDepth 100000 in
set_option maxHeartbeats 1000000 in
theorem proto_290 (w : World) : Calls Tryz.prog 87 #[] w (OutP 290 w) := by
  go_enter Tryz.func87, Tryz.ntmps87
  go_wp2_with (first
    | (go_at_call 113; refine (code_290 _).mono ?_; rintro e w1 ⟨g, rfl, hg, hr, hb⟩; have hk := (Blk.new w 83 pzero).below hb (by simp); have Hb := Lib.hid hb; have Hr := Lib.hid hr; clear hr hb; obtain ⟨c0, c1, c2, c3, c4, c5⟩ := pzero_cells hk; obtain ⟨f0, f1, f2, f3, f4, f5⟩ := six_frozen hk; have HK := Lib.hid hk; clear hk))
  have hgg := Lib.hid (show w.heap.size + 1 ≤ g by simpa using hg)
  have hbb := ((Below.refl _ w).alloc (Nat.le_refl _) (.cells pzero 83)).trans (Hb.out.mono (by simp))
  have hbl := Lib.hid hbb
  clear hbb
  have hst := ((((((HK.out.set_ 0 (.string ⟨#[112, 50, 112, 45, 99, 105, 114, 99, 117, 105, 116]⟩)).set_ 1 (.int .i64 290)).set_ 2 (.slice (some ⟨g, 0, none⟩) 2 2)).set_ 3 (.int .i64 0)).set_ 4 (.bool false)).set_ 5 (.nilIface))
  refine bodyPost_ret (results_cell_row rfl _ _ w.heap.size 83 (pcells 290 g) (0, 0) _ rfl hst Tryz.underlying83 rfl (proto_size.trans rfl)) rfl ?_
  exact ⟨g, rfl, Nat.le_of_succ_le hgg.out, ((((((Hr.out.far (p := ⟨w.heap.size, 0, none⟩) (by simp; have := hgg.out; omega) _).far (p := ⟨w.heap.size, 1, none⟩) (by simp; have := hgg.out; omega) _).far (p := ⟨w.heap.size, 2, none⟩) (by simp; have := hgg.out; omega) _).far (p := ⟨w.heap.size, 3, none⟩) (by simp; have := hgg.out; omega) _).far (p := ⟨w.heap.size, 4, none⟩) (by simp; have := hgg.out; omega) _).far (p := ⟨w.heap.size, 5, none⟩) (by simp; have := hgg.out; omega) _), ((((((hbl.out.setCell (by simp) _).setCell (by simp) _).setCell (by simp) _).setCell (by simp) _).setCell (by simp) _).setCell (by simp) _)⟩

set_option maxRecDepth 100000 in
set_option maxHeartbeats 1000000 in
theorem proto_421 (w : World) : Calls Tryz.prog 101 #[] w (OutP 421 w) := by
  go_enter Tryz.func101, Tryz.ntmps101
  go_wp2_with (first
    | (go_at_call 113; refine (code_421 _).mono ?_; rintro e w1 ⟨g, rfl, hg, hr, hb⟩; have hk := (Blk.new w 83 pzero).below hb (by simp); have Hb := Lib.hid hb; have Hr := Lib.hid hr; clear hr hb; obtain ⟨c0, c1, c2, c3, c4, c5⟩ := pzero_cells hk; obtain ⟨f0, f1, f2, f3, f4, f5⟩ := six_frozen hk; have HK := Lib.hid hk; clear hk)
    | (go_at_call 126; refine (tr_P2P _).mono ?_; rintro e w2 ⟨rfl, rfl⟩))
  have hgg := Lib.hid (show w.heap.size + 1 ≤ g by simpa using hg)
  have hbb := ((Below.refl _ w).alloc (Nat.le_refl _) (.cells pzero 83)).trans (Hb.out.mono (by simp))
  have hbl := Lib.hid hbb
  clear hbb
  have hst := ((((((HK.out.set_ 0 (.string ⟨#[112, 50, 112]⟩)).set_ 1 (.int .i64 421)).set_ 2 (.slice (some ⟨g, 0, none⟩) 2 2)).set_ 3 (.int .i64 (-1))).set_ 4 (.bool false)).set_ 5 (.iface 147 (.agg #[fnv 164, fnv 165, fnv 166])))
  refine bodyPost_ret (results_cell_row rfl _ _ w.heap.size 83 (pcells 421 g) (0, 0) _ rfl hst Tryz.underlying83 rfl (proto_size.trans rfl)) rfl ?_
  exact ⟨g, rfl, Nat.le_of_succ_le hgg.out, ((((((Hr.out.far (p := ⟨w.heap.size, 0, none⟩) (by simp; have := hgg.out; omega) _).far (p := ⟨w.heap.size, 1, none⟩) (by simp; have := hgg.out; omega) _).far (p := ⟨w.heap.size, 2, none⟩) (by simp; have := hgg.out; omega) _).far (p := ⟨w.heap.size, 3, none⟩) (by simp; have := hgg.out; omega) _).far (p := ⟨w.heap.size, 4, none⟩) (by simp; have := hgg.out; omega) _).far (p := ⟨w.heap.size, 5, none⟩) (by simp; have := hgg.out; omega) _), ((((((hbl.out.setCell (by simp) _).setCell (by simp) _).setCell (by simp) _).setCell (by simp) _).setCell (by simp) _).setCell (by simp) _)⟩

set_option maxRecDepth 100000 in
set_option maxHeartbeats 1000000 in
theorem proto_461 (w : World) : Calls Tryz.prog 95 #[] w (OutP 461 w) := by
  go_enter Tryz.func95, Tryz.ntmps95
  go_wp2_with (first
    | (go_at_call 113; refine (code_461 _).mono ?_; rintro e w1 ⟨g, rfl, hg, hr, hb⟩; have hk := (Blk.new w 83 pzero).below hb (by simp); have Hb := Lib.hid hb; have Hr := Lib.hid hr; clear hr hb; obtain ⟨c0, c1, c2, c3, c4, c5⟩ := pzero_cells hk; obtain ⟨f0, f1, f2, f3, f4, f5⟩ := six_frozen hk; have HK := Lib.hid hk; clear hk))
  have hgg := Lib.hid (show w.heap.size + 1 ≤ g by simpa using hg)
  have hbb := ((Below.refl _ w).alloc (Nat.le_refl _) (.cells pzero 83)).trans (Hb.out.mono (by simp))
  have hbl := Lib.hid hbb
  clear hbb
  have hst := ((((((HK.out.set_ 0 (.string ⟨#[113, 117, 105, 99, 45, 118, 49]⟩)).set_ 1 (.int .i64 461)).set_ 2 (.slice (some ⟨g, 0, none⟩) 2 2)).set_ 3 (.int .i64 0)).set_ 4 (.bool false)).set_ 5 (.nilIface))
  refine bodyPost_ret (results_cell_row rfl _ _ w.heap.size 83 (pcells 461 g) (0, 0) _ rfl hst Tryz.underlying83 rfl (proto_size.trans rfl)) rfl ?_
  exact ⟨g, rfl, Nat.le_of_succ_le hgg.out, ((((((Hr.out.far (p := ⟨w.heap.size, 0, none⟩) (by simp; have := hgg.out; omega) _).far (p := ⟨w.heap.size, 1, none⟩) (by simp; have := hgg.out; omega) _).far (p := ⟨w.heap.size, 2, none⟩) (by simp; have := hgg.out; omega) _).far (p := ⟨w.heap.size, 3, none⟩) (by simp; have := hgg.out; omega) _).far (p := ⟨w.heap.size, 4, none⟩) (by simp; have := hgg.out; omega) _).far (p := ⟨w.heap.size, 5, none⟩) (by simp; have := hgg.out; omega) _), ((((((hbl.out.setCell (by simp) _).setCell (by simp) _).setCell (by simp) _).setCell (by simp) _).setCell (by simp) _).setCell (by simp) _)⟩

set_option maxRecDepth 100000 in
set_option maxHeartbeats 1000000 in
theorem proto_477 (w : World) : Calls Tryz.prog 107 #[] w (OutP 477 w) := by
  go_enter Tryz.func107, Tryz.ntmps107
  go_wp2_with (first
    | (go_at_call 113; refine (code_477 _).mono ?_; rintro e w1 ⟨g, rfl, hg, hr, hb⟩; have hk := (Blk.new w 83 pzero).below hb (by simp); have Hb := Lib.hid hb; have Hr := Lib.hid hr; clear hr hb; obtain ⟨c0, c1, c2, c3, c4, c5⟩ := pzero_cells hk; obtain ⟨f0, f1, f2, f3, f4, f5⟩ := six_frozen hk; have HK := Lib.hid hk; clear hk))
  have hgg := Lib.hid (show w.heap.size + 1 ≤ g by simpa using hg)
  have hbb := ((Below.refl _ w).alloc (Nat.le_refl _) (.cells pzero 83)).trans (Hb.out.mono (by simp))
  have hbl := Lib.hid hbb
  clear hbb
  have hst := ((((((HK.out.set_ 0 (.string ⟨#[119, 115]⟩)).set_ 1 (.int .i64 477)).set_ 2 (.slice (some ⟨g, 0, none⟩) 2 2)).set_ 3 (.int .i64 0)).set_ 4 (.bool false)).set_ 5 (.nilIface))
  refine bodyPost_ret (results_cell_row rfl _ _ w.heap.size 83 (pcells 477 g) (0, 0) _ rfl hst Tryz.underlying83 rfl (proto_size.trans rfl)) rfl ?_
  exact ⟨g, rfl, Nat.le_of_succ_le hgg.out, ((((((Hr.out.far (p := ⟨w.heap.size, 0, none⟩) (by simp; have := hgg.out; omega) _).far (p := ⟨w.heap.size, 1, none⟩) (by simp; have := hgg.out; omega) _).far (p := ⟨w.heap.size, 2, none⟩) (by simp; have := hgg.out; omega) _).far (p := ⟨w.heap.size, 3, none⟩) (by simp; have := hgg.out; omega) _).far (p := ⟨w.heap.size, 4, none⟩) (by simp; have := hgg.out; omega) _).far (p := ⟨w.heap.size, 5, none⟩) (by simp; have := hgg.out; omega) _), ((((((hbl.out.setCell (by simp) _).setCell (by simp) _).setCell (by simp) _).setCell (by simp) _).setCell (by simp) _).setCell (by simp) _)⟩
end Go.Proofs.YtimakhadabenbaaGreatDoor
