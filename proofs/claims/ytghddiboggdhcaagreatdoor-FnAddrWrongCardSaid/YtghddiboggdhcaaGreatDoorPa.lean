/- Varints as the package reads them: one byte, two bytes. -/
import Derived.Test.YtghddiboggdhcaaGreatDoorXc
import Derived.BigQuiet
import Derived.Laws.Bits64b
set_option maxRecDepth 100000
set_option maxHeartbeats 1000000
namespace Go.Proofs.YtghddiboggdhcaaGreatDoor
open Go.RowKit
theorem or0 (b : UInt8) : bits .or .u64 0 (b.toNat : Int) = (b.toNat : Int) := by
  have h := b.toNat_lt
  have := bits_or_u64_nat 0 b.toNat (by omega) (by omega)
  simpa using this
theorem RB.first {w : World} {B n c : Nat} {A : Option Addr} {b : UInt8} {l : List UInt8} (h : RB w B A n c (b :: l)) :
    ∃ ad, A = some ad ∧ ad.block < B ∧ n = l.length + 1 ∧ w.cell? ad = some (.int .u8 b.toNat) ∧ ∀ b2 l2, l = b2 :: l2 → w.cell? ⟨ad.block, ad.off + 1, none⟩ = some (.int .u8 b2.toNat) := by
  have hl := h.len
  obtain ⟨ad, rfl, hb, hc⟩ := h.at_ (k := 0) (by simp at hl; omega) (by simp)
  refine ⟨ad, rfl, hb, by simp at hl; omega, by simpa [Addr.add] using hc, fun b2 l2 e => ?_⟩
  subst e
  obtain ⟨ad', e', _, hc'⟩ := h.at_ (k := 1) (by simp at hl; omega) (by simp)
  injection e' with e'
  subst e'
  simpa [Addr.add] using hc'
theorem from_one (A : Option Addr) (n c : Nat) (b : UInt8) (l : List UInt8) (w : World) (h : RB w w.heap.size A n c (b :: l)) (hb : b.toNat < 128) :
    Calls Tryz.prog 68 #[.slice A n c] w fun e w' => e = .returned (.tuple #[.int .u64 b.toNat, .int .i64 1, .nilIface]) ∧ w = w' := by
  obtain ⟨ad, rfl, hbk, hn, hcell, _⟩ := h.first
  have hm : n ≤ maxLen := Nat.le_trans h.cap h.max
  unfold maxLen at hm
  have hn0 : 0 < n := by omega
  have q0 := or0 b
  have q1 : bits .or .u64 0 0 = 0 := by kernel_rfl
  clear h hn
  go_enter Tryz.func68, Tryz.ntmps68
  go_wp2_with fail
  refine wp_loop_rounds 1 ?_
  rw [rounds_succ]
  go_wp2_with fail
  all_goals (go_ret3; exact ⟨by simp [*], rfl⟩)
theorem readvar_one (A : Option Addr) (n c : Nat) (b : UInt8) (l : List UInt8) (w : World) (h : RB w w.heap.size A n c (b :: l)) (hb : b.toNat < 128) :
    Calls Tryz.prog 61 #[.slice A n c] w fun e w' => e = .returned (.tuple #[.int .i64 b.toNat, .int .i64 1, .nilIface]) ∧ w = w' := by
  have H := Lib.hid h
  clear h
  go_enter Tryz.func61, Tryz.ntmps61
  go_wp2_with (go_at_call 68; refine (from_one A n c b l _ H.out hb).mono ?_; rintro e w' ⟨rfl, rfl⟩)
  go_ret3
  exact ⟨rfl, rfl⟩
theorem from_273 (A : Option Addr) (n c : Nat) (l : List UInt8) (w : World) (h : RB w w.heap.size A n c (145 :: 2 :: l)) :
    Calls Tryz.prog 68 #[.slice A n c] w fun e w' => e = .returned (.tuple #[.int .u64 273, .int .i64 2, .nilIface]) ∧ w = w' := by
  obtain ⟨ad, rfl, hbk, hn, hcell, hcell2⟩ := h.first
  have hcell1 : w.cell? ⟨ad.block, ad.off + 1, none⟩ = some (.int .u8 2) := hcell2 _ _ rfl
  have hcell0 : w.cell? ad = some (.int .u8 145) := hcell
  have hm : n ≤ maxLen := Nat.le_trans h.cap h.max
  unfold maxLen at hm
  have hn0 : 0 < n := by omega
  have hn1 : 1 < n := by simp at hn; omega
  clear h hn hcell2 hcell
  go_enter Tryz.func68, Tryz.ntmps68
  go_wp2_with fail
  refine wp_loop_rounds 2 ?_
  rw [rounds_succ]
  go_wp2_with fail
  rw [rounds_succ]
  go_wp2_with fail
  go_ret3
  exact ⟨by simp; try kernel_rfl, rfl⟩
theorem readvar_273 (A : Option Addr) (n c : Nat) (l : List UInt8) (w : World) (h : RB w w.heap.size A n c (145 :: 2 :: l)) :
    Calls Tryz.prog 61 #[.slice A n c] w fun e w' => e = .returned (.tuple #[.int .i64 273, .int .i64 2, .nilIface]) ∧ w = w' := by
  have H := Lib.hid h
  clear h
  go_enter Tryz.func61, Tryz.ntmps61
  go_wp2_with (go_at_call 68; refine (from_273 A n c l _ H.out).mono ?_; rintro e w' ⟨rfl, rfl⟩)
  go_ret3
  exact ⟨rfl, rfl⟩
theorem from_461 (A : Option Addr) (n c : Nat) (l : List UInt8) (w : World) (h : RB w w.heap.size A n c (205 :: 3 :: l)) :
    Calls Tryz.prog 68 #[.slice A n c] w fun e w' => e = .returned (.tuple #[.int .u64 461, .int .i64 2, .nilIface]) ∧ w = w' := by
  obtain ⟨ad, rfl, hbk, hn, hcell, hcell2⟩ := h.first
  have hcell1 : w.cell? ⟨ad.block, ad.off + 1, none⟩ = some (.int .u8 3) := hcell2 _ _ rfl
  have hcell0 : w.cell? ad = some (.int .u8 205) := hcell
  have hm : n ≤ maxLen := Nat.le_trans h.cap h.max
  unfold maxLen at hm
  have hn0 : 0 < n := by omega
  have hn1 : 1 < n := by simp at hn; omega
  clear h hn hcell2 hcell
  go_enter Tryz.func68, Tryz.ntmps68
  go_wp2_with fail
  refine wp_loop_rounds 2 ?_
  rw [rounds_succ]
  go_wp2_with fail
  rw [rounds_succ]
  go_wp2_with fail
  go_ret3
  exact ⟨by simp; try kernel_rfl, rfl⟩
theorem readvar_461 (A : Option Addr) (n c : Nat) (l : List UInt8) (w : World) (h : RB w w.heap.size A n c (205 :: 3 :: l)) :
    Calls Tryz.prog 61 #[.slice A n c] w fun e w' => e = .returned (.tuple #[.int .i64 461, .int .i64 2, .nilIface]) ∧ w = w' := by
  have H := Lib.hid h
  clear h
  go_enter Tryz.func61, Tryz.ntmps61
  go_wp2_with (go_at_call 68; refine (from_461 A n c l _ H.out).mono ?_; rintro e w' ⟨rfl, rfl⟩)
  go_ret3
  exact ⟨rfl, rfl⟩
theorem from_477 (A : Option Addr) (n c : Nat) (l : List UInt8) (w : World) (h : RB w w.heap.size A n c (221 :: 3 :: l)) :
    Calls Tryz.prog 68 #[.slice A n c] w fun e w' => e = .returned (.tuple #[.int .u64 477, .int .i64 2, .nilIface]) ∧ w = w' := by
  obtain ⟨ad, rfl, hbk, hn, hcell, hcell2⟩ := h.first
  have hcell1 : w.cell? ⟨ad.block, ad.off + 1, none⟩ = some (.int .u8 3) := hcell2 _ _ rfl
  have hcell0 : w.cell? ad = some (.int .u8 221) := hcell
  have hm : n ≤ maxLen := Nat.le_trans h.cap h.max
  unfold maxLen at hm
  have hn0 : 0 < n := by omega
  have hn1 : 1 < n := by simp at hn; omega
  clear h hn hcell2 hcell
  go_enter Tryz.func68, Tryz.ntmps68
  go_wp2_with fail
  refine wp_loop_rounds 2 ?_
  rw [rounds_succ]
  go_wp2_with fail
  rw [rounds_succ]
  go_wp2_with fail
  go_ret3
  exact ⟨by simp; try kernel_rfl, rfl⟩
theorem readvar_477 (A : Option Addr) (n c : Nat) (l : List UInt8) (w : World) (h : RB w w.heap.size A n c (221 :: 3 :: l)) :
    Calls Tryz.prog 61 #[.slice A n c] w fun e w' => e = .returned (.tuple #[.int .i64 477, .int .i64 2, .nilIface]) ∧ w = w' := by
  have H := Lib.hid h
  clear h
  go_enter Tryz.func61, Tryz.ntmps61
  go_wp2_with (go_at_call 68; refine (from_477 A n c l _ H.out).mono ?_; rintro e w' ⟨rfl, rfl⟩)
  go_ret3
  exact ⟨rfl, rfl⟩
theorem from_290 (A : Option Addr) (n c : Nat) (l : List UInt8) (w : World) (h : RB w w.heap.size A n c (162 :: 2 :: l)) :
    Calls Tryz.prog 68 #[.slice A n c] w fun e w' => e = .returned (.tuple #[.int .u64 290, .int .i64 2, .nilIface]) ∧ w = w' := by
  obtain ⟨ad, rfl, hbk, hn, hcell, hcell2⟩ := h.first
  have hcell1 : w.cell? ⟨ad.block, ad.off + 1, none⟩ = some (.int .u8 2) := hcell2 _ _ rfl
  have hcell0 : w.cell? ad = some (.int .u8 162) := hcell
  have hm : n ≤ maxLen := Nat.le_trans h.cap h.max
  unfold maxLen at hm
  have hn0 : 0 < n := by omega
  have hn1 : 1 < n := by simp at hn; omega
  clear h hn hcell2 hcell
  go_enter Tryz.func68, Tryz.ntmps68
  go_wp2_with fail
  refine wp_loop_rounds 2 ?_
  rw [rounds_succ]
  go_wp2_with fail
  rw [rounds_succ]
  go_wp2_with fail
  go_ret3
  exact ⟨by simp; try kernel_rfl, rfl⟩
theorem readvar_290 (A : Option Addr) (n c : Nat) (l : List UInt8) (w : World) (h : RB w w.heap.size A n c (162 :: 2 :: l)) :
    Calls Tryz.prog 61 #[.slice A n c] w fun e w' => e = .returned (.tuple #[.int .i64 290, .int .i64 2, .nilIface]) ∧ w = w' := by
  have H := Lib.hid h
  clear h
  go_enter Tryz.func61, Tryz.ntmps61
  go_wp2_with (go_at_call 68; refine (from_290 A n c l _ H.out).mono ?_; rintro e w' ⟨rfl, rfl⟩)
  go_ret3
  exact ⟨rfl, rfl⟩
theorem from_421 (A : Option Addr) (n c : Nat) (l : List UInt8) (w : World) (h : RB w w.heap.size A n c (165 :: 3 :: l)) :
    Calls Tryz.prog 68 #[.slice A n c] w fun e w' => e = .returned (.tuple #[.int .u64 421, .int .i64 2, .nilIface]) ∧ w = w' := by
  obtain ⟨ad, rfl, hbk, hn, hcell, hcell2⟩ := h.first
  have hcell1 : w.cell? ⟨ad.block, ad.off + 1, none⟩ = some (.int .u8 3) := hcell2 _ _ rfl
  have hcell0 : w.cell? ad = some (.int .u8 165) := hcell
  have hm : n ≤ maxLen := Nat.le_trans h.cap h.max
  unfold maxLen at hm
  have hn0 : 0 < n := by omega
  have hn1 : 1 < n := by simp at hn; omega
  clear h hn hcell2 hcell
  go_enter Tryz.func68, Tryz.ntmps68
  go_wp2_with fail
  refine wp_loop_rounds 2 ?_
  rw [rounds_succ]
  go_wp2_with fail
  rw [rounds_succ]
  go_wp2_with fail
  go_ret3
  exact ⟨by simp; try kernel_rfl, rfl⟩
theorem readvar_421 (A : Option Addr) (n c : Nat) (l : List UInt8) (w : World) (h : RB w w.heap.size A n c (165 :: 3 :: l)) :
    Calls Tryz.prog 61 #[.slice A n c] w fun e w' => e = .returned (.tuple #[.int .i64 421, .int .i64 2, .nilIface]) ∧ w = w' := by
  have H := Lib.hid h
  clear h
  go_enter Tryz.func61, Tryz.ntmps61
  go_wp2_with (go_at_call 68; refine (from_421 A n c l _ H.out).mono ?_; rintro e w' ⟨rfl, rfl⟩)
  go_ret3
  exact ⟨rfl, rfl⟩
end Go.Proofs.YtghddiboggdhcaaGreatDoor
