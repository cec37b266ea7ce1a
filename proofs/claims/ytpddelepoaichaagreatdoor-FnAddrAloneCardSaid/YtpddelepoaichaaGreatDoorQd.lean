/- FnAddrAlone: the walk. -/
import Derived.Test.YtpddelepoaichaaGreatDoorPu
import Derived.Test.YtpddelepoaichaaGreatDoorQc
namespace Go.Proofs.YtpddelepoaichaaGreatDoor
open Go.RowKit
attribute [local go_sem ↓] Go.wp_at_zero Go.wp_at_succ
/-- Where no number of three digits is printed no table is wanted. -/
theorem tab_none (w : World) : Tab 100 w := ⟨fun h => absurd h (by decide)⟩
theorem one_hs {w : World} {A : Option Addr} {n c : Nat} {l : List UInt8} (h : RB w w.heap.size A n c l) (t : TypeId) :
    HS (w.alloc (.cells #[.int .u8 6, .slice A n c] t)) (w.alloc (.cells #[.int .u8 6, .slice A n c] t)).heap.size (some ⟨w.heap.size, 0, none⟩) 1 1 [⟨6, A, n, c, l⟩] := by
  have hb := Blk.new w t #[.int .u8 6, .slice A n c]
  refine ⟨rfl, Nat.le_refl _, by decide, fun i hi => ⟨_, rfl, hb.lt, ?_⟩⟩
  have hi0 : i = 0 := by simpa using hi
  subst hi0
  exact ⟨hb.cell 0, hb.cell 1, h.next ((Below.refl _ w).alloc (Nat.le_refl _) _)⟩
set_option maxRecDepth 100000 in
set_option maxHeartbeats 1000000 in
theorem law_alone (A : Option Addr) (n c : Nat) (l : List UInt8) (w : World) (h : RB w w.heap.size A n c l) :
    Calls Tryz.prog 6 #[.slice A n c] w fun e w' => e = .returned (.bool true) ∧ Below w.heap.size w w' := by
  have HAW := fun w6 (hb : Below w.heap.size w w6) => (awake (K := 100) w6 (Nat.le_refl _) (tab_none w6)).mono fun e w' (h1 : e = .returned (.bool true) ∧ Below w6.heap.size w6 w') => (⟨h1.1, hb.trans (h1.2.mono hb.size)⟩ : e = .returned (.bool true) ∧ Below w.heap.size w w')
  have HFIN := Lib.hid HAW
  have HH := Lib.hid h
  clear h HAW
  by_cases hn : n ≤ 2147483647
  · have hd : decide ((2147483647 : Int) < (n : Int)) = false := by simp; omega
    by_cases h100 : n ≤ 100
    · have hd2 : decide ((100 : Int) < (n : Int)) = false := by simp; omega
      obtain ⟨w0, hw0⟩ : ∃ w0, w0 = w.alloc (.cells #[.int .u8 6, .slice A n c] 36) := ⟨_, rfl⟩
      have hb0 : Below w.heap.size w w0 := by rw [hw0]; exact (Below.refl _ w).alloc (Nat.le_refl _) _
      have hs0 := one_hs HH.out 36
      rw [← hw0] at hs0
      obtain ⟨hp, hhp⟩ : ∃ hp : Hop, hp = ⟨6, A, n, c, l⟩ := ⟨_, rfl⟩
      rw [← hhp] at hs0
      have hk : hp.kd % 8 = 6 := by subst hhp; rfl
      have hl : hp.l = l := by rw [hhp]
      have ha := addrof_any (some ⟨w.heap.size, 0, none⟩) 1 1 [hp] w0 hs0 (by decide) (fun i hi => by
        have hi0 : i = 0 := by simpa using hi
        subst hi0
        have : hp.n = n := by rw [hhp]
        show hp.n ≤ 100000
        omega)
      have hab := addrBytes_le [hp]
      rw [show [hp].length = 1 from rfl] at hab
      obtain ⟨M, hM⟩ : ∃ M, M = addrBytes [hp] := ⟨_, rfl⟩
      rw [← hM] at ha hab
      have HMq := Lib.hid hM
      have HA := Lib.hid ha
      have HB0 := Lib.hid hb0
      have HW0 := Lib.hid hw0
      have HK := Lib.hid hk
      have HLq := Lib.hid hl
      have hM1 : M.length ≤ 1000 := by omega
      clear ha hM hb0 hw0 hs0 hk hl hhp hab
      go_enter Tryz.func6, Tryz.ntmps6
      go_wp2_with fail
      rw [← HW0.out]
      refine HA.out.mono ?_
      rintro e w3 ⟨v, rfl, ho, hb3⟩
      obtain ⟨A3, c3, rfl⟩ := own_slice ho
      have HR3 := Lib.hid (RB.of_own ho)
      have HB3 := Lib.hid (HB0.out.trans (hb3.mono HB0.out.size))
      have HC := Lib.hid (clone_any A3 _ c3 M w3 HR3.out (by omega))
      clear ho hb3
      go_wp2_with fail
      refine HC.out.mono ?_
      rintro e w4 ⟨A4, c4, rfl, hr4, hb4⟩
      have HR4 := Lib.hid (HR3.out.next hb4)
      have HB4 := Lib.hid (HB3.out.trans (hb4.mono HB3.out.size))
      obtain ⟨I, hI⟩ : ∃ I, I = idOf l := ⟨_, rfl⟩
      have HIq := Lib.hid hI
      have hI1 : I.length ≤ 44 := by rw [hI]; exact idOf_le l
      have hsp := isplit_id (K := 100) A4 M.length c4 [] hp w4 (tab_none w4) (fun x hx => by simp at hx; subst hx; exact HopOk.id HK.out) (by show RB w4 w4.heap.size A4 M.length c4 (addrBytes [hp]); rw [← HMq.out]; exact hr4) (by simp) HK.out
      rw [HLq.out, ← HIq.out] at hsp
      rw [show addrBytes [] = [] from rfl] at hsp
      have HSP := Lib.hid hsp
      clear hr4 hb4 hI hsp
      go_wp2_with fail
      refine HSP.out.mono ?_
      rintro e w5 ⟨A5, c5, B5, d5, rfl, _, hr5, hb5⟩
      have HR5 := Lib.hid hr5
      have HB5 := Lib.hid (HB4.out.trans (hb5.mono HB4.out.size))
      have HC5 := Lib.hid (clone_any A3 _ c3 M w5 (HR4.out.next hb5) (by omega))
      clear hr5 hb5
      go_wp2_with fail
      refine HC5.out.mono ?_
      rintro e w6 ⟨A6, c6, rfl, hr6, hb6⟩
      have HR56 := Lib.hid (HR5.out.next hb6)
      have HB6 := Lib.hid (HB5.out.trans (hb6.mono HB5.out.size))
      have hin := infoof_alone (K := 100) A6 M.length c6 hp w6 (tab_none w6) (by rw [← HMq.out]; exact hr6) HK.out
      rw [HLq.out, ← HIq.out] at hin
      have HIN := Lib.hid hin
      clear hr6 hb6 hin
      go_wp2_with fail
      refine HIN.out.mono ?_
      rintro e w7 ⟨A7, c7, rfl, hr7, hb7⟩
      have HR57 := Lib.hid (HR56.out.next hb7)
      have HR7 := Lib.hid hr7
      have HB7 := Lib.hid (HB6.out.trans (hb7.mono HB6.out.size))
      obtain ⟨wb, hwb⟩ : ∃ wb, wb = w7.alloc (.cells #[.slice A7 I.length c7, .slice none 0 0] 40) := ⟨_, rfl⟩
      have hbb : Below w7.heap.size w7 wb := by rw [hwb]; exact (Below.refl _ w7).alloc (Nat.le_refl _) _
      have hkb : Blk wb w7.heap.size 40 #[.slice A7 I.length c7, .slice none 0 0] := by rw [hwb]; exact Blk.new _ _ _
      have HWB := Lib.hid hwb
      have HKB := Lib.hid hkb
      have HBB := Lib.hid (HB7.out.trans (hbb.mono HB7.out.size))
      have HRB57 := Lib.hid (HR57.out.next hbb)
      have HRB7 := Lib.hid (HR7.out.next hbb)
      have hid := id_any A n c l wb ((HH.out.below HBB.out).more HBB.out.size) (by omega)
      rw [← HIq.out] at hid
      have HID := Lib.hid hid
      clear hr7 hb7 hid hbb hkb hwb
      go_wp2_with fail
      rw [← HWB.out]
      refine HID.out.mono ?_
      rintro e w8 ⟨v8, rfl, ho8, hb8⟩
      obtain ⟨A8, c8, rfl⟩ := own_slice ho8
      have HB8 := Lib.hid (HBB.out.trans (hb8.mono HBB.out.size))
      have hk8 := HKB.out.below hb8 HKB.out.lt
      have x0 : w8.cell? ⟨w7.heap.size, 0, none⟩ = some (.slice A7 I.length c7) := hk8.cell 0
      have x1 : w8.cell? ⟨w7.heap.size, 1, none⟩ = some (.slice none 0 0) := hk8.cell 1
      have he1 := equal_any B5 A8 _ d5 _ c8 I I w8 (HRB57.out.next hb8) (RB.of_own ho8)
      have he2 := equal_any A7 B5 _ c7 _ d5 I I w8 (HRB7.out.next hb8) (HRB57.out.next hb8)
      rw [beq_self_eq_true] at he1 he2
      have HE1 := Lib.hid he1
      have HE2 := Lib.hid he2
      clear ho8 hb8 he1 he2 hk8
      go_wp2_with fail
      refine HE1.out.mono ?_
      rintro e w9 ⟨rfl, rfl⟩
      go_wp2_with fail
      refine HE2.out.mono ?_
      rintro e w9 ⟨rfl, rfl⟩
      go_wp2_with fail
      refine (HFIN.out _ HB8.out).mono ?_
      rintro e w9 ⟨rfl, hb9⟩
      have HB9 := Lib.hid hb9
      clear hb9
      go_wp2_with fail
      go_ret
      exact ⟨rfl, HB9.out⟩
    · have hd2 : decide ((100 : Int) < (n : Int)) = true := by simp; omega
      go_enter Tryz.func6, Tryz.ntmps6
      go_wp2_with fail
      refine (HFIN.out _ (Below.refl _ _)).mono ?_
      rintro e w9 ⟨rfl, hb9⟩
      have HB9 := Lib.hid hb9
      clear hb9
      go_wp2_with fail
      go_ret
      exact ⟨rfl, HB9.out⟩
  · have hd : decide ((2147483647 : Int) < (n : Int)) = true := by simp; omega
    go_enter Tryz.func6, Tryz.ntmps6
    go_wp2_with fail
    go_ret
    exact ⟨rfl, Below.refl _ _⟩
end Go.Proofs.YtpddelepoaichaaGreatDoor
