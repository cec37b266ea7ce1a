/- impl.AddrInfoOf at the address of an ID alone. -/
import Derived.Test.YtpddelepoaichaaGreatDoorPs
namespace Go.Proofs.YtpddelepoaichaaGreatDoor
open Go.RowKit
variable {K : Nat}
attribute [local go_sem ↓] Go.wp_at_zero Go.wp_at_succ
theorem RB.setFar {w : World} {B n c : Nat} {A : Option Addr} {l : List UInt8} (h : RB w B A n c l) {p : Addr} (hne : ∀ ad, A = some ad → ad.block ≠ p.block) (u : Value) : RB (w.setCell p u) B A n c l :=
  ⟨⟨h.reads.1, fun hn => by
    obtain ⟨ad, e, hb, hc⟩ := h.reads.2 hn
    exact ⟨ad, e, hb, fun j x hx => (World.cell?_setCell_other w p (ad.add j) u (fun e2 => hne ad e (by have := congrArg Addr.block e2; rw [block_of_add] at this; first | exact this | exact this.symm))).trans (hc j x hx)⟩⟩, h.cap, h.max⟩
theorem size_setCell (w : World) (p : Addr) (u : Value) : (w.setCell p u).heap.size = w.heap.size := by simp [World.setCell]
theorem iinfo_size : (Tryz.prog.info? 40).map (·.size) = some 2 := by kernel_rfl
/-- A peer without addresses, and true. -/
def OutAI (u : List UInt8) (w : World) (e : Ending) (w' : World) : Prop :=
  ∃ B d, e = .returned (.tuple #[.agg #[.slice B u.length d, .slice none 0 0], .bool true]) ∧ RB w' w'.heap.size B u.length d u ∧ Below w.heap.size w w'
set_option maxRecDepth 100000 in
set_option maxHeartbeats 2000000 in
theorem plain_alone (u : List UInt8) (w : World) (hu : u.length ≤ 1000) : Calls Tryz.prog 31 #[.agg #[.string ⟨u.toArray⟩, .slice none 0 0]] w fun e w' =>
    ∃ q d, e = .returned (.agg #[.slice (some ⟨q, 0, none⟩) u.length d, .slice none 0 0]) ∧ w.heap.size ≤ q ∧ RB w' w'.heap.size (some ⟨q, 0, none⟩) u.length d u ∧ Below w.heap.size w w' := by
  obtain ⟨w0, hw0⟩ : ∃ w0, w0 = (w.alloc (.cells #[.string ⟨u.toArray⟩, .slice none 0 0] 69)).alloc (.cells #[.slice none 0 0, .slice none 0 0] 40) := ⟨_, rfl⟩
  have hb0 : Below w.heap.size w w0 := by rw [hw0]; exact ((Below.refl _ w).alloc (Nat.le_refl _) _).alloc (by simp) _
  have hk0 : Blk w0 w.heap.size 69 #[.string ⟨u.toArray⟩, .slice none 0 0] := by rw [hw0]; exact (Blk.new w _ _).alloc _
  have hk1 : Blk w0 (w.heap.size + 1) 40 #[.slice none 0 0, .slice none 0 0] := by rw [hw0]; exact Blk.new_ (by simp) _ _
  obtain ⟨c5, w5, hcv, hr5, hb5, hlt5⟩ := conv_id w0 u (by omega)
  have hk5 := hk0.below hb5 hk0.lt
  have hk6 := hk1.below hb5 hk1.lt
  have hs0 : w0.heap.size = w.heap.size + 1 + 1 := by rw [hw0]; simp
  rw [hs0] at hr5
  obtain ⟨w6, hw6⟩ : ∃ w6, w6 = w5.alloc (.cells #[.slice (some ⟨w.heap.size + 1 + 1, 0, none⟩) u.length c5, .slice none 0 0] 40) := ⟨_, rfl⟩
  have hn6 : Blk w6 w5.heap.size 40 #[.slice (some ⟨w.heap.size + 1 + 1, 0, none⟩) u.length c5, .slice none 0 0] := by rw [hw6]; exact Blk.new _ _ _
  have hb6 : Below w5.heap.size w5 w6 := by rw [hw6]; exact (Below.refl _ w5).alloc (Nat.le_refl _) _
  have c1 : w5.cell? ⟨w.heap.size, 1, none⟩ = some (.slice none 0 0) := hk5.cell 1
  have lt5 : w.heap.size < w5.heap.size := hk5.lt
  have HR6 := Lib.hid (hr5.next hb6)
  have HB6 := Lib.hid ((hb0.trans (hb5.mono hb0.size)).trans (hb6.mono (Nat.le_trans hb0.size hb5.size)))
  have HK6 := Lib.hid (hk6.below hb6 hk6.lt)
  have HN6 := Lib.hid hn6
  have HW6 := Lib.hid hw6
  rw [hw0] at hcv
  clear hr5 hb0 hb5 hk0 hk1 hk5 hk6 hlt5 hw0 hn6 hb6 hw6 hs0
  go_enter Tryz.func31, Tryz.ntmps31
  go_wp2_with fail
  rw [← HW6.out]
  go_loopw [13] (fun i wr => i = .int .i64 0 ∧ wr = w6) (fun _ _ => 0)
  case atStart => exact ⟨rfl, rfl⟩
  case round =>
    obtain ⟨rfl, rfl⟩ := hrel
    have d0 := HN6.out.cell 0
    have d1 := HN6.out.cell 1
    have e0 := HK6.out.cell 0
    have e1 := HK6.out.cell 1
    have f0 := HK6.out.frozen 0
    have f1 := HK6.out.frozen 1
    go_wp2_with fail
    have hst := (HK6.out.set_ 0 (.slice (some ⟨w.heap.size + 1 + 1, 0, none⟩) u.length c5)).set_ 1 (.slice none 0 0)
    refine bodyPost_ret (results_cell_row rfl _ _ (w.heap.size + 1) 40 #[.slice (some ⟨w.heap.size + 1 + 1, 0, none⟩) u.length c5, .slice none 0 0] (0, 0) _ rfl hst Tryz.underlying40 rfl (iinfo_size.trans rfl)) rfl ?_
    refine ⟨_, _, rfl, by omega, ?_, ?_⟩
    · rw [size_setCell, size_setCell]
      exact (HR6.out.setFar (fun ad e => by injection e with e; subst e; simp) _).setFar (fun ad e => by injection e with e; subst e; simp) _
    · exact (HB6.out.setCell (p := ⟨w.heap.size + 1, 0, none⟩) (Nat.le_succ _) _).setCell (p := ⟨w.heap.size + 1, 1, none⟩) (Nat.le_succ _) _
set_option maxRecDepth 100000 in
set_option maxHeartbeats 2000000 in
theorem infofrom_alone (g c : Nat) (x : Hop × Nat) (w : World) (hk : x.1.kd % 8 = 6) (hp : PR w [x]) (h : MS w g 1 c [x]) : Calls Tryz.prog 30 #[.slice (some ⟨g, 0, none⟩) 1 c] w fun e w' =>
    ∃ q, e = .returned (.tuple #[.pointer (some ⟨q, 0, none⟩), .nilIface]) ∧ Blk w' q 69 #[.string ⟨(idOf x.1.l).toArray⟩, .slice none 0 0] ∧ Below w.heap.size w w' := by
  have q : ∀ (w : World) (a : Option Addr) (n c n' c' : Nat), (binOp .neq 51 (.slice a n c) (.slice none n' c')).run Tryz.prog w = .ok (.bool (!a.isNone)) w := fun w a n c n' c' => run_neq_slice_nil_any w _ _ a n c n' c' Tryz.underlying51
  have HP := Lib.hid (splitaddr_id g c [] x w (by simp) hk hp h)
  have hne : (idOf x.1.l).isEmpty = false := by
    obtain ⟨a, b, v, d, hid, _⟩ := id_form x.1.l
    rw [hid]
    rfl
  clear hk hp h
  go_enter Tryz.func30, Tryz.ntmps30
  go_wp2_with fail
  refine HP.out.mono ?_
  rintro e w1 ⟨T, rfl, hT, hb⟩
  have HB := Lib.hid hb
  obtain rfl : T = .slice none 0 0 := by
    rcases hT with ⟨_, e⟩ | ⟨h0, _⟩
    · exact e
    · exact absurd h0 (by simp)
  clear hT hb
  go_wp2_with fail
  go_ret2
  exact ⟨_, rfl, Blk.new _ _ _, HB.out.alloc HB.out.size _⟩
set_option maxRecDepth 100000 in
set_option maxHeartbeats 2000000 in
theorem infoof_alone (A : Option Addr) (n c : Nat) (h : Hop) (w : World) (ht : Tab K w) (hr : RB w w.heap.size A n c (addrBytes [h])) (hk : h.kd % 8 = 6) :
    Calls Tryz.prog 19 #[.slice A n c] w (OutAI (idOf h.l) w) := by
  have q0 : ∀ w : World, (binOp .neq 63 .nilIface .nilIface).run Tryz.prog w = .ok (.bool false) w := fun _ => by kernel_rfl
  obtain ⟨w0, hw0⟩ : ∃ w0, w0 = w.alloc (.cells #[.slice none 0 0, .slice none 0 0] 40) := ⟨_, rfl⟩
  have hb0 : Below w.heap.size w w0 := by rw [hw0]; exact (Below.refl _ w).alloc (Nat.le_refl _) _
  have hk0 : Blk w0 w.heap.size 40 #[.slice none 0 0, .slice none 0 0] := by rw [hw0]; exact Blk.new _ _ _
  have HC := Lib.hid (addrof_impl A n c [h] w0 (ht.below hb0) (fun x hx => by simp at hx; subst hx; exact HopOk.id hk) ((hr.below hb0).more hb0.size) (by simp) (by simp))
  have HK := Lib.hid hk
  have HB0 := Lib.hid hb0
  have HK0 := Lib.hid hk0
  have HW0 := Lib.hid hw0
  clear ht hr hk hb0 hk0 hw0
  go_enter Tryz.func19, Tryz.ntmps19
  go_wp2_with fail
  rw [← HW0.out]
  refine HC.out.mono ?_
  rintro e w1 ⟨g, c1, cs1, rfl, hcs, hpr, hms, hb⟩
  obtain ⟨x, rfl⟩ : ∃ x, cs1 = [x] := by
    rcases cs1 with _ | ⟨x, _ | ⟨y, cs1⟩⟩
    · simp at hcs
    · exact ⟨x, rfl⟩
    · simp at hcs
  have hx : x.1 = h := by simpa using hcs
  have HP := Lib.hid (infofrom_alone g c1 x w1 (by rw [hx]; exact HK.out) hpr hms)
  rw [hx] at HP
  have HB := Lib.hid (HB0.out.trans (hb.mono HB0.out.size))
  have HK1 := Lib.hid (HK0.out.below hb HK0.out.lt)
  clear hpr hms hcs hx hb
  go_wp2_with fail
  refine HP.out.mono ?_
  rintro e w2 ⟨p, rfl, hk2, hb2⟩
  have HB2 := Lib.hid (HB.out.trans (hb2.mono HB.out.size))
  have HK2 := Lib.hid (HK1.out.below hb2 HK1.out.lt)
  have hidl := idOf_le h.l
  have c0 : w2.cell? ⟨p, 0, none⟩ = some (.string ⟨(idOf h.l).toArray⟩) := hk2.cell 0
  have c1' : w2.cell? ⟨p, 1, none⟩ = some (.slice none 0 0) := hk2.cell 1
  have HPL := Lib.hid (plain_alone (idOf h.l) w2 (by omega))
  clear hb2 hidl
  go_wp2_with fail
  refine HPL.out.mono ?_
  rintro e w3 ⟨B, d, rfl, hq3, hr3, hb3⟩
  have HK3 := Lib.hid (HK2.out.below hb3 HK2.out.lt)
  have HB3 := Lib.hid (HB2.out.trans (hb3.mono HB2.out.size))
  have HR3 := Lib.hid hr3
  have e0 := HK3.out.cell 0
  have e1 := HK3.out.cell 1
  have f0 := HK3.out.frozen 0
  have f1 := HK3.out.frozen 1
  clear hr3 hb3
  go_wp2_with fail
  have hlt2 := HK2.out.lt
  have hst := (HK3.out.set_ 0 (.slice (some ⟨B, 0, none⟩) (idOf h.l).length d)).set_ 1 (.slice none 0 0)
  refine bodyPost_ret (results_cell_tmp rfl _ _ w.heap.size 40 #[.slice (some ⟨B, 0, none⟩) (idOf h.l).length d, .slice none 0 0] (0, 0) _ rfl hst Tryz.underlying40 rfl (iinfo_size.trans rfl)) rfl ?_
  refine ⟨_, _, rfl, ?_, ?_⟩
  · rw [size_setCell, size_setCell]
    exact (HR3.out.setFar (fun ad e => by injection e with e; subst e; simp; omega) _).setFar (fun ad e => by injection e with e; subst e; simp; omega) _
  · exact (HB3.out.setCell (p := ⟨w.heap.size, 0, none⟩) (Nat.le_refl _) _).setCell (p := ⟨w.heap.size, 1, none⟩) (Nat.le_refl _) _
end Go.Proofs.YtpddelepoaichaaGreatDoor
