/- spec.AddrHopBytes: what it returns. -/
import Derived.Test.YtimakhadabenbaaGreatDoorXj
import Derived.Deep.RegionWith
import Derived.Deep.RegionHeld3
import Derived.Deep.DrawnRows
namespace Go.Proofs.YtimakhadabenbaaGreatDoor
open Go.RowKit

/-- The bytes of a part. -/
def hopBytes (kd : Nat) (l : List UInt8) : List UInt8 :=
  if kd % 8 = 0 then [4] ++ filled l 4 else if kd % 8 = 1 then [6] ++ filled l 2 else if kd % 8 = 2 then [145, 2] ++ filled l 2 else if kd % 8 = 3 then [205, 3] else if kd % 8 = 4 then [221, 3]
  else if kd % 8 = 5 then [162, 2] else if kd % 8 = 6 then [165, 3] ++ [UInt8.ofNat (idOf l).length] ++ idOf l else [41] ++ filled l 16

theorem own_below {w w' : World} {base : Nat} {e : TypeId} {size n : Nat} {v : Value} {xs : List Value} (h : w.ownsRow base e size v n xs) (hb : Below w.heap.size w w') : w'.ownsRow base e size v n xs :=
  h.kept (only_of_below hb none) (by cases hv : v.ownBlock with | none => exact .inl rfl | some k => exact .inr (by simp))

set_option maxRecDepth 100000 in
set_option maxHeartbeats 2000000 in
theorem hop_0 (kd : Nat) (A : Option Addr) (n c : Nat) (l : List UInt8) (w : World) (hb : RB w w.heap.size A n c l) (hk : kd % 8 = 0) :
    Calls Tryz.prog 27 #[.agg #[.int .u8 kd, .slice A n c]] w (OwnB ([4] ++ filled l 4) w) := by
  obtain ⟨i0, hi0, hz0, hz1, hz2⟩ := info_parts u8_info
  have HB := Lib.hid hb
  have HL := Lib.hid hb.len
  have e0 : (kd : Int) % 8 = 0 := by omega
  clear hb
  go_enter Tryz.func27, Tryz.ntmps27
  obtain ⟨w2, hw2⟩ : ∃ w2, w2 = w.alloc (.cells #[.int .u8 kd, .slice A n c] 29) := ⟨_, rfl⟩
  have hs2 : w2.heap.size = w.heap.size + 1 := by rw [hw2, World.size_alloc]
  have hb2 : Below w.heap.size w w2 := by rw [hw2]; exact (Below.refl _ w).alloc (Nat.le_refl _) _
  have hown0 : (w2.alloc (.cells #[.int .u8 4] 5)).ownsRow w.heap.size 5 1 (.slice (some ⟨w2.heap.size, 0, none⟩) 1 1) 1 [.int .u8 4] := World.ownsRow_lit w2 #[.int .u8 4] 1 (by omega) (by simp [maxLen]) rfl
  have hb3 : Below w.heap.size w (w2.alloc (.cells #[.int .u8 4] 5)) := hb2.alloc (by omega) _
  have hf := filled_any A n c 4 l (w2.alloc (.cells #[.int .u8 4] 5)) ((HB.out.below hb3).more hb3.size) (by omega) (by omega)
  have HF := Lib.hid hf
  have HO0 := Lib.hid hown0
  have HB3 := Lib.hid hb3
  have HS2 := Lib.hid hs2
  have HW2 := Lib.hid hw2
  clear hf hown0 hb3 hb2 hs2 hw2
  go_wp2_with (first
    | (go_at_call 36; rw [← HW2.out]; refine HF.out.mono ?_; rintro e w3 ⟨v3, rfl, ho3, hb4⟩; obtain ⟨A3, c3, rfl⟩ := own_slice ho3)
    | (at_builtin; go_loud (refine wpList_append_any _ rfl (.tmp 9) (.tmp 12) _ rfl w.heap.size 5 i0 _ 1 1 Tryz.underlying27 hi0 hz0 hz1 hz2 rfl (by decide) _ _ _ rfl (by rw [← HS2.out]; exact own_below HO0.out hb4) _ _ _ c3 _ rfl (RB.of_own ho3).reads (bv_one _) ?c1 ?c2 ?c3 ?_)))
  case c1 => rw [filled_length]; simp [maxLen]
  case c2 => rw [filled_length]; simp
  case c3 => exact Nat.le_trans HB3.out.size hb4.size
  intro v' w' hown hgrow _hat
  have hbf := Lib.hid (((HB3.out.trans (hb4.mono HB3.out.size)).grown hgrow (Nat.le_trans HB3.out.size hb4.size) (by intro k hk; simp [Value.ownBlock] at hk; omega)))
  have hof := Lib.hid (show w'.ownsRow w.heap.size 5 1 v' ([4] ++ filled l 4).length (bv ([4] ++ filled l 4)) by
    rw [List.length_append]; exact hown)
  clear hown hgrow _hat ho3 hb4
  go_wp2_with fail
  go_ret
  exact ⟨v', rfl, hof.out, hbf.out⟩
set_option maxRecDepth 100000 in
set_option maxHeartbeats 2000000 in
theorem hop_1 (kd : Nat) (A : Option Addr) (n c : Nat) (l : List UInt8) (w : World) (hb : RB w w.heap.size A n c l) (hk : kd % 8 = 1) :
    Calls Tryz.prog 27 #[.agg #[.int .u8 kd, .slice A n c]] w (OwnB ([6] ++ filled l 2) w) := by
  obtain ⟨i0, hi0, hz0, hz1, hz2⟩ := info_parts u8_info
  have HB := Lib.hid hb
  have HL := Lib.hid hb.len
  have e0 : (kd : Int) % 8 = 1 := by omega
  clear hb
  go_enter Tryz.func27, Tryz.ntmps27
  obtain ⟨w2, hw2⟩ : ∃ w2, w2 = w.alloc (.cells #[.int .u8 kd, .slice A n c] 29) := ⟨_, rfl⟩
  have hs2 : w2.heap.size = w.heap.size + 1 := by rw [hw2, World.size_alloc]
  have hb2 : Below w.heap.size w w2 := by rw [hw2]; exact (Below.refl _ w).alloc (Nat.le_refl _) _
  have hown0 : (w2.alloc (.cells #[.int .u8 6] 5)).ownsRow w.heap.size 5 1 (.slice (some ⟨w2.heap.size, 0, none⟩) 1 1) 1 [.int .u8 6] := World.ownsRow_lit w2 #[.int .u8 6] 1 (by omega) (by simp [maxLen]) rfl
  have hb3 : Below w.heap.size w (w2.alloc (.cells #[.int .u8 6] 5)) := hb2.alloc (by omega) _
  have hf := filled_any A n c 2 l (w2.alloc (.cells #[.int .u8 6] 5)) ((HB.out.below hb3).more hb3.size) (by omega) (by omega)
  have HF := Lib.hid hf
  have HO0 := Lib.hid hown0
  have HB3 := Lib.hid hb3
  have HS2 := Lib.hid hs2
  have HW2 := Lib.hid hw2
  clear hf hown0 hb3 hb2 hs2 hw2
  go_wp2_with (first
    | (go_at_call 36; rw [← HW2.out]; refine HF.out.mono ?_; rintro e w3 ⟨v3, rfl, ho3, hb4⟩; obtain ⟨A3, c3, rfl⟩ := own_slice ho3)
    | (at_builtin; go_loud (refine wpList_append_any _ rfl (.tmp 16) (.tmp 19) _ rfl w.heap.size 5 i0 _ 1 1 Tryz.underlying27 hi0 hz0 hz1 hz2 rfl (by decide) _ _ _ rfl (by rw [← HS2.out]; exact own_below HO0.out hb4) _ _ _ c3 _ rfl (RB.of_own ho3).reads (bv_one _) ?c1 ?c2 ?c3 ?_)))
  case c1 => rw [filled_length]; simp [maxLen]
  case c2 => rw [filled_length]; simp
  case c3 => exact Nat.le_trans HB3.out.size hb4.size
  intro v' w' hown hgrow _hat
  have hbf := Lib.hid (((HB3.out.trans (hb4.mono HB3.out.size)).grown hgrow (Nat.le_trans HB3.out.size hb4.size) (by intro k hk; simp [Value.ownBlock] at hk; omega)))
  have hof := Lib.hid (show w'.ownsRow w.heap.size 5 1 v' ([6] ++ filled l 2).length (bv ([6] ++ filled l 2)) by
    rw [List.length_append]; exact hown)
  clear hown hgrow _hat ho3 hb4
  go_wp2_with fail
  go_ret
  exact ⟨v', rfl, hof.out, hbf.out⟩
set_option maxRecDepth 100000 in
set_option maxHeartbeats 2000000 in
theorem hop_7 (kd : Nat) (A : Option Addr) (n c : Nat) (l : List UInt8) (w : World) (hb : RB w w.heap.size A n c l) (hk : kd % 8 = 7) :
    Calls Tryz.prog 27 #[.agg #[.int .u8 kd, .slice A n c]] w (OwnB ([41] ++ filled l 16) w) := by
  obtain ⟨i0, hi0, hz0, hz1, hz2⟩ := info_parts u8_info
  have HB := Lib.hid hb
  have HL := Lib.hid hb.len
  have e0 : (kd : Int) % 8 = 7 := by omega
  clear hb
  go_enter Tryz.func27, Tryz.ntmps27
  obtain ⟨w2, hw2⟩ : ∃ w2, w2 = w.alloc (.cells #[.int .u8 kd, .slice A n c] 29) := ⟨_, rfl⟩
  have hs2 : w2.heap.size = w.heap.size + 1 := by rw [hw2, World.size_alloc]
  have hb2 : Below w.heap.size w w2 := by rw [hw2]; exact (Below.refl _ w).alloc (Nat.le_refl _) _
  have hown0 : (w2.alloc (.cells #[.int .u8 41] 5)).ownsRow w.heap.size 5 1 (.slice (some ⟨w2.heap.size, 0, none⟩) 1 1) 1 [.int .u8 41] := World.ownsRow_lit w2 #[.int .u8 41] 1 (by omega) (by simp [maxLen]) rfl
  have hb3 : Below w.heap.size w (w2.alloc (.cells #[.int .u8 41] 5)) := hb2.alloc (by omega) _
  have hf := filled_any A n c 16 l (w2.alloc (.cells #[.int .u8 41] 5)) ((HB.out.below hb3).more hb3.size) (by omega) (by omega)
  have HF := Lib.hid hf
  have HO0 := Lib.hid hown0
  have HB3 := Lib.hid hb3
  have HS2 := Lib.hid hs2
  have HW2 := Lib.hid hw2
  clear hf hown0 hb3 hb2 hs2 hw2
  go_wp2_with (first
    | (go_at_call 36; rw [← HW2.out]; refine HF.out.mono ?_; rintro e w3 ⟨v3, rfl, ho3, hb4⟩; obtain ⟨A3, c3, rfl⟩ := own_slice ho3)
    | (at_builtin; go_loud (refine wpList_append_any _ rfl (.tmp 49) (.tmp 52) _ rfl w.heap.size 5 i0 _ 1 1 Tryz.underlying27 hi0 hz0 hz1 hz2 rfl (by decide) _ _ _ rfl (by rw [← HS2.out]; exact own_below HO0.out hb4) _ _ _ c3 _ rfl (RB.of_own ho3).reads (bv_one _) ?c1 ?c2 ?c3 ?_)))
  case c1 => rw [filled_length]; simp [maxLen]
  case c2 => rw [filled_length]; simp
  case c3 => exact Nat.le_trans HB3.out.size hb4.size
  intro v' w' hown hgrow _hat
  have hbf := Lib.hid (((HB3.out.trans (hb4.mono HB3.out.size)).grown hgrow (Nat.le_trans HB3.out.size hb4.size) (by intro k hk; simp [Value.ownBlock] at hk; omega)))
  have hof := Lib.hid (show w'.ownsRow w.heap.size 5 1 v' ([41] ++ filled l 16).length (bv ([41] ++ filled l 16)) by
    rw [List.length_append]; exact hown)
  clear hown hgrow _hat ho3 hb4
  go_wp2_with fail
  go_ret
  exact ⟨v', rfl, hof.out, hbf.out⟩
set_option maxRecDepth 100000 in
set_option maxHeartbeats 2000000 in
theorem hop_3 (kd : Nat) (A : Option Addr) (n c : Nat) (w : World) (hk : kd % 8 = 3) :
    Calls Tryz.prog 27 #[.agg #[.int .u8 kd, .slice A n c]] w (OwnB [205, 3] w) := by
  have e0 : (kd : Int) % 8 = 3 := by omega
  go_enter Tryz.func27, Tryz.ntmps27
  go_wp2_with (first
    | (go_at_call 37; refine (number_461 _).mono ?_; intro e w3 hof; have hf := Lib.hid (OwnB.widen hof ((Below.refl _ w).alloc (Nat.le_refl _) _)); clear hof; obtain ⟨v3, rfl, _⟩ := hf.out))
  go_ret
  exact hf.out

set_option maxRecDepth 100000 in
set_option maxHeartbeats 2000000 in
theorem hop_4 (kd : Nat) (A : Option Addr) (n c : Nat) (w : World) (hk : kd % 8 = 4) :
    Calls Tryz.prog 27 #[.agg #[.int .u8 kd, .slice A n c]] w (OwnB [221, 3] w) := by
  have e0 : (kd : Int) % 8 = 4 := by omega
  go_enter Tryz.func27, Tryz.ntmps27
  go_wp2_with (first
    | (go_at_call 37; refine (number_477 _).mono ?_; intro e w3 hof; have hf := Lib.hid (OwnB.widen hof ((Below.refl _ w).alloc (Nat.le_refl _) _)); clear hof; obtain ⟨v3, rfl, _⟩ := hf.out))
  go_ret
  exact hf.out

set_option maxRecDepth 100000 in
set_option maxHeartbeats 2000000 in
theorem hop_5 (kd : Nat) (A : Option Addr) (n c : Nat) (w : World) (hk : kd % 8 = 5) :
    Calls Tryz.prog 27 #[.agg #[.int .u8 kd, .slice A n c]] w (OwnB [162, 2] w) := by
  have e0 : (kd : Int) % 8 = 5 := by omega
  go_enter Tryz.func27, Tryz.ntmps27
  go_wp2_with (first
    | (go_at_call 37; refine (number_290 _).mono ?_; intro e w3 hof; have hf := Lib.hid (OwnB.widen hof ((Below.refl _ w).alloc (Nat.le_refl _) _)); clear hof; obtain ⟨v3, rfl, _⟩ := hf.out))
  go_ret
  exact hf.out

theorem idOf_length (l : List UInt8) : (idOf l).length ≤ 44 := by
  unfold idOf
  split
  · simp; omega
  · simp [shaSum, shaOut_length]
theorem cell_new1 (w : World) (cs : Array Value) (t : TypeId) (k : Nat) : (w.alloc (.cells cs t)).cell? ⟨w.heap.size, k, none⟩ = cs[k]? := (Blk.new w t cs).cell k

set_option maxRecDepth 100000 in
set_option maxHeartbeats 2000000 in
theorem hop_6 (kd : Nat) (A : Option Addr) (n c : Nat) (l : List UInt8) (w : World) (hb : RB w w.heap.size A n c l) (hk : kd % 8 = 6) (hn : n ≤ 100000) :
    Calls Tryz.prog 27 #[.agg #[.int .u8 kd, .slice A n c]] w (OwnB ([165, 3] ++ [UInt8.ofNat (idOf l).length] ++ idOf l) w) := by
  have HB := Lib.hid hb
  have e0 : (kd : Int) % 8 = 6 := by omega
  clear hb
  obtain ⟨w2, hw2⟩ : ∃ w2, w2 = w.alloc (.cells #[.int .u8 kd, .slice A n c] 29) := ⟨_, rfl⟩
  have hs2 : w2.heap.size = w.heap.size + 1 := by rw [hw2, World.size_alloc]
  have hb2 : Below w.heap.size w w2 := by rw [hw2]; exact (Below.refl _ w).alloc (Nat.le_refl _) _
  have HI := Lib.hid (id_any A n c l w2 ((HB.out.below hb2).more hb2.size) hn)
  obtain ⟨id, hid⟩ : ∃ id, id = idOf l := ⟨_, rfl⟩
  have hil : id.length ≤ 44 := by rw [hid]; exact idOf_length l
  rw [← hid] at HI ⊢
  have HB2 := Lib.hid hb2
  have HW2 := Lib.hid hw2
  clear hb2 hs2 hw2 hid
  go_enter Tryz.func27, Tryz.ntmps27
  go_wp2_with (first
    | (go_at_call 38; rw [← HW2.out]; refine HI.out.mono ?_; rintro e w3 ⟨v3, rfl, ho3, hb3⟩; obtain ⟨A3, c3, rfl⟩ := own_slice ho3)
    | (go_at_call_of 37 (Value.int .i64 421); refine (number_421 _).mono ?_; rintro e w4 ⟨v4, rfl, ho4, hb4⟩; obtain ⟨A4, c4, rfl⟩ := own_slice ho4)
    | (go_at_call_of 37 (id.length : Int); refine (number_small id.length _ (by omega)).mono ?_; rintro e w5 ⟨v5, rfl, ho5, hb5⟩; obtain ⟨A5, c5, rfl⟩ := own_slice ho5)
    | (go_at_call 39; refine (concat_any [⟨A4, 2, c4, [165, 3]⟩, ⟨A5, 1, c5, [UInt8.ofNat id.length]⟩, ⟨A3, id.length, c3, id⟩] w5.heap.size 3 _ ?c1 ?c2 ?c3 ?c4 ?c5).mono ?_))
  case c1 =>
    intro k hk
    rw [cell_new1]
    match k, hk with | 0, _ => rfl | 1, _ => rfl | 2, _ => rfl
  case c2 => simp
  case c3 => simp
  case c4 =>
    intro p hp
    simp at hp
    have r3 := (RB.of_own ho3).next hb4 |>.next hb5 |>.next ((Below.refl _ w5).alloc (Nat.le_refl _) (.cells #[.slice A4 2 c4, .slice A5 1 c5, .slice A3 id.length c3] 27))
    have r4 := (RB.of_own ho4).next hb5 |>.next ((Below.refl _ w5).alloc (Nat.le_refl _) (.cells #[.slice A4 2 c4, .slice A5 1 c5, .slice A3 id.length c3] 27))
    have r5 := (RB.of_own ho5).next ((Below.refl _ w5).alloc (Nat.le_refl _) (.cells #[.slice A4 2 c4, .slice A5 1 c5, .slice A3 id.length c3] 27))
    rcases hp with rfl | rfl | rfl
    · exact r4
    · exact r5
    · exact r3
  case c5 => simp [partsSize]; omega
  intro e w' ⟨v, he, ho, hb6⟩
  subst he
  have s3 : Below w.heap.size w w3 := HB2.out.trans (hb3.mono HB2.out.size)
  have s4 : Below w.heap.size w w4 := s3.trans (hb4.mono s3.size)
  have s5 : Below w.heap.size w w5 := s4.trans (hb5.mono s4.size)
  have hfin := Lib.hid (OwnB.widen (w := w) ⟨v, rfl, ho, hb6⟩ (s5.alloc s5.size _))
  rw [show partsBytes [⟨A4, 2, c4, [165, 3]⟩, ⟨A5, 1, c5, [UInt8.ofNat id.length]⟩, ⟨A3, id.length, c3, id⟩] = [165, 3] ++ [UInt8.ofNat id.length] ++ id by simp [partsBytes]] at hfin
  clear ho hb6 s3 s4 s5
  go_wp2_with fail
  go_ret
  exact hfin.out
end Go.Proofs.YtimakhadabenbaaGreatDoor

/- spec.AddrHopBytes, kind 2 (a region that draws its order); all kinds. -/
namespace Go.Proofs.YtimakhadabenbaaGreatDoor
open Go.RowKit
attribute [local go_sem ↓] Go.wp_at_zero Go.wp_at_succ
theorem own_base {w : World} {B B' : Nat} {e : TypeId} {size n : Nat} {v : Value} {xs : List Value} (h : w.ownsRow B e size v n xs) (hB : B' ≤ B) : w.ownsRow B' e size v n xs :=
  ⟨h.1, h.2.imp id fun ⟨g, cap, cur, hv, hg, r⟩ => ⟨g, cap, cur, hv, Nat.le_trans hB hg, r⟩⟩
theorem keepg {w w1 w2 : World} {a0 : Addr} {v0 : Value} {row : Option Nat} (h : Below w.heap.size w w1 ∧ w1.cell? a0 = some v0) (hlt : a0.block < w.heap.size) (hg : w1.grownBy w2 row) (hr : ∀ k, row = some k → w.heap.size ≤ k) : Below w.heap.size w w2 ∧ w2.cell? a0 = some v0 := by
  have hb := h.1.grown hg h.1.size hr
  exact ⟨hb, (hb.cell hlt).trans ((h.1.cell hlt).symm.trans h.2)⟩
theorem keep1 {w w1 w2 : World} {a0 : Addr} {v0 : Value} (hb : Below w1.heap.size w1 w2) (h : Below w.heap.size w w1 ∧ w1.cell? a0 = some v0) : Below w.heap.size w w2 ∧ w2.cell? a0 = some v0 :=
  ⟨h.1.trans (hb.mono h.1.size), (hb.cell (World.block_lt_of_cell? _ _ h.2)).trans h.2⟩
set_option maxRecDepth 100000 in
set_option maxHeartbeats 2000000 in
theorem hop_2 (kd : Nat) (A : Option Addr) (n c : Nat) (l : List UInt8) (w0 : World) (hb : RB w0 w0.heap.size A n c l) (hk : kd % 8 = 2) :
    Calls Tryz.prog 27 #[.agg #[.int .u8 kd, .slice A n c]] w0 (OwnB ([145, 2] ++ filled l 2) w0) := by
  obtain ⟨i0, hi0, hz0, hz1, hz2⟩ := info_parts u8_info
  have e0 : (kd : Int) % 8 = 2 := by omega
  obtain ⟨w, hw⟩ : ∃ w, w = w0.alloc (.cells #[.int .u8 kd, .slice A n c] 29) := ⟨_, rfl⟩
  have hs : w.heap.size = w0.heap.size + 1 := by rw [hw, World.size_alloc]
  have hb0 : Below w0.heap.size w0 w := by rw [hw]; exact (Below.refl _ w0).alloc (Nat.le_refl _) _
  have c1 : w.cell? ⟨w0.heap.size, 1, none⟩ = some (.slice A n c) := by rw [hw]; exact (Blk.new w0 29 #[.int .u8 kd, .slice A n c]).cell 1
  have HR := Lib.hid ((hb.below hb0).more hb0.size)
  have HB0 := Lib.hid hb0
  have HW := Lib.hid hw
  clear hb hb0 hw
  go_enter Tryz.func27, Tryz.ntmps27
  go_wp2_with fail
  rw [← HW.out]
  go_region_held3 (fun w' => Below w.heap.size w w' ∧ w'.cell? ⟨w0.heap.size, 1, none⟩ = some (.slice A n c))
    (first | exact ⟨(Below.refl _ _).drew, c1⟩ | with_reducible assumption)
    (first
      | (go_at_call 37; have hS1 := ‹RowKit.Below w.heap.size w _ ∧ _›; refine (number_273 _).mono ?_; rintro e w4 ⟨v4, rfl, ho4, hb4⟩; obtain ⟨A4, c4, rfl⟩ := own_slice ho4; have hS4 := keep1 hb4 hS1; have hS0 := hS1; clear hS1)
      | (go_at_call 36; have hS1 := ‹RowKit.Below w.heap.size w _ ∧ _›; refine (filled_any A n c 2 l _ ((HR.out.below hS1.1).more hS1.1.size) (by omega) (by omega)).mono ?_; rintro e w5 ⟨v5, rfl, ho5, hb5⟩; obtain ⟨A5, c5, rfl⟩ := own_slice ho5; have ho6 := own_below ho4 hb5; have hS5 := keep1 hb5 hS1; clear hS1)
      | (refine step_append_any _ rfl _ _ _ rfl _ 5 i0 _ 1 1 Tryz.underlying27 hi0 hz0 hz1 hz2 rfl (by decide) _ _ _ rfl ho6 _ _ _ c5 _ rfl (RB.of_own ho5).reads (bv_one _) (by rw [filled_length]; simp [maxLen]) (by rw [filled_length]; simp) (by have := ‹RowKit.Below w.heap.size w w5 ∧ _›.1.size; simp; omega) ?_; intro v' w' hown hgrow _hat; have hS6 := keepg hS5 (by simp [hs]) hgrow (fun k hk => Nat.le_trans hS0.1.size (ho6.lt k hk).1)))
  have hbf := HB0.out.trans (hS6.1.mono HB0.out.size)
  have HBF := Lib.hid hbf
  have HOF := Lib.hid hown
  clear hbf hown
  go_wp2_with fail
  go_ret
  refine ⟨v', rfl, ?_, HBF.out⟩
  have hl : ([145, 2] ++ filled l 2).length = 2 + (filled l 2).length := List.length_append
  have hfin := own_base HOF.out (Nat.le_trans HB0.out.size hS0.1.size)
  have hfin2 : w'.ownsRow w0.heap.size 5 1 v' ([145, 2] ++ filled l 2).length (bv ([145, 2] ++ filled l 2)) := by
    rw [hl, bv_append]; exact hfin
  exact hfin2

theorem hop_any (kd : Nat) (A : Option Addr) (n c : Nat) (l : List UInt8) (w : World) (hb : RB w w.heap.size A n c l) (hn : n ≤ 100000) :
    Calls Tryz.prog 27 #[.agg #[.int .u8 kd, .slice A n c]] w (OwnB (hopBytes kd l) w) := by
  have h8 : kd % 8 = 0 ∨ kd % 8 = 1 ∨ kd % 8 = 2 ∨ kd % 8 = 3 ∨ kd % 8 = 4 ∨ kd % 8 = 5 ∨ kd % 8 = 6 ∨ kd % 8 = 7 := by omega
  unfold hopBytes
  rcases h8 with h | h | h | h | h | h | h | h <;> simp only [h, if_true, if_false, Nat.reduceEqDiff, Nat.succ_ne_zero]
  · exact hop_0 kd A n c l w hb h
  · exact hop_1 kd A n c l w hb h
  · exact hop_2 kd A n c l w hb h
  · exact hop_3 kd A n c w h
  · exact hop_4 kd A n c w h
  · exact hop_5 kd A n c w h
  · exact hop_6 kd A n c l w hb h hn
  · exact hop_7 kd A n c l w hb h
theorem hopBytes_le (kd : Nat) (l : List UInt8) : 2 ≤ (hopBytes kd l).length ∧ (hopBytes kd l).length ≤ 50 := by
  have := idOf_length l
  have h2 : 2 ≤ (idOf l).length := by unfold idOf; split <;> simp
  have f2 := filled_length l 2
  have f4 := filled_length l 4
  have f16 := filled_length l 16
  unfold hopBytes
  repeat' split
  all_goals (try simp only [List.length_append, List.length_cons, List.length_nil]); (try omega)
  all_goals simp
end Go.Proofs.YtimakhadabenbaaGreatDoor
