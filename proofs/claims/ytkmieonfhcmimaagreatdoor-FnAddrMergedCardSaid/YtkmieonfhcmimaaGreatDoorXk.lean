/- spec.AddrID: what it returns. -/
import Derived.Test.YtkmieonfhcmimaaGreatDoorXi
import Derived.Deep.Onto
import Derived.Deep.RegionWith
namespace Go.Proofs.YtkmieonfhcmimaaGreatDoor
open Go.RowKit

/-- The ID that data make. -/
def idOf (l : List UInt8) : List UInt8 := if l.length ≤ 42 then [0, UInt8.ofNat l.length] ++ l else [18, 32] ++ shaSum l

theorem OwnB.widen {l : List UInt8} {w w2 w' : World} {e : Ending} (h : OwnB l w2 e w') (hb : Below w.heap.size w w2) : OwnB l w e w' := by
  obtain ⟨v, he, ho, hb2⟩ := h
  exact ⟨v, he, ho.mono hb.size, hb.trans (hb2.mono hb.size)⟩
/-- Cells just laid, met two blocks on. -/
theorem cell_new2 (w : World) (a b : Obj) (cs : Array Value) (t : TypeId) (hb : b = .cells cs t) (k : Nat) : ((w.alloc a).alloc b).cell? ⟨w.heap.size + 1, k, none⟩ = cs[k]? := by
  subst hb
  have := (Blk.new_ (w := w.alloc a) (g := w.heap.size + 1) (World.size_alloc _ _) t cs).cell k
  exact this

set_option maxRecDepth 100000 in
set_option maxHeartbeats 2000000 in
theorem id_any (A : Option Addr) (n c : Nat) (l : List UInt8) (w : World) (hb : RB w w.heap.size A n c l) (hn : n ≤ 100000) :
    Calls Tryz.prog 30 #[.slice A n c] w (OwnB (idOf l) w) := by
  have HB := Lib.hid hb
  have HL := Lib.hid hb.len
  clear hb
  by_cases hlt : n ≤ 42
  · go_enter Tryz.func30, Tryz.ntmps30
    have ht : OwnB (idOf l) w = OwnB (partsBytes ([⟨some ⟨w.heap.size, 0, none⟩, 2, 2, [0, UInt8.ofNat n]⟩, ⟨A, n, c, l⟩] : List Part)) w := by
      rw [idOf, HL.out, if_pos hlt]; simp [partsBytes]
    rw [ht]
    have hx : bv [0, UInt8.ofNat n] = [Value.int .u8 0, Value.int .u8 n] := by simp [bv]; omega
    have hr0 := Lib.hid (RB.new w [0, UInt8.ofNat n] 5 (by simp [maxLen]))
    rw [hx] at hr0
    have HX := Lib.hid hx
    clear hx ht
    go_wp2_with (go_at_call 50; go_loud (refine (concat_any [⟨some ⟨w.heap.size, 0, none⟩, 2, 2, [0, UInt8.ofNat n]⟩, ⟨A, n, c, l⟩] (w.heap.size + 1) 2 _ ?c1 ?c2 ?c3 ?c4 ?c5).mono ?_))
    case c1 => intro k hk; rw [cell_new2 _ _ _ _ _ rfl]; match k, hk with | 0, _ => rfl | 1, _ => rfl
    case c2 => simp
    case c3 => simp
    case c4 =>
      intro p hp
      simp at hp
      rcases hp with rfl | rfl
      · exact (hr0.out.below ((Below.refl _ _).alloc (by simp) _)).more (by simp)
      · exact ((HB.out.below ((Below.refl _ _).alloc (Nat.le_refl _) _)).below ((Below.refl _ _).alloc (by simp) _)).more (by simp; omega)
    case c5 => simp [partsSize]; omega
    intro e w' ⟨v, he, ho, hb2⟩
    subst he
    have hbw : Below w.heap.size w ((w.alloc (.cells #[.int .u8 0, .int .u8 n] 5)).alloc (.cells #[.slice (some ⟨w.heap.size, 0, none⟩) 2 2, .slice A n c] 32)) := ((Below.refl _ w).alloc (Nat.le_refl _) _).alloc (by simp) _
    have hfin := Lib.hid (OwnB.widen (w := w) ⟨v, rfl, ho, hb2⟩ hbw)
    clear ho hb2 hbw
    go_wp2_with fail
    go_ret
    exact hfin.out
  · obtain ⟨sum, hsum⟩ : ∃ sum, sum = shaSum l := ⟨_, rfl⟩
    have hls : sum.length = 32 := by rw [hsum]; exact shaOut_length _ _
    have ht : idOf l = [18, 32] ++ sum := by rw [idOf, HL.out, if_neg hlt, hsum]
    rw [ht]
    have hc := sum_any A n c l w HB.out (by omega)
    rw [← hsum] at hc
    have HC := Lib.hid hc
    have HLS := Lib.hid hls
    clear hc hsum hls ht
    have sz32 : (bv sum).toArray.size = 32 := by rw [List.size_toArray, bv_length, HLS.out]
    go_enter Tryz.func30, Tryz.ntmps30
    go_wp2_with (first
      | (go_at_call 51; refine HC.out.mono ?_; rintro e w1 ⟨rfl, hb1⟩)
      | (rw [run_storeCells_new _ 97 _ (bv sum).toArray (by rw [sz32]; rfl) (by simp [bv, Value.oneCell'])])
      | (go_at_call 50; refine (concat_any [⟨some ⟨w1.heap.size + 1, 0, none⟩, 2, 2, [18, 32]⟩, ⟨some ⟨w1.heap.size, 0, none⟩, 32, 32, sum⟩] (w1.heap.size + 1 + 1) 2 _ ?c1 ?c2 ?c3 ?c4 ?c5).mono ?_))
    case c1 =>
      intro k hk
      rw [show w1.heap.size + 1 + 1 = (w1.alloc (.cells (bv sum).toArray 97)).heap.size + 1 by rw [World.size_alloc], cell_new2 _ _ _ _ _ rfl]
      match k, hk with | 0, _ => rfl | 1, _ => rfl
    case c2 => simp
    case c3 => simp
    case c4 =>
      intro p hp
      simp at hp
      rcases hp with rfl | rfl
      · have h0 := RB.new (w1.alloc (.cells (bv sum).toArray 97)) [18, 32] 5 (by simp [maxLen])
        rw [World.size_alloc] at h0
        exact (h0.below ((Below.refl _ _).alloc (by simp) _)).more (by simp)
      · have h0 := RB.new w1 sum 97 (by rw [HLS.out]; simp [maxLen])
        rw [HLS.out] at h0
        exact ((h0.below ((Below.refl _ _).alloc (by simp) _)).below ((Below.refl _ _).alloc (by simp) _)).more (by simp)
    case c5 => simp [partsSize]
    intro e w' ⟨v, he, ho, hb2⟩
    subst he
    have hbw : Below w.heap.size w (((w1.alloc (.cells (bv sum).toArray 97)).alloc (.cells #[.int .u8 18, .int .u8 32] 5)).alloc (.cells #[.slice (some ⟨w1.heap.size + 1, 0, none⟩) 2 2, .slice (some ⟨w1.heap.size, 0, none⟩) 32 32] 32)) :=
      ((hb1.alloc hb1.size _).alloc (by have := hb1.size; simp; omega) _).alloc (by have := hb1.size; simp; omega) _
    have hfin := Lib.hid (OwnB.widen (w := w) ⟨v, rfl, ho, hb2⟩ hbw)
    rw [show partsBytes [⟨some ⟨w1.heap.size + 1, 0, none⟩, 2, 2, [18, 32]⟩, ⟨some ⟨w1.heap.size, 0, none⟩, 32, 32, sum⟩] = [18, 32] ++ sum by simp [partsBytes]] at hfin
    clear ho hb2 hbw
    go_wp2_with fail
    go_ret
    exact hfin.out
end Go.Proofs.YtkmieonfhcmimaaGreatDoor

/- spec.AddrHopBytes: what it returns. -/
namespace Go.Proofs.YtkmieonfhcmimaaGreatDoor
open Go.RowKit

/-- The bytes of a part. -/
def hopBytes (kd : Nat) (l : List UInt8) : List UInt8 :=
  if kd % 8 = 0 then [4] ++ filled l 4 else if kd % 8 = 1 then [6] ++ filled l 2 else if kd % 8 = 2 then [145, 2] ++ filled l 2 else if kd % 8 = 3 then [205, 3] else if kd % 8 = 4 then [221, 3]
  else if kd % 8 = 5 then [162, 2] else if kd % 8 = 6 then [165, 3] ++ [UInt8.ofNat (idOf l).length] ++ idOf l else [41] ++ filled l 16

theorem own_below {w w' : World} {base : Nat} {e : TypeId} {size n : Nat} {v : Value} {xs : List Value} (h : w.ownsRow base e size v n xs) (hb : Below w.heap.size w w') : w'.ownsRow base e size v n xs :=
  h.kept (only_of_below hb none) (by cases hv : v.ownBlock with | none => exact .inl rfl | some k => exact .inr (by simp))

set_option maxRecDepth 100000 in
set_option maxHeartbeats 2000000 in
theorem hop_0 (kd : Nat) (A : Option Addr) (n c : Nat) (l : List UInt8) (w : World) (hb : RB w w.heap.size A n c l) (hk : kd % 8 = 0) :
    Calls Tryz.prog 46 #[.agg #[.int .u8 kd, .slice A n c]] w (OwnB ([4] ++ filled l 4) w) := by
  obtain ⟨i0, hi0, hz0, hz1, hz2⟩ := info_parts u8_info
  have HB := Lib.hid hb
  have HL := Lib.hid hb.len
  have e0 : (kd : Int) % 8 = 0 := by omega
  clear hb
  go_enter Tryz.func46, Tryz.ntmps46
  obtain ⟨w2, hw2⟩ : ∃ w2, w2 = w.alloc (.cells #[.int .u8 kd, .slice A n c] 50) := ⟨_, rfl⟩
  have hs2 : w2.heap.size = w.heap.size + 1 := by rw [hw2, World.size_alloc]
  have hb2 : Below w.heap.size w w2 := by rw [hw2]; exact (Below.refl _ w).alloc (Nat.le_refl _) _
  have hown0 : (w2.alloc (.cells #[.int .u8 4] 5)).ownsRow w.heap.size 5 1 (.slice (some ⟨w2.heap.size, 0, none⟩) 1 1) 1 [.int .u8 4] := World.ownsRow_lit w2 #[.int .u8 4] 1 (by omega) (by simp [maxLen]) rfl
  have hb3 : Below w.heap.size w (w2.alloc (.cells #[.int .u8 4] 5)) := hb2.alloc (by omega) _
  have hf := filled_any A n c 4 l (w2.alloc (.cells #[.int .u8 4] 5)) ((HB.out.below hb3).more hb3.size) (by omega) (by omega)
  have HF := Lib.hid hf
  have HO0 := Lib.hid hown0
  have HB3 := Lib.hid hb3
  have HS2 := Lib.hid hs2
  have HW2 := Lib.hid hw2
  clear hf hown0 hb3 hb2 hs2 hw2
  go_wp2_with (first
    | (go_at_call 69; rw [← HW2.out]; refine HF.out.mono ?_; rintro e w3 ⟨v3, rfl, ho3, hb4⟩; obtain ⟨A3, c3, rfl⟩ := own_slice ho3)
    | (at_builtin; go_loud (refine wpList_append_any _ rfl (.tmp 9) (.tmp 12) _ rfl w.heap.size 5 i0 _ 1 1 Tryz.underlying32 hi0 hz0 hz1 hz2 rfl (by decide) _ _ _ rfl (by rw [← HS2.out]; exact own_below HO0.out hb4) _ _ _ c3 _ rfl (RB.of_own ho3).reads (bv_one _) ?c1 ?c2 ?c3 ?_)))
  case c1 => rw [filled_length]; simp [maxLen]
  case c2 => rw [filled_length]; simp
  case c3 => exact Nat.le_trans HB3.out.size hb4.size
  intro v' w' hown hgrow _hat
  have hbf := Lib.hid (((HB3.out.trans (hb4.mono HB3.out.size)).grown hgrow (Nat.le_trans HB3.out.size hb4.size) (by intro k hk; simp [Value.ownBlock] at hk; omega)))
  have hof := Lib.hid (show w'.ownsRow w.heap.size 5 1 v' ([4] ++ filled l 4).length (bv ([4] ++ filled l 4)) by
    rw [List.length_append]; exact hown)
  clear hown hgrow _hat ho3 hb4
  go_wp2_with fail
  go_ret
  exact ⟨v', rfl, hof.out, hbf.out⟩
set_option maxRecDepth 100000 in
set_option maxHeartbeats 2000000 in
theorem hop_1 (kd : Nat) (A : Option Addr) (n c : Nat) (l : List UInt8) (w : World) (hb : RB w w.heap.size A n c l) (hk : kd % 8 = 1) :
    Calls Tryz.prog 46 #[.agg #[.int .u8 kd, .slice A n c]] w (OwnB ([6] ++ filled l 2) w) := by
  obtain ⟨i0, hi0, hz0, hz1, hz2⟩ := info_parts u8_info
  have HB := Lib.hid hb
  have HL := Lib.hid hb.len
  have e0 : (kd : Int) % 8 = 1 := by omega
  clear hb
  go_enter Tryz.func46, Tryz.ntmps46
  obtain ⟨w2, hw2⟩ : ∃ w2, w2 = w.alloc (.cells #[.int .u8 kd, .slice A n c] 50) := ⟨_, rfl⟩
  have hs2 : w2.heap.size = w.heap.size + 1 := by rw [hw2, World.size_alloc]
  have hb2 : Below w.heap.size w w2 := by rw [hw2]; exact (Below.refl _ w).alloc (Nat.le_refl _) _
  have hown0 : (w2.alloc (.cells #[.int .u8 6] 5)).ownsRow w.heap.size 5 1 (.slice (some ⟨w2.heap.size, 0, none⟩) 1 1) 1 [.int .u8 6] := World.ownsRow_lit w2 #[.int .u8 6] 1 (by omega) (by simp [maxLen]) rfl
  have hb3 : Below w.heap.size w (w2.alloc (.cells #[.int .u8 6] 5)) := hb2.alloc (by omega) _
  have hf := filled_any A n c 2 l (w2.alloc (.cells #[.int .u8 6] 5)) ((HB.out.below hb3).more hb3.size) (by omega) (by omega)
  have HF := Lib.hid hf
  have HO0 := Lib.hid hown0
  have HB3 := Lib.hid hb3
  have HS2 := Lib.hid hs2
  have HW2 := Lib.hid hw2
  clear hf hown0 hb3 hb2 hs2 hw2
  go_wp2_with (first
    | (go_at_call 69; rw [← HW2.out]; refine HF.out.mono ?_; rintro e w3 ⟨v3, rfl, ho3, hb4⟩; obtain ⟨A3, c3, rfl⟩ := own_slice ho3)
    | (at_builtin; go_loud (refine wpList_append_any _ rfl (.tmp 16) (.tmp 19) _ rfl w.heap.size 5 i0 _ 1 1 Tryz.underlying32 hi0 hz0 hz1 hz2 rfl (by decide) _ _ _ rfl (by rw [← HS2.out]; exact own_below HO0.out hb4) _ _ _ c3 _ rfl (RB.of_own ho3).reads (bv_one _) ?c1 ?c2 ?c3 ?_)))
  case c1 => rw [filled_length]; simp [maxLen]
  case c2 => rw [filled_length]; simp
  case c3 => exact Nat.le_trans HB3.out.size hb4.size
  intro v' w' hown hgrow _hat
  have hbf := Lib.hid (((HB3.out.trans (hb4.mono HB3.out.size)).grown hgrow (Nat.le_trans HB3.out.size hb4.size) (by intro k hk; simp [Value.ownBlock] at hk; omega)))
  have hof := Lib.hid (show w'.ownsRow w.heap.size 5 1 v' ([6] ++ filled l 2).length (bv ([6] ++ filled l 2)) by
    rw [List.length_append]; exact hown)
  clear hown hgrow _hat ho3 hb4
  go_wp2_with fail
  go_ret
  exact ⟨v', rfl, hof.out, hbf.out⟩
set_option maxRecDepth 100000 in
set_option maxHeartbeats 2000000 in
theorem hop_7 (kd : Nat) (A : Option Addr) (n c : Nat) (l : List UInt8) (w : World) (hb : RB w w.heap.size A n c l) (hk : kd % 8 = 7) :
    Calls Tryz.prog 46 #[.agg #[.int .u8 kd, .slice A n c]] w (OwnB ([41] ++ filled l 16) w) := by
  obtain ⟨i0, hi0, hz0, hz1, hz2⟩ := info_parts u8_info
  have HB := Lib.hid hb
  have HL := Lib.hid hb.len
  have e0 : (kd : Int) % 8 = 7 := by omega
  clear hb
  go_enter Tryz.func46, Tryz.ntmps46
  obtain ⟨w2, hw2⟩ : ∃ w2, w2 = w.alloc (.cells #[.int .u8 kd, .slice A n c] 50) := ⟨_, rfl⟩
  have hs2 : w2.heap.size = w.heap.size + 1 := by rw [hw2, World.size_alloc]
  have hb2 : Below w.heap.size w w2 := by rw [hw2]; exact (Below.refl _ w).alloc (Nat.le_refl _) _
  have hown0 : (w2.alloc (.cells #[.int .u8 41] 5)).ownsRow w.heap.size 5 1 (.slice (some ⟨w2.heap.size, 0, none⟩) 1 1) 1 [.int .u8 41] := World.ownsRow_lit w2 #[.int .u8 41] 1 (by omega) (by simp [maxLen]) rfl
  have hb3 : Below w.heap.size w (w2.alloc (.cells #[.int .u8 41] 5)) := hb2.alloc (by omega) _
  have hf := filled_any A n c 16 l (w2.alloc (.cells #[.int .u8 41] 5)) ((HB.out.below hb3).more hb3.size) (by omega) (by omega)
  have HF := Lib.hid hf
  have HO0 := Lib.hid hown0
  have HB3 := Lib.hid hb3
  have HS2 := Lib.hid hs2
  have HW2 := Lib.hid hw2
  clear hf hown0 hb3 hb2 hs2 hw2
  go_wp2_with (first
    | (go_at_call 69; rw [← HW2.out]; refine HF.out.mono ?_; rintro e w3 ⟨v3, rfl, ho3, hb4⟩; obtain ⟨A3, c3, rfl⟩ := own_slice ho3)
    | (at_builtin; go_loud (refine wpList_append_any _ rfl (.tmp 49) (.tmp 52) _ rfl w.heap.size 5 i0 _ 1 1 Tryz.underlying32 hi0 hz0 hz1 hz2 rfl (by decide) _ _ _ rfl (by rw [← HS2.out]; exact own_below HO0.out hb4) _ _ _ c3 _ rfl (RB.of_own ho3).reads (bv_one _) ?c1 ?c2 ?c3 ?_)))
  case c1 => rw [filled_length]; simp [maxLen]
  case c2 => rw [filled_length]; simp
  case c3 => exact Nat.le_trans HB3.out.size hb4.size
  intro v' w' hown hgrow _hat
  have hbf := Lib.hid (((HB3.out.trans (hb4.mono HB3.out.size)).grown hgrow (Nat.le_trans HB3.out.size hb4.size) (by intro k hk; simp [Value.ownBlock] at hk; omega)))
  have hof := Lib.hid (show w'.ownsRow w.heap.size 5 1 v' ([41] ++ filled l 16).length (bv ([41] ++ filled l 16)) by
    rw [List.length_append]; exact hown)
  clear hown hgrow _hat ho3 hb4
  go_wp2_with fail
  go_ret
  exact ⟨v', rfl, hof.out, hbf.out⟩
set_option maxRecDepth 100000 in
set_option maxHeartbeats 2000000 in
theorem hop_3 (kd : Nat) (A : Option Addr) (n c : Nat) (w : World) (hk : kd % 8 = 3) :
    Calls Tryz.prog 46 #[.agg #[.int .u8 kd, .slice A n c]] w (OwnB [205, 3] w) := by
  have e0 : (kd : Int) % 8 = 3 := by omega
  go_enter Tryz.func46, Tryz.ntmps46
  go_wp2_with (first
    | (go_at_call 70; refine (number_461 _).mono ?_; intro e w3 hof; have hf := Lib.hid (OwnB.widen hof ((Below.refl _ w).alloc (Nat.le_refl _) _)); clear hof; obtain ⟨v3, rfl, _⟩ := hf.out))
  go_ret
  exact hf.out

set_option maxRecDepth 100000 in
set_option maxHeartbeats 2000000 in
theorem hop_4 (kd : Nat) (A : Option Addr) (n c : Nat) (w : World) (hk : kd % 8 = 4) :
    Calls Tryz.prog 46 #[.agg #[.int .u8 kd, .slice A n c]] w (OwnB [221, 3] w) := by
  have e0 : (kd : Int) % 8 = 4 := by omega
  go_enter Tryz.func46, Tryz.ntmps46
  go_wp2_with (first
    | (go_at_call 70; refine (number_477 _).mono ?_; intro e w3 hof; have hf := Lib.hid (OwnB.widen hof ((Below.refl _ w).alloc (Nat.le_refl _) _)); clear hof; obtain ⟨v3, rfl, _⟩ := hf.out))
  go_ret
  exact hf.out

set_option maxRecDepth 100000 in
set_option maxHeartbeats 2000000 in
theorem hop_5 (kd : Nat) (A : Option Addr) (n c : Nat) (w : World) (hk : kd % 8 = 5) :
    Calls Tryz.prog 46 #[.agg #[.int .u8 kd, .slice A n c]] w (OwnB [162, 2] w) := by
  have e0 : (kd : Int) % 8 = 5 := by omega
  go_enter Tryz.func46, Tryz.ntmps46
  go_wp2_with (first
    | (go_at_call 70; refine (number_290 _).mono ?_; intro e w3 hof; have hf := Lib.hid (OwnB.widen hof ((Below.refl _ w).alloc (Nat.le_refl _) _)); clear hof; obtain ⟨v3, rfl, _⟩ := hf.out))
  go_ret
  exact hf.out

theorem idOf_length (l : List UInt8) : (idOf l).length ≤ 44 := by
  unfold idOf
  split
  · simp; omega
  · simp [shaSum, shaOut_length]
theorem cell_new1 (w : World) (cs : Array Value) (t : TypeId) (k : Nat) : (w.alloc (.cells cs t)).cell? ⟨w.heap.size, k, none⟩ = cs[k]? := (Blk.new w t cs).cell k

set_option maxRecDepth 100000 in
set_option maxHeartbeats 2000000 in
theorem hop_6 (kd : Nat) (A : Option Addr) (n c : Nat) (l : List UInt8) (w : World) (hb : RB w w.heap.size A n c l) (hk : kd % 8 = 6) (hn : n ≤ 100000) :
    Calls Tryz.prog 46 #[.agg #[.int .u8 kd, .slice A n c]] w (OwnB ([165, 3] ++ [UInt8.ofNat (idOf l).length] ++ idOf l) w) := by
  have HB := Lib.hid hb
  have e0 : (kd : Int) % 8 = 6 := by omega
  clear hb
  obtain ⟨w2, hw2⟩ : ∃ w2, w2 = w.alloc (.cells #[.int .u8 kd, .slice A n c] 50) := ⟨_, rfl⟩
  have hs2 : w2.heap.size = w.heap.size + 1 := by rw [hw2, World.size_alloc]
  have hb2 : Below w.heap.size w w2 := by rw [hw2]; exact (Below.refl _ w).alloc (Nat.le_refl _) _
  have HI := Lib.hid (id_any A n c l w2 ((HB.out.below hb2).more hb2.size) hn)
  obtain ⟨id, hid⟩ : ∃ id, id = idOf l := ⟨_, rfl⟩
  have hil : id.length ≤ 44 := by rw [hid]; exact idOf_length l
  rw [← hid] at HI ⊢
  have HB2 := Lib.hid hb2
  have HW2 := Lib.hid hw2
  clear hb2 hs2 hw2 hid
  go_enter Tryz.func46, Tryz.ntmps46
  go_wp2_with (first
    | (go_at_call 30; rw [← HW2.out]; refine HI.out.mono ?_; rintro e w3 ⟨v3, rfl, ho3, hb3⟩; obtain ⟨A3, c3, rfl⟩ := own_slice ho3)
    | (go_at_call_of 70 (Value.int .i64 421); refine (number_421 _).mono ?_; rintro e w4 ⟨v4, rfl, ho4, hb4⟩; obtain ⟨A4, c4, rfl⟩ := own_slice ho4)
    | (go_at_call_of 70 (id.length : Int); refine (number_small id.length _ (by omega)).mono ?_; rintro e w5 ⟨v5, rfl, ho5, hb5⟩; obtain ⟨A5, c5, rfl⟩ := own_slice ho5)
    | (go_at_call 50; refine (concat_any [⟨A4, 2, c4, [165, 3]⟩, ⟨A5, 1, c5, [UInt8.ofNat id.length]⟩, ⟨A3, id.length, c3, id⟩] w5.heap.size 3 _ ?c1 ?c2 ?c3 ?c4 ?c5).mono ?_))
  case c1 =>
    intro k hk
    rw [cell_new1]
    match k, hk with | 0, _ => rfl | 1, _ => rfl | 2, _ => rfl
  case c2 => simp
  case c3 => simp
  case c4 =>
    intro p hp
    simp at hp
    have r3 := (RB.of_own ho3).next hb4 |>.next hb5 |>.next ((Below.refl _ w5).alloc (Nat.le_refl _) (.cells #[.slice A4 2 c4, .slice A5 1 c5, .slice A3 id.length c3] 32))
    have r4 := (RB.of_own ho4).next hb5 |>.next ((Below.refl _ w5).alloc (Nat.le_refl _) (.cells #[.slice A4 2 c4, .slice A5 1 c5, .slice A3 id.length c3] 32))
    have r5 := (RB.of_own ho5).next ((Below.refl _ w5).alloc (Nat.le_refl _) (.cells #[.slice A4 2 c4, .slice A5 1 c5, .slice A3 id.length c3] 32))
    rcases hp with rfl | rfl | rfl
    · exact r4
    · exact r5
    · exact r3
  case c5 => simp [partsSize]; omega
  intro e w' ⟨v, he, ho, hb6⟩
  subst he
  have s3 : Below w.heap.size w w3 := HB2.out.trans (hb3.mono HB2.out.size)
  have s4 : Below w.heap.size w w4 := s3.trans (hb4.mono s3.size)
  have s5 : Below w.heap.size w w5 := s4.trans (hb5.mono s4.size)
  have hfin := Lib.hid (OwnB.widen (w := w) ⟨v, rfl, ho, hb6⟩ (s5.alloc s5.size _))
  rw [show partsBytes [⟨A4, 2, c4, [165, 3]⟩, ⟨A5, 1, c5, [UInt8.ofNat id.length]⟩, ⟨A3, id.length, c3, id⟩] = [165, 3] ++ [UInt8.ofNat id.length] ++ id by simp [partsBytes]] at hfin
  clear ho hb6 s3 s4 s5
  go_wp2_with fail
  go_ret
  exact hfin.out
end Go.Proofs.YtkmieonfhcmimaaGreatDoor
