/- spec.AddrID: what it returns. -/
import Derived.Test.YthpcfnegfdcbjaaGreatDoorXi
import Derived.Deep.Onto
import Derived.Deep.RegionWith
import Derived.Deep.RegionHeld3
import Derived.Deep.DrawnRows
namespace Go.Proofs.YthpcfnegfdcbjaaGreatDoor
open Go.RowKit

/-- The ID that data make. -/
def idOf (l : List UInt8) : List UInt8 := if l.length ≤ 42 then [0, UInt8.ofNat l.length] ++ l else [18, 32] ++ shaSum l

theorem OwnB.widen {l : List UInt8} {w w2 w' : World} {e : Ending} (h : OwnB l w2 e w') (hb : Below w.heap.size w w2) : OwnB l w e w' := by
  obtain ⟨v, he, ho, hb2⟩ := h
  exact ⟨v, he, ho.mono hb.size, hb.trans (hb2.mono hb.size)⟩
/-- Cells just laid, met two blocks on. -/
theorem cell_new2 (w : World) (a b : Obj) (cs : Array Value) (t : TypeId) (hb : b = .cells cs t) (k : Nat) : ((w.alloc a).alloc b).cell? ⟨w.heap.size + 1, k, none⟩ = cs[k]? := by
  subst hb
  have := (Blk.new_ (w := w.alloc a) (g := w.heap.size + 1) (World.size_alloc _ _) t cs).cell k
  exact this

set_option maxRecDepth 100000 in
set_option maxHeartbeats 2000000 in
theorem id_any (A : Option Addr) (n c : Nat) (l : List UInt8) (w : World) (hb : RB w w.heap.size A n c l) (hn : n ≤ 100000) :
    Calls Tryz.prog 37 #[.slice A n c] w (OwnB (idOf l) w) := by
  have HB := Lib.hid hb
  have HL := Lib.hid hb.len
  clear hb
  by_cases hlt : n ≤ 42
  · go_enter Tryz.func37, Tryz.ntmps37
    have ht : OwnB (idOf l) w = OwnB (partsBytes ([⟨some ⟨w.heap.size, 0, none⟩, 2, 2, [0, UInt8.ofNat n]⟩, ⟨A, n, c, l⟩] : List Part)) w := by
      rw [idOf, HL.out, if_pos hlt]; simp [partsBytes]
    rw [ht]
    have hx : bv [0, UInt8.ofNat n] = [Value.int .u8 0, Value.int .u8 n] := by simp [bv]; omega
    have hr0 := Lib.hid (RB.new w [0, UInt8.ofNat n] 5 (by simp [maxLen]))
    rw [hx] at hr0
    have HX := Lib.hid hx
    clear hx ht
    go_wp2_with (go_at_call 38; go_loud (refine (concat_any [⟨some ⟨w.heap.size, 0, none⟩, 2, 2, [0, UInt8.ofNat n]⟩, ⟨A, n, c, l⟩] (w.heap.size + 1) 2 _ ?c1 ?c2 ?c3 ?c4 ?c5).mono ?_))
    case c1 => intro k hk; rw [cell_new2 _ _ _ _ _ rfl]; match k, hk with | 0, _ => rfl | 1, _ => rfl
    case c2 => simp
    case c3 => simp
    case c4 =>
      intro p hp
      simp at hp
      rcases hp with rfl | rfl
      · exact (hr0.out.below ((Below.refl _ _).alloc (by simp) _)).more (by simp)
      · exact ((HB.out.below ((Below.refl _ _).alloc (Nat.le_refl _) _)).below ((Below.refl _ _).alloc (by simp) _)).more (by simp; omega)
    case c5 => simp [partsSize]; omega
    intro e w' ⟨v, he, ho, hb2⟩
    subst he
    have hbw : Below w.heap.size w ((w.alloc (.cells #[.int .u8 0, .int .u8 n] 5)).alloc (.cells #[.slice (some ⟨w.heap.size, 0, none⟩) 2 2, .slice A n c] 26)) := ((Below.refl _ w).alloc (Nat.le_refl _) _).alloc (by simp) _
    have hfin := Lib.hid (OwnB.widen (w := w) ⟨v, rfl, ho, hb2⟩ hbw)
    clear ho hb2 hbw
    go_wp2_with fail
    go_ret
    exact hfin.out
  · obtain ⟨sum, hsum⟩ : ∃ sum, sum = shaSum l := ⟨_, rfl⟩
    have hls : sum.length = 32 := by rw [hsum]; exact shaOut_length _ _
    have ht : idOf l = [18, 32] ++ sum := by rw [idOf, HL.out, if_neg hlt, hsum]
    rw [ht]
    have hc := sum_any A n c l w HB.out (by omega)
    rw [← hsum] at hc
    have HC := Lib.hid hc
    have HLS := Lib.hid hls
    clear hc hsum hls ht
    have sz32 : (bv sum).toArray.size = 32 := by rw [List.size_toArray, bv_length, HLS.out]
    go_enter Tryz.func37, Tryz.ntmps37
    go_wp2_with (first
      | (go_at_call 51; refine HC.out.mono ?_; rintro e w1 ⟨rfl, hb1⟩)
      | (rw [run_storeCells_new _ 109 _ (bv sum).toArray (by rw [sz32]; rfl) (by simp [bv, Value.oneCell'])])
      | (go_at_call 38; refine (concat_any [⟨some ⟨w1.heap.size + 1, 0, none⟩, 2, 2, [18, 32]⟩, ⟨some ⟨w1.heap.size, 0, none⟩, 32, 32, sum⟩] (w1.heap.size + 1 + 1) 2 _ ?c1 ?c2 ?c3 ?c4 ?c5).mono ?_))
    case c1 =>
      intro k hk
      rw [show w1.heap.size + 1 + 1 = (w1.alloc (.cells (bv sum).toArray 109)).heap.size + 1 by rw [World.size_alloc], cell_new2 _ _ _ _ _ rfl]
      match k, hk with | 0, _ => rfl | 1, _ => rfl
    case c2 => simp
    case c3 => simp
    case c4 =>
      intro p hp
      simp at hp
      rcases hp with rfl | rfl
      · have h0 := RB.new (w1.alloc (.cells (bv sum).toArray 109)) [18, 32] 5 (by simp [maxLen])
        rw [World.size_alloc] at h0
        exact (h0.below ((Below.refl _ _).alloc (by simp) _)).more (by simp)
      · have h0 := RB.new w1 sum 109 (by rw [HLS.out]; simp [maxLen])
        rw [HLS.out] at h0
        exact ((h0.below ((Below.refl _ _).alloc (by simp) _)).below ((Below.refl _ _).alloc (by simp) _)).more (by simp)
    case c5 => simp [partsSize]
    intro e w' ⟨v, he, ho, hb2⟩
    subst he
    have hbw : Below w.heap.size w (((w1.alloc (.cells (bv sum).toArray 109)).alloc (.cells #[.int .u8 18, .int .u8 32] 5)).alloc (.cells #[.slice (some ⟨w1.heap.size + 1, 0, none⟩) 2 2, .slice (some ⟨w1.heap.size, 0, none⟩) 32 32] 26)) :=
      ((hb1.alloc hb1.size _).alloc (by have := hb1.size; simp; omega) _).alloc (by have := hb1.size; simp; omega) _
    have hfin := Lib.hid (OwnB.widen (w := w) ⟨v, rfl, ho, hb2⟩ hbw)
    rw [show partsBytes [⟨some ⟨w1.heap.size + 1, 0, none⟩, 2, 2, [18, 32]⟩, ⟨some ⟨w1.heap.size, 0, none⟩, 32, 32, sum⟩] = [18, 32] ++ sum by simp [partsBytes]] at hfin
    clear ho hb2 hbw
    go_wp2_with fail
    go_ret
    exact hfin.out
end Go.Proofs.YthpcfnegfdcbjaaGreatDoor

/- spec.AddrHopBytes: what it returns. -/
namespace Go.Proofs.YthpcfnegfdcbjaaGreatDoor
open Go.RowKit

/-- The bytes of a part. -/
def hopBytes (kd : Nat) (l : List UInt8) : List UInt8 :=
  if kd % 8 = 0 then [4] ++ filled l 4 else if kd % 8 = 1 then [6] ++ filled l 2 else if kd % 8 = 2 then [145, 2] ++ filled l 2 else if kd % 8 = 3 then [205, 3] else if kd % 8 = 4 then [221, 3]
  else if kd % 8 = 5 then [162, 2] else if kd % 8 = 6 then [165, 3] ++ [UInt8.ofNat (idOf l).length] ++ idOf l else [41] ++ filled l 16

theorem own_below {w w' : World} {base : Nat} {e : TypeId} {size n : Nat} {v : Value} {xs : List Value} (h : w.ownsRow base e size v n xs) (hb : Below w.heap.size w w') : w'.ownsRow base e size v n xs :=
  h.kept (only_of_below hb none) (by cases hv : v.ownBlock with | none => exact .inl rfl | some k => exact .inr (by simp))

set_option maxRecDepth 100000 in
set_option maxHeartbeats 2000000 in
theorem hop_0 (kd : Nat) (A : Option Addr) (n c : Nat) (l : List UInt8) (w : World) (hb : RB w w.heap.size A n c l) (hk : kd % 8 = 0) :
    Calls Tryz.prog 20 #[.agg #[.int .u8 kd, .slice A n c]] w (OwnB ([4] ++ filled l 4) w) := by
  obtain ⟨i0, hi0, hz0, hz1, hz2⟩ := info_parts u8_info
  have HB := Lib.hid hb
  have HL := Lib.hid hb.len
  have e0 : (kd : Int) % 8 = 0 := by omega
  clear hb
  go_enter Tryz.func20, Tryz.ntmps20
  obtain ⟨w2, hw2⟩ : ∃ w2, w2 = w.alloc (.cells #[.int .u8 kd, .slice A n c] 45) := ⟨_, rfl⟩
  have hs2 : w2.heap.size = w.heap.size + 1 := by rw [hw2, World.size_alloc]
  have hb2 : Below w.heap.size w w2 := by rw [hw2]; exact (Below.refl _ w).alloc (Nat.le_refl _) _
  have hown0 : (w2.alloc (.cells #[.int .u8 4] 5)).ownsRow w.heap.size 5 1 (.slice (some ⟨w2.heap.size, 0, none⟩) 1 1) 1 [.int .u8 4] := World.ownsRow_lit w2 #[.int .u8 4] 1 (by omega) (by simp [maxLen]) rfl
  have hb3 : Below w.heap.size w (w2.alloc (.cells #[.int .u8 4] 5)) := hb2.alloc (by omega) _
  have hf := filled_any A n c 4 l (w2.alloc (.cells #[.int .u8 4] 5)) ((HB.out.below hb3).more hb3.size) (by omega) (by omega)
  have HF := Lib.hid hf
  have HO0 := Lib.hid hown0
  have HB3 := Lib.hid hb3
  have HS2 := Lib.hid hs2
  have HW2 := Lib.hid hw2
  clear hf hown0 hb3 hb2 hs2 hw2
  go_wp2_with (first
    | (go_at_call 35; rw [← HW2.out]; refine HF.out.mono ?_; rintro e w3 ⟨v3, rfl, ho3, hb4⟩; obtain ⟨A3, c3, rfl⟩ := own_slice ho3)
    | (at_builtin; go_loud (refine wpList_append_any _ rfl (.tmp 9) (.tmp 12) _ rfl w.heap.size 5 i0 _ 1 1 Tryz.underlying26 hi0 hz0 hz1 hz2 rfl (by decide) _ _ _ rfl (by rw [← HS2.out]; exact own_below HO0.out hb4) _ _ _ c3 _ rfl (RB.of_own ho3).reads (bv_one _) ?c1 ?c2 ?c3 ?_)))
  case c1 => rw [filled_length]; simp [maxLen]
  case c2 => rw [filled_length]; simp
  case c3 => exact Nat.le_trans HB3.out.size hb4.size
  intro v' w' hown hgrow _hat
  have hbf := Lib.hid (((HB3.out.trans (hb4.mono HB3.out.size)).grown hgrow (Nat.le_trans HB3.out.size hb4.size) (by intro k hk; simp [Value.ownBlock] at hk; omega)))
  have hof := Lib.hid (show w'.ownsRow w.heap.size 5 1 v' ([4] ++ filled l 4).length (bv ([4] ++ filled l 4)) by
    rw [List.length_append]; exact hown)
  clear hown hgrow _hat ho3 hb4
  go_wp2_with fail
  go_ret
  exact ⟨v', rfl, hof.out, hbf.out⟩
set_option maxRecDepth 100000 in
set_option maxHeartbeats 2000000 in
theorem hop_1 (kd : Nat) (A : Option Addr) (n c : Nat) (l : List UInt8) (w : World) (hb : RB w w.heap.size A n c l) (hk : kd % 8 = 1) :
    Calls Tryz.prog 20 #[.agg #[.int .u8 kd, .slice A n c]] w (OwnB ([6] ++ filled l 2) w) := by
  obtain ⟨i0, hi0, hz0, hz1, hz2⟩ := info_parts u8_info
  have HB := Lib.hid hb
  have HL := Lib.hid hb.len
  have e0 : (kd : Int) % 8 = 1 := by omega
  clear hb
  go_enter Tryz.func20, Tryz.ntmps20
  obtain ⟨w2, hw2⟩ : ∃ w2, w2 = w.alloc (.cells #[.int .u8 kd, .slice A n c] 45) := ⟨_, rfl⟩
  have hs2 : w2.heap.size = w.heap.size + 1 := by rw [hw2, World.size_alloc]
  have hb2 : Below w.heap.size w w2 := by rw [hw2]; exact (Below.refl _ w).alloc (Nat.le_refl _) _
  have hown0 : (w2.alloc (.cells #[.int .u8 6] 5)).ownsRow w.heap.size 5 1 (.slice (some ⟨w2.heap.size, 0, none⟩) 1 1) 1 [.int .u8 6] := World.ownsRow_lit w2 #[.int .u8 6] 1 (by omega) (by simp [maxLen]) rfl
  have hb3 : Below w.heap.size w (w2.alloc (.cells #[.int .u8 6] 5)) := hb2.alloc (by omega) _
  have hf := filled_any A n c 2 l (w2.alloc (.cells #[.int .u8 6] 5)) ((HB.out.below hb3).more hb3.size) (by omega) (by omega)
  have HF := Lib.hid hf
  have HO0 := Lib.hid hown0
  have HB3 := Lib.hid hb3
  have HS2 := Lib.hid hs2
  have HW2 := Lib.hid hw2
  clear hf hown0 hb3 hb2 hs2 hw2
  go_wp2_with (first
    | (go_at_call 35; rw [← HW2.out]; refine HF.out.mono ?_; rintro e w3 ⟨v3, rfl, ho3, hb4⟩; obtain ⟨A3, c3, rfl⟩ := own_slice ho3)
    | (at_builtin; go_loud (refine wpList_append_any _ rfl (.tmp 16) (.tmp 19) _ rfl w.heap.size 5 i0 _ 1 1 Tryz.underlying26 hi0 hz0 hz1 hz2 rfl (by decide) _ _ _ rfl (by rw [← HS2.out]; exact own_below HO0.out hb4) _ _ _ c3 _ rfl (RB.of_own ho3).reads (bv_one _) ?c1 ?c2 ?c3 ?_)))
  case c1 => rw [filled_length]; simp [maxLen]
  case c2 => rw [filled_length]; simp
  case c3 => exact Nat.le_trans HB3.out.size hb4.size
  intro v' w' hown hgrow _hat
  have hbf := Lib.hid (((HB3.out.trans (hb4.mono HB3.out.size)).grown hgrow (Nat.le_trans HB3.out.size hb4.size) (by intro k hk; simp [Value.ownBlock] at hk; omega)))
  have hof := Lib.hid (show w'.ownsRow w.heap.size 5 1 v' ([6] ++ filled l 2).length (bv ([6] ++ filled l 2)) by
    rw [List.length_append]; exact hown)
  clear hown hgrow _hat ho3 hb4
  go_wp2_with fail
  go_ret
  exact ⟨v', rfl, hof.out, hbf.out⟩
set_option maxRecDepth 100000 in
set_option maxHeartbeats 2000000 in
theorem hop_7 (kd : Nat) (A : Option Addr) (n c : Nat) (l : List UInt8) (w : World) (hb : RB w w.heap.size A n c l) (hk : kd % 8 = 7) :
    Calls Tryz.prog 20 #[.agg #[.int .u8 kd, .slice A n c]] w (OwnB ([41] ++ filled l 16) w) := by
  obtain ⟨i0, hi0, hz0, hz1, hz2⟩ := info_parts u8_info
  have HB := Lib.hid hb
  have HL := Lib.hid hb.len
  have e0 : (kd : Int) % 8 = 7 := by omega
  clear hb
  go_enter Tryz.func20, Tryz.ntmps20
  obtain ⟨w2, hw2⟩ : ∃ w2, w2 = w.alloc (.cells #[.int .u8 kd, .slice A n c] 45) := ⟨_, rfl⟩
  have hs2 : w2.heap.size = w.heap.size + 1 := by rw [hw2, World.size_alloc]
  have hb2 : Below w.heap.size w w2 := by rw [hw2]; exact (Below.refl _ w).alloc (Nat.le_refl _) _
  have hown0 : (w2.alloc (.cells #[.int .u8 41] 5)).ownsRow w.heap.size 5 1 (.slice (some ⟨w2.heap.size, 0, none⟩) 1 1) 1 [.int .u8 41] := World.ownsRow_lit w2 #[.int .u8 41] 1 (by omega) (by simp [maxLen]) rfl
  have hb3 : Below w.heap.size w (w2.alloc (.cells #[.int .u8 41] 5)) := hb2.alloc (by omega) _
  have hf := filled_any A n c 16 l (w2.alloc (.cells #[.int .u8 41] 5)) ((HB.out.below hb3).more hb3.size) (by omega) (by omega)
  have HF := Lib.hid hf
  have HO0 := Lib.hid hown0
  have HB3 := Lib.hid hb3
  have HS2 := Lib.hid hs2
  have HW2 := Lib.hid hw2
  clear hf hown0 hb3 hb2 hs2 hw2
  go_wp2_with (first
    | (go_at_call 35; rw [← HW2.out]; refine HF.out.mono ?_; rintro e w3 ⟨v3, rfl, ho3, hb4⟩; obtain ⟨A3, c3, rfl⟩ := own_slice ho3)
    | (at_builtin; go_loud (refine wpList_append_any _ rfl (.tmp 49) (.tmp 52) _ rfl w.heap.size 5 i0 _ 1 1 Tryz.underlying26 hi0 hz0 hz1 hz2 rfl (by decide) _ _ _ rfl (by rw [← HS2.out]; exact own_below HO0.out hb4) _ _ _ c3 _ rfl (RB.of_own ho3).reads (bv_one _) ?c1 ?c2 ?c3 ?_)))
  case c1 => rw [filled_length]; simp [maxLen]
  case c2 => rw [filled_length]; simp
  case c3 => exact Nat.le_trans HB3.out.size hb4.size
  intro v' w' hown hgrow _hat
  have hbf := Lib.hid (((HB3.out.trans (hb4.mono HB3.out.size)).grown hgrow (Nat.le_trans HB3.out.size hb4.size) (by intro k hk; simp [Value.ownBlock] at hk; omega)))
  have hof := Lib.hid (show w'.ownsRow w.heap.size 5 1 v' ([41] ++ filled l 16).length (bv ([41] ++ filled l 16)) by
    rw [List.length_append]; exact hown)
  clear hown hgrow _hat ho3 hb4
  go_wp2_with fail
  go_ret
  exact ⟨v', rfl, hof.out, hbf.out⟩
set_option maxRecDepth 100000 in
set_option maxHeartbeats 2000000 in
theorem hop_3 (kd : Nat) (A : Option Addr) (n c : Nat) (w : World) (hk : kd % 8 = 3) :
    Calls Tryz.prog 20 #[.agg #[.int .u8 kd, .slice A n c]] w (OwnB [205, 3] w) := by
  have e0 : (kd : Int) % 8 = 3 := by omega
  go_enter Tryz.func20, Tryz.ntmps20
  go_wp2_with (first
    | (go_at_call 36; refine (number_461 _).mono ?_; intro e w3 hof; have hf := Lib.hid (OwnB.widen hof ((Below.refl _ w).alloc (Nat.le_refl _) _)); clear hof; obtain ⟨v3, rfl, _⟩ := hf.out))
  go_ret
  exact hf.out

set_option maxRecDepth 100000 in
set_option maxHeartbeats 2000000 in
theorem hop_4 (kd : Nat) (A : Option Addr) (n c : Nat) (w : World) (hk : kd % 8 = 4) :
    Calls Tryz.prog 20 #[.agg #[.int .u8 kd, .slice A n c]] w (OwnB [221, 3] w) := by
  have e0 : (kd : Int) % 8 = 4 := by omega
  go_enter Tryz.func20, Tryz.ntmps20
  go_wp2_with (first
    | (go_at_call 36; refine (number_477 _).mono ?_; intro e w3 hof; have hf := Lib.hid (OwnB.widen hof ((Below.refl _ w).alloc (Nat.le_refl _) _)); clear hof; obtain ⟨v3, rfl, _⟩ := hf.out))
  go_ret
  exact hf.out

set_option maxRecDepth 100000 in
set_option maxHeartbeats 2000000 in
theorem hop_5 (kd : Nat) (A : Option Addr) (n c : Nat) (w : World) (hk : kd % 8 = 5) :
    Calls Tryz.prog 20 #[.agg #[.int .u8 kd, .slice A n c]] w (OwnB [162, 2] w) := by
  have e0 : (kd : Int) % 8 = 5 := by omega
  go_enter Tryz.func20, Tryz.ntmps20
  go_wp2_with (first
    | (go_at_call 36; refine (number_290 _).mono ?_; intro e w3 hof; have hf := Lib.hid (OwnB.widen hof ((Below.refl _ w).alloc (Nat.le_refl _) _)); clear hof; obtain ⟨v3, rfl, _⟩ := hf.out))
  go_ret
  exact hf.out

theorem idOf_length (l : List UInt8) : (idOf l).length ≤ 44 := by
  unfold idOf
  split
  · simp; omega
  · simp [shaSum, shaOut_length]
theorem cell_new1 (w : World) (cs : Array Value) (t : TypeId) (k : Nat) : (w.alloc (.cells cs t)).cell? ⟨w.heap.size, k, none⟩ = cs[k]? := (Blk.new w t cs).cell k

set_option maxRecDepth 100000 in
set_option maxHeartbeats 2000000 in
theorem hop_6 (kd : Nat) (A : Option Addr) (n c : Nat) (l : List UInt8) (w : World) (hb : RB w w.heap.size A n c l) (hk : kd % 8 = 6) (hn : n ≤ 100000) :
    Calls Tryz.prog 20 #[.agg #[.int .u8 kd, .slice A n c]] w (OwnB ([165, 3] ++ [UInt8.ofNat (idOf l).length] ++ idOf l) w) := by
  have HB := Lib.hid hb
  have e0 : (kd : Int) % 8 = 6 := by omega
  clear hb
  obtain ⟨w2, hw2⟩ : ∃ w2, w2 = w.alloc (.cells #[.int .u8 kd, .slice A n c] 45) := ⟨_, rfl⟩
  have hs2 : w2.heap.size = w.heap.size + 1 := by rw [hw2, World.size_alloc]
  have hb2 : Below w.heap.size w w2 := by rw [hw2]; exact (Below.refl _ w).alloc (Nat.le_refl _) _
  have HI := Lib.hid (id_any A n c l w2 ((HB.out.below hb2).more hb2.size) hn)
  obtain ⟨id, hid⟩ : ∃ id, id = idOf l := ⟨_, rfl⟩
  have hil : id.length ≤ 44 := by rw [hid]; exact idOf_length l
  rw [← hid] at HI ⊢
  have HB2 := Lib.hid hb2
  have HW2 := Lib.hid hw2
  clear hb2 hs2 hw2 hid
  go_enter Tryz.func20, Tryz.ntmps20
  go_wp2_with (first
    | (go_at_call 37; rw [← HW2.out]; refine HI.out.mono ?_; rintro e w3 ⟨v3, rfl, ho3, hb3⟩; obtain ⟨A3, c3, rfl⟩ := own_slice ho3)
    | (go_at_call_of 36 (Value.int .i64 421); refine (number_421 _).mono ?_; rintro e w4 ⟨v4, rfl, ho4, hb4⟩; obtain ⟨A4, c4, rfl⟩ := own_slice ho4)
    | (go_at_call_of 36 (id.length : Int); refine (number_small id.length _ (by omega)).mono ?_; rintro e w5 ⟨v5, rfl, ho5, hb5⟩; obtain ⟨A5, c5, rfl⟩ := own_slice ho5)
    | (go_at_call 38; refine (concat_any [⟨A4, 2, c4, [165, 3]⟩, ⟨A5, 1, c5, [UInt8.ofNat id.length]⟩, ⟨A3, id.length, c3, id⟩] w5.heap.size 3 _ ?c1 ?c2 ?c3 ?c4 ?c5).mono ?_))
  case c1 =>
    intro k hk
    rw [cell_new1]
    match k, hk with | 0, _ => rfl | 1, _ => rfl | 2, _ => rfl
  case c2 => simp
  case c3 => simp
  case c4 =>
    intro p hp
    simp at hp
    have r3 := (RB.of_own ho3).next hb4 |>.next hb5 |>.next ((Below.refl _ w5).alloc (Nat.le_refl _) (.cells #[.slice A4 2 c4, .slice A5 1 c5, .slice A3 id.length c3] 26))
    have r4 := (RB.of_own ho4).next hb5 |>.next ((Below.refl _ w5).alloc (Nat.le_refl _) (.cells #[.slice A4 2 c4, .slice A5 1 c5, .slice A3 id.length c3] 26))
    have r5 := (RB.of_own ho5).next ((Below.refl _ w5).alloc (Nat.le_refl _) (.cells #[.slice A4 2 c4, .slice A5 1 c5, .slice A3 id.length c3] 26))
    rcases hp with rfl | rfl | rfl
    · exact r4
    · exact r5
    · exact r3
  case c5 => simp [partsSize]; omega
  intro e w' ⟨v, he, ho, hb6⟩
  subst he
  have s3 : Below w.heap.size w w3 := HB2.out.trans (hb3.mono HB2.out.size)
  have s4 : Below w.heap.size w w4 := s3.trans (hb4.mono s3.size)
  have s5 : Below w.heap.size w w5 := s4.trans (hb5.mono s4.size)
  have hfin := Lib.hid (OwnB.widen (w := w) ⟨v, rfl, ho, hb6⟩ (s5.alloc s5.size _))
  rw [show partsBytes [⟨A4, 2, c4, [165, 3]⟩, ⟨A5, 1, c5, [UInt8.ofNat id.length]⟩, ⟨A3, id.length, c3, id⟩] = [165, 3] ++ [UInt8.ofNat id.length] ++ id by simp [partsBytes]] at hfin
  clear ho hb6 s3 s4 s5
  go_wp2_with fail
  go_ret
  exact hfin.out
end Go.Proofs.YthpcfnegfdcbjaaGreatDoor

/- spec.AddrHopBytes, kind 2 (a region that draws its order); all kinds. -/
namespace Go.Proofs.YthpcfnegfdcbjaaGreatDoor
open Go.RowKit
attribute [local go_sem ↓] Go.wp_at_zero Go.wp_at_succ
theorem own_base {w : World} {B B' : Nat} {e : TypeId} {size n : Nat} {v : Value} {xs : List Value} (h : w.ownsRow B e size v n xs) (hB : B' ≤ B) : w.ownsRow B' e size v n xs :=
  ⟨h.1, h.2.imp id fun ⟨g, cap, cur, hv, hg, r⟩ => ⟨g, cap, cur, hv, Nat.le_trans hB hg, r⟩⟩
theorem keepg {w w1 w2 : World} {a0 : Addr} {v0 : Value} {row : Option Nat} (h : Below w.heap.size w w1 ∧ w1.cell? a0 = some v0) (hlt : a0.block < w.heap.size) (hg : w1.grownBy w2 row) (hr : ∀ k, row = some k → w.heap.size ≤ k) : Below w.heap.size w w2 ∧ w2.cell? a0 = some v0 := by
  have hb := h.1.grown hg h.1.size hr
  exact ⟨hb, (hb.cell hlt).trans ((h.1.cell hlt).symm.trans h.2)⟩
theorem keep1 {w w1 w2 : World} {a0 : Addr} {v0 : Value} (hb : Below w1.heap.size w1 w2) (h : Below w.heap.size w w1 ∧ w1.cell? a0 = some v0) : Below w.heap.size w w2 ∧ w2.cell? a0 = some v0 :=
  ⟨h.1.trans (hb.mono h.1.size), (hb.cell (World.block_lt_of_cell? _ _ h.2)).trans h.2⟩
set_option maxRecDepth 100000 in
set_option maxHeartbeats 2000000 in
theorem hop_2 (kd : Nat) (A : Option Addr) (n c : Nat) (l : List UInt8) (w0 : World) (hb : RB w0 w0.heap.size A n c l) (hk : kd % 8 = 2) :
    Calls Tryz.prog 20 #[.agg #[.int .u8 kd, .slice A n c]] w0 (OwnB ([145, 2] ++ filled l 2) w0) := by
  obtain ⟨i0, hi0, hz0, hz1, hz2⟩ := info_parts u8_info
  have e0 : (kd : Int) % 8 = 2 := by omega
  obtain ⟨w, hw⟩ : ∃ w, w = w0.alloc (.cells #[.int .u8 kd, .slice A n c] 45) := ⟨_, rfl⟩
  have hs : w.heap.size = w0.heap.size + 1 := by rw [hw, World.size_alloc]
  have hb0 : Below w0.heap.size w0 w := by rw [hw]; exact (Below.refl _ w0).alloc (Nat.le_refl _) _
  have c1 : w.cell? ⟨w0.heap.size, 1, none⟩ = some (.slice A n c) := by rw [hw]; exact (Blk.new w0 45 #[.int .u8 kd, .slice A n c]).cell 1
  have HR := Lib.hid ((hb.below hb0).more hb0.size)
  have HB0 := Lib.hid hb0
  have HW := Lib.hid hw
  clear hb hb0 hw
  go_enter Tryz.func20, Tryz.ntmps20
  go_wp2_with fail
  rw [← HW.out]
  go_region_held3 (fun w' => Below w.heap.size w w' ∧ w'.cell? ⟨w0.heap.size, 1, none⟩ = some (.slice A n c))
    (first | exact ⟨(Below.refl _ _).drew, c1⟩ | with_reducible assumption)
    (first
      | (go_at_call 36; have hS1 := ‹RowKit.Below w.heap.size w _ ∧ _›; refine (number_273 _).mono ?_; rintro e w4 ⟨v4, rfl, ho4, hb4⟩; obtain ⟨A4, c4, rfl⟩ := own_slice ho4; have hS4 := keep1 hb4 hS1; have hS0 := hS1; clear hS1)
      | (go_at_call 35; have hS1 := ‹RowKit.Below w.heap.size w _ ∧ _›; refine (filled_any A n c 2 l _ ((HR.out.below hS1.1).more hS1.1.size) (by omega) (by omega)).mono ?_; rintro e w5 ⟨v5, rfl, ho5, hb5⟩; obtain ⟨A5, c5, rfl⟩ := own_slice ho5; have ho6 := own_below ho4 hb5; have hS5 := keep1 hb5 hS1; clear hS1)
      | (refine step_append_any _ rfl _ _ _ rfl _ 5 i0 _ 1 1 Tryz.underlying26 hi0 hz0 hz1 hz2 rfl (by decide) _ _ _ rfl ho6 _ _ _ c5 _ rfl (RB.of_own ho5).reads (bv_one _) (by rw [filled_length]; simp [maxLen]) (by rw [filled_length]; simp) (by have := ‹RowKit.Below w.heap.size w w5 ∧ _›.1.size; simp; omega) ?_; intro v' w' hown hgrow _hat; have hS6 := keepg hS5 (by simp [hs]) hgrow (fun k hk => Nat.le_trans hS0.1.size (ho6.lt k hk).1)))
  have hbf := HB0.out.trans (hS6.1.mono HB0.out.size)
  have HBF := Lib.hid hbf
  have HOF := Lib.hid hown
  clear hbf hown
  go_wp2_with fail
  go_ret
  refine ⟨v', rfl, ?_, HBF.out⟩
  have hl : ([145, 2] ++ filled l 2).length = 2 + (filled l 2).length := List.length_append
  have hfin := own_base HOF.out (Nat.le_trans HB0.out.size hS0.1.size)
  have hfin2 : w'.ownsRow w0.heap.size 5 1 v' ([145, 2] ++ filled l 2).length (bv ([145, 2] ++ filled l 2)) := by
    rw [hl, bv_append]; exact hfin
  exact hfin2

theorem hop_any (kd : Nat) (A : Option Addr) (n c : Nat) (l : List UInt8) (w : World) (hb : RB w w.heap.size A n c l) (hn : n ≤ 100000) :
    Calls Tryz.prog 20 #[.agg #[.int .u8 kd, .slice A n c]] w (OwnB (hopBytes kd l) w) := by
  have h8 : kd % 8 = 0 ∨ kd % 8 = 1 ∨ kd % 8 = 2 ∨ kd % 8 = 3 ∨ kd % 8 = 4 ∨ kd % 8 = 5 ∨ kd % 8 = 6 ∨ kd % 8 = 7 := by omega
  unfold hopBytes
  rcases h8 with h | h | h | h | h | h | h | h <;> simp only [h, if_true, if_false, Nat.reduceEqDiff, Nat.succ_ne_zero]
  · exact hop_0 kd A n c l w hb h
  · exact hop_1 kd A n c l w hb h
  · exact hop_2 kd A n c l w hb h
  · exact hop_3 kd A n c w h
  · exact hop_4 kd A n c w h
  · exact hop_5 kd A n c w h
  · exact hop_6 kd A n c l w hb h hn
  · exact hop_7 kd A n c l w hb h
theorem hopBytes_le (kd : Nat) (l : List UInt8) : 2 ≤ (hopBytes kd l).length ∧ (hopBytes kd l).length ≤ 50 := by
  have := idOf_length l
  have h2 : 2 ≤ (idOf l).length := by unfold idOf; split <;> simp
  have f2 := filled_length l 2
  have f4 := filled_length l 4
  have f16 := filled_length l 16
  unfold hopBytes
  repeat' split
  all_goals (try simp only [List.length_append, List.length_cons, List.length_nil]); (try omega)
  all_goals simp
end Go.Proofs.YthpcfnegfdcbjaaGreatDoor

/- spec.AddrOf: the bytes of parts one after the other. -/
namespace Go.Proofs.YthpcfnegfdcbjaaGreatDoor
open Go.RowKit
/-- A part, as it lies in memory. -/
structure Hop where
  kd : Nat
  A : Option Addr
  n : Nat
  c : Nat
  l : List UInt8
def Hop.bytes (h : Hop) : List UInt8 := hopBytes h.kd h.l
/-- The bytes of an address. -/
def addrBytes (hs : List Hop) : List UInt8 := hs.flatMap Hop.bytes
/-- A slice of parts, below block B. -/
structure HS (w : World) (B : Nat) (A : Option Addr) (n c : Nat) (hs : List Hop) : Prop where
  len : hs.length = n
  cap : n ≤ c
  max : c ≤ maxLen
  at_ : ∀ i (hi : i < hs.length), ∃ ad, A = some ad ∧ ad.block < B ∧ w.cell? (ad.add (i * 2)) = some (.int .u8 (hs[i]).kd) ∧ w.cell? (ad.add (i * 2 + 1)) = some (.slice (hs[i]).A (hs[i]).n (hs[i]).c) ∧ RB w B (hs[i]).A (hs[i]).n (hs[i]).c (hs[i]).l
theorem HS.below {w w' : World} {B : Nat} {A : Option Addr} {n c : Nat} {hs : List Hop} (h : HS w B A n c hs) (hb : Below B w w') : HS w' B A n c hs :=
  ⟨h.len, h.cap, h.max, fun i hi => by
    obtain ⟨ad, e, hlt, c0, c1, hr⟩ := h.at_ i hi
    exact ⟨ad, e, hlt, (hb.cell (by rw [block_of_add]; exact hlt)).trans c0, (hb.cell (by rw [block_of_add]; exact hlt)).trans c1, hr.below hb⟩⟩
theorem HS.more {w : World} {B B' : Nat} {A : Option Addr} {n c : Nat} {hs : List Hop} (h : HS w B A n c hs) (hB : B ≤ B') : HS w B' A n c hs :=
  ⟨h.len, h.cap, h.max, fun i hi => by
    obtain ⟨ad, e, hlt, c0, c1, hr⟩ := h.at_ i hi
    exact ⟨ad, e, by omega, c0, c1, hr.more hB⟩⟩
theorem HS.take {w : World} {B : Nat} {A : Option Addr} {n c : Nat} {hs : List Hop} (h : HS w B A n c hs) {k : Nat} (hk : k ≤ n) : HS w B A k c (hs.take k) :=
  ⟨by rw [List.length_take, h.len]; exact Nat.min_eq_left hk, Nat.le_trans hk h.cap, h.max, fun i hi => by
    have h1 : i < hs.length := by rw [List.length_take] at hi; omega
    rw [List.getElem_take]
    exact h.at_ i h1⟩
theorem addrBytes_take (hs : List Hop) (k : Nat) (h : k < hs.length) : addrBytes (hs.take (k + 1)) = addrBytes (hs.take k) ++ (hs[k]).bytes := by
  unfold addrBytes
  rw [List.take_succ_eq_append_getElem h, List.flatMap_append]
  simp
theorem addrBytes_le (hs : List Hop) : (addrBytes hs).length ≤ 50 * hs.length := by
  induction hs with
  | nil => simp [addrBytes]
  | cons h hs ih =>
    have := (hopBytes_le h.kd h.l).2
    unfold addrBytes at *
    simp only [List.flatMap_cons, List.length_append, List.length_cons, Hop.bytes]
    omega

theorem add_succ (ad : Addr) (m j : Nat) (hj : j ≠ 0) : ad.add (m + j) = ⟨(ad.add m).block, (ad.add m).off + j, none⟩ := by
  rw [← add_of_add, Addr.add, if_neg hj]
set_option maxRecDepth 100000 in
set_option maxHeartbeats 2000000 in
theorem addrof_any (A : Option Addr) (n c : Nat) (hs : List Hop) (w : World) (h : HS w w.heap.size A n c hs) (hn : n ≤ 1000) (hd : ∀ i (hi : i < hs.length), (hs[i]).n ≤ 100000) :
    Calls Tryz.prog 8 #[.slice A n c] w (OwnB (addrBytes hs) w) := by
  obtain ⟨i0, hi0, hz0, hz1, hz2⟩ := info_parts u8_info
  have HH := Lib.hid h
  have HD := Lib.hid hd
  have HL := Lib.hid h.len
  have hlen : hs.length ≤ 1000 := by rw [h.len]; exact hn
  clear h hd
  go_enter Tryz.func8, Tryz.ntmps8
  go_wp2_with fail
  go_loopw [3, 8] (fun v i wr => ∃ k : Nat, k ≤ n ∧ i = .int .i64 k ∧ wr.ownsRow w.heap.size 5 1 v (addrBytes (hs.take k)).length (bv (addrBytes (hs.take k))) ∧ Below w.heap.size w wr) (fun _ i _ => n - (intOf i).toNat)
  case atStart => exact ⟨0, by omega, rfl, World.ownsRow_nil _ _ _ _, Below.refl _ _⟩
  case round =>
    obtain ⟨k, hk, rfl, hown, hb⟩ := hrel
    have HO := Lib.hid hown
    have HB := Lib.hid hb
    clear hown hb
    by_cases hlt : k < n
    · obtain ⟨ad, rfl, hbk, c0, c1, hr⟩ := (HH.out.below HB.out).at_ k (by rw [HL.out]; exact hlt)
      have HR := Lib.hid hr
      clear hr
      have hnk := HD.out k (by rw [HL.out]; exact hlt)
      generalize hhk : hs[k]'(by rw [HL.out]; exact hlt) = hp at *
      have HHK := Lib.hid hhk
      clear hhk
      rw [add_succ _ _ 1 (by decide)] at c1
      have hbw : Below w.heap.size w (wr.alloc (.cells #[.int .u8 hp.kd, .slice hp.A hp.n hp.c] 45)) := HB.out.alloc HB.out.size _
      have HBW := Lib.hid hbw
      clear hbw
      go_wp2_with fail
      refine (hop_any hp.kd hp.A hp.n hp.c hp.l _ ((HR.out.more HB.out.size).next ((Below.refl _ _).alloc (Nat.le_refl _) _)) hnk).mono ?_
      rintro e w3 ⟨v3, rfl, ho3, hb3⟩
      obtain ⟨A3, c3, rfl⟩ := own_slice ho3
      have HO3 := Lib.hid ho3
      have HB3 := Lib.hid hb3
      have HOO := Lib.hid (own_below HO.out (((Below.refl _ wr).alloc (Nat.le_refl _) (.cells #[.int .u8 hp.kd, .slice hp.A hp.n hp.c] 45)).trans (hb3.mono (by simp))))
      have hle1 := addrBytes_le (hs.take k)
      have hle2 := (hopBytes_le hp.kd hp.l).2
      have hlt3 : (hs.take k).length ≤ 1000 := by rw [List.length_take]; omega
      clear ho3 hb3
      go_wp2_with (at_builtin; refine wpList_append_any _ rfl (.tmp 12) (.tmp 14) _ rfl w.heap.size 5 i0 _ 1 1 Tryz.underlying26 hi0 hz0 hz1 hz2 rfl (by decide) _ _ _ rfl HOO.out _ _ _ c3 _ rfl (RB.of_own HO3.out).reads (bv_one _) ?c1 ?c2 ?c3 ?_)
      case c1 => unfold maxLen; omega
      case c2 => omega
      case c3 => exact Nat.le_trans HBW.out.size HB3.out.size
      intro v' w' hown hgrow _hat
      have hof : w'.ownsRow w.heap.size 5 1 v' (addrBytes (hs.take (k + 1))).length (bv (addrBytes (hs.take (k + 1)))) := by
        rw [addrBytes_take hs k (by rw [HL.out]; exact hlt), HHK.out, List.length_append, bv_append]
        exact hown
      have HOF := Lib.hid hof
      have HBF := Lib.hid (((HBW.out.trans (HB3.out.mono HBW.out.size)).grown hgrow (Nat.le_trans HBW.out.size HB3.out.size) (fun g hg => (HOO.out.lt g hg).1)))
      clear hown hgrow _hat hof hle1 hle2 hlt3
      go_wp2_with fail
      go_roundw
      case rel => exact ⟨k + 1, by omega, by go_num, HOF.out, HBF.out⟩
      case measure => simp [intOf]; omega
    · obtain rfl : k = n := by omega
      have htk : hs.take k = hs := by rw [← HL.out]; exact List.take_length
      rw [htk] at HO
      clear htk
      go_wp2_with fail
      go_ret
      exact ⟨u3, rfl, HO.out, HB.out⟩
end Go.Proofs.YthpcfnegfdcbjaaGreatDoor

/- spec.AddrSplit: the address ahead of the ID that stands last, and the ID. -/
namespace Go.Proofs.YthpcfnegfdcbjaaGreatDoor
open Go.RowKit
attribute [local go_sem ↓] Go.wp_at_zero Go.wp_at_succ
/-- Two slices of bytes. -/
def OutBB (t u : List UInt8) (w : World) (e : Ending) (w' : World) : Prop :=
  ∃ A c B d, e = .returned (.tuple #[.slice A t.length c, .slice B u.length d]) ∧ RB w' w'.heap.size A t.length c t ∧ RB w' w'.heap.size B u.length d u ∧ Below w.heap.size w w'
/-- What stands ahead of the ID that stands last, and the ID. -/
def splitOf (hs : List Hop) (h : Hop) : List UInt8 × List UInt8 := if h.kd % 8 = 6 then (addrBytes hs, idOf h.l) else (addrBytes (hs ++ [h]), [])

set_option maxRecDepth 100000 in
set_option maxHeartbeats 2000000 in
theorem ssplit_other (A : Option Addr) (c : Nat) (hs : List Hop) (h : Hop) (w : World) (hh : HS w w.heap.size A (hs.length + 1) c (hs ++ [h])) (hn : hs.length ≤ 900) (hd : ∀ i (hi : i < (hs ++ [h]).length), ((hs ++ [h])[i]).n ≤ 100000) (hk : h.kd % 8 ≠ 6) :
    Calls Tryz.prog 26 #[.slice A (hs.length + 1) c] w (OutBB (addrBytes (hs ++ [h])) [] w) := by
  have HC := Lib.hid (addrof_any A _ c (hs ++ [h]) w hh (by omega) hd)
  obtain ⟨ad, rfl, hbk, c0, _, _⟩ := hh.at_ hs.length (by simp)
  have e1 : (hs ++ [h])[hs.length]'(by simp) = h := by simp
  rw [e1] at c0
  have k8 : ((h.kd : Int) % 8 == 6) = false := by simp; omega
  have k8' : ((h.kd : Int) % 8 != 6) = true := by simp; omega
  have k0 : (0 : Int) ≤ (hs.length : Int) := by omega
  have hz : IntKind.i64.wrap ((hs.length : Int) + 1 - 1) = (hs.length : Int) := by rw [show (hs.length : Int) + 1 - 1 = hs.length by omega]; exact IntWalk.i64_in _ (by omega)
  clear hh e1
  go_enter Tryz.func26, Tryz.ntmps26
  go_wp2_with fail
  refine HC.out.mono ?_
  rintro e w1 ⟨v, rfl, ho, hb⟩
  obtain ⟨A1, c1, rfl⟩ := own_slice ho
  have HR := Lib.hid (RB.of_own ho)
  have HB := Lib.hid hb
  clear ho hb
  go_wp2_with fail
  go_ret2
  exact ⟨A1, c1, none, 0, rfl, HR.out, RB.nil_ _ _, HB.out⟩

set_option maxRecDepth 100000 in
set_option maxHeartbeats 2000000 in
theorem ssplit_id (A : Option Addr) (c : Nat) (hs : List Hop) (h : Hop) (w : World) (hh : HS w w.heap.size A (hs.length + 1) c (hs ++ [h])) (hn : hs.length ≤ 900) (hd : ∀ i (hi : i < (hs ++ [h]).length), ((hs ++ [h])[i]).n ≤ 100000) (hk : h.kd % 8 = 6) :
    Calls Tryz.prog 26 #[.slice A (hs.length + 1) c] w (OutBB (addrBytes hs) (idOf h.l) w) := by
  have htk := hh.take (k := hs.length) (by omega)
  rw [List.take_left] at htk
  have hdi : ∀ i (hi : i < hs.length), (hs[i]).n ≤ 100000 := fun i hi => by have := hd i (by simp; omega); rwa [List.getElem_append_left hi] at this
  have hdl := hd hs.length (by simp)
  have hcap := hh.cap
  have hmax : c ≤ 9223372036854775807 := hh.max
  obtain ⟨ad, rfl, hbk, c0, c1, hr⟩ := hh.at_ hs.length (by simp)
  have e1 : (hs ++ [h])[hs.length]'(by simp) = h := by simp
  rw [e1] at c0 c1 hr hdl
  rw [add_succ _ _ 1 (by decide)] at c1
  have HTK := Lib.hid htk
  have HDI := Lib.hid hdi
  have HR := Lib.hid hr
  have k8 : ((h.kd : Int) % 8 == 6) = true := by simp; omega
  have k8' : ((h.kd : Int) % 8 != 6) = false := by simp; omega
  have k0 : (0 : Int) ≤ (hs.length : Int) := by omega
  have k1 : (hs.length : Int) ≤ (c : Int) := by omega
  have hz : IntKind.i64.wrap ((hs.length : Int) + 1 - 1) = (hs.length : Int) := by rw [show (hs.length : Int) + 1 - 1 = hs.length by omega]; exact IntWalk.i64_in _ (by omega)
  obtain ⟨aa, haa⟩ : ∃ aa, aa = ad.add (hs.length * 2) := ⟨_, rfl⟩
  have hblk : (⟨aa.block, aa.off + 1, none⟩ : Addr).block < w.heap.size := by rw [haa]; simp only [block_of_add]; exact hbk
  rw [← haa] at c0 c1
  have HAA := Lib.hid haa
  have haa' := haa.symm
  clear hh e1 htk hdi hr haa hd
  go_enter Tryz.func26, Tryz.ntmps26
  go_wp2_with fail
  go_region_held3 (fun w' => Below w.heap.size w w' ∧ w'.cell? ⟨aa.block, aa.off + 1, none⟩ = some (.slice h.A h.n h.c))
    (first | exact ⟨(Below.refl _ _).drew, c1⟩ | with_reducible assumption)
    (first
      | (go_at_call 8; have hS1 := ‹RowKit.Below w.heap.size w _ ∧ _›; refine (addrof_any _ hs.length c hs _ ((HTK.out.below hS1.1).more hS1.1.size) (by omega) HDI.out).mono ?_; rintro e w4 ⟨v4, rfl, ho4, hb4⟩; obtain ⟨A4, c4, rfl⟩ := own_slice ho4; have hR4 := RB.of_own ho4; have hS4 := keep1 hb4 hS1; clear hS1)
      | (go_at_call 37; have hS1 := ‹RowKit.Below w.heap.size w _ ∧ _›; refine (id_any h.A h.n h.c h.l _ ((HR.out.below hS1.1).more hS1.1.size) hdl).mono ?_; rintro e w5 ⟨v5, rfl, ho5, hb5⟩; obtain ⟨A5, c5, rfl⟩ := own_slice ho5; have hR5 := RB.of_own ho5; have hR6 := hR4.next hb5; have hS5 := keep1 hb5 hS1; clear hS1))
  have HR5 := Lib.hid hR5
  have HR6 := Lib.hid hR6
  have HB := Lib.hid hS5.1
  clear hR5 hR6 hS5 hR4 hS4 ho4 ho5 hb4 hb5
  go_wp2_with fail
  go_ret2
  exact ⟨A4, c4, A5, c5, rfl, HR6.out, HR5.out, HB.out⟩
end Go.Proofs.YthpcfnegfdcbjaaGreatDoor
