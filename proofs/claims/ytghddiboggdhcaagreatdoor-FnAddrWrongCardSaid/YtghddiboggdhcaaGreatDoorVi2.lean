/- spec.AddrID: what it returns. -/
import Derived.Test.YtghddiboggdhcaaGreatDoorXi
import Derived.Deep.Onto
import Derived.Deep.RegionWith
import Derived.Deep.RegionHeld3
import Derived.Deep.DrawnRows
import Derived.Test.YtghddiboggdhcaaGreatDoorXf
import Derived.Deep.DeepCutAuto
import Derived.Deep.CutBlock
set_option maxRecDepth 1000000
set_option maxHeartbeats 8000000
namespace Go.Proofs.YtghddiboggdhcaaGreatDoor
open Go.RowKit
def idOf (l : List UInt8) : List UInt8 := if l.length ≤ 42 then [0, UInt8.ofNat l.length] ++ l else [18, 32] ++ shaSum l
theorem OwnB.widen {l : List UInt8} {w w2 w' : World} {e : Ending} (h : OwnB l w2 e w') (hb : Below w.heap.size w w2) : OwnB l w e w' := by
  obtain ⟨v, he, ho, hb2⟩ := h
  exact ⟨v, he, ho.mono hb.size, hb.trans (hb2.mono hb.size)⟩
theorem cell_new2 (w : World) (a b : Obj) (cs : Array Value) (t : TypeId) (hb : b = .cells cs t) (k : Nat) : ((w.alloc a).alloc b).cell? ⟨w.heap.size + 1, k, none⟩ = cs[k]? := by
  subst hb
  have := (Blk.new_ (w := w.alloc a) (g := w.heap.size + 1) (World.size_alloc _ _) t cs).cell k
  exact this
theorem id_any (A : Option Addr) (n c : Nat) (l : List UInt8) (w : World) (hb : RB w w.heap.size A n c l) (hn : n ≤ 100000) :
    Calls Tryz.prog 35 #[.slice A n c] w (OwnB (idOf l) w) := by
  have HB := Lib.hid hb
  have HL := Lib.hid hb.len
  clear hb
  by_cases hlt : n ≤ 42
  · go_enter Tryz.func35, Tryz.ntmps35
    have ht : OwnB (idOf l) w = OwnB (partsBytes ([⟨some ⟨w.heap.size, 0, none⟩, 2, 2, [0, UInt8.ofNat n]⟩, ⟨A, n, c, l⟩] : List Part)) w := by
      rw [idOf, HL.out, if_pos hlt]; simp [partsBytes]
    rw [ht]
    have hx : bv [0, UInt8.ofNat n] = [Value.int .u8 0, Value.int .u8 n] := by simp [bv]; omega
    have hr0 := Lib.hid (RB.new w [0, UInt8.ofNat n] 5 (by simp [maxLen]))
    rw [hx] at hr0
    have HX := Lib.hid hx
    clear hx ht
    go_wp2_with (go_at_call 36; go_loud (refine (concat_any [⟨some ⟨w.heap.size, 0, none⟩, 2, 2, [0, UInt8.ofNat n]⟩, ⟨A, n, c, l⟩] (w.heap.size + 1) 2 _ ?c1 ?c2 ?c3 ?c4 ?c5).mono ?_))
    case c1 => intro k hk; rw [cell_new2 _ _ _ _ _ rfl]; match k, hk with | 0, _ => rfl | 1, _ => rfl
    case c2 => simp
    case c3 => simp
    case c4 =>
      intro p hp
      simp at hp
      rcases hp with rfl | rfl
      · exact (hr0.out.below ((Below.refl _ _).alloc (by simp) _)).more (by simp)
      · exact ((HB.out.below ((Below.refl _ _).alloc (Nat.le_refl _) _)).below ((Below.refl _ _).alloc (by simp) _)).more (by simp; omega)
    case c5 => simp [partsSize]; omega
    intro e w' ⟨v, he, ho, hb2⟩
    subst he
    have hbw : Below w.heap.size w ((w.alloc (.cells #[.int .u8 0, .int .u8 n] 5)).alloc (.cells #[.slice (some ⟨w.heap.size, 0, none⟩) 2 2, .slice A n c] 22)) := ((Below.refl _ w).alloc (Nat.le_refl _) _).alloc (by simp) _
    have hfin := Lib.hid (OwnB.widen (w := w) ⟨v, rfl, ho, hb2⟩ hbw)
    clear ho hb2 hbw
    go_wp2_with fail
    go_ret
    exact hfin.out
  · obtain ⟨sum, hsum⟩ : ∃ sum, sum = shaSum l := ⟨_, rfl⟩
    have hls : sum.length = 32 := by rw [hsum]; exact shaOut_length _ _
    have ht : idOf l = [18, 32] ++ sum := by rw [idOf, HL.out, if_neg hlt, hsum]
    rw [ht]
    have hc := sum_any A n c l w HB.out (by omega)
    rw [← hsum] at hc
    have HC := Lib.hid hc
    have HLS := Lib.hid hls
    clear hc hsum hls ht
    have sz32 : (bv sum).toArray.size = 32 := by rw [List.size_toArray, bv_length, HLS.out]
    go_enter Tryz.func35, Tryz.ntmps35
    go_wp2_with (first
      | (go_at_call 52; refine HC.out.mono ?_; rintro e w1 ⟨rfl, hb1⟩)
      | (rw [run_storeCells_new _ 109 _ (bv sum).toArray (by rw [sz32]; rfl) (by simp [bv, Value.oneCell'])])
      | (go_at_call 36; refine (concat_any [⟨some ⟨w1.heap.size + 1, 0, none⟩, 2, 2, [18, 32]⟩, ⟨some ⟨w1.heap.size, 0, none⟩, 32, 32, sum⟩] (w1.heap.size + 1 + 1) 2 _ ?c1 ?c2 ?c3 ?c4 ?c5).mono ?_))
    case c1 =>
      intro k hk
      rw [show w1.heap.size + 1 + 1 = (w1.alloc (.cells (bv sum).toArray 109)).heap.size + 1 by rw [World.size_alloc], cell_new2 _ _ _ _ _ rfl]
      match k, hk with | 0, _ => rfl | 1, _ => rfl
    case c2 => simp
    case c3 => simp
    case c4 =>
      intro p hp
      simp at hp
      rcases hp with rfl | rfl
      · have h0 := RB.new (w1.alloc (.cells (bv sum).toArray 109)) [18, 32] 5 (by simp [maxLen])
        rw [World.size_alloc] at h0
        exact (h0.below ((Below.refl _ _).alloc (by simp) _)).more (by simp)
      · have h0 := RB.new w1 sum 109 (by rw [HLS.out]; simp [maxLen])
        rw [HLS.out] at h0
        exact ((h0.below ((Below.refl _ _).alloc (by simp) _)).below ((Below.refl _ _).alloc (by simp) _)).more (by simp)
    case c5 => simp [partsSize]
    intro e w' ⟨v, he, ho, hb2⟩
    subst he
    have hbw : Below w.heap.size w (((w1.alloc (.cells (bv sum).toArray 109)).alloc (.cells #[.int .u8 18, .int .u8 32] 5)).alloc (.cells #[.slice (some ⟨w1.heap.size + 1, 0, none⟩) 2 2, .slice (some ⟨w1.heap.size, 0, none⟩) 32 32] 22)) :=
      ((hb1.alloc hb1.size _).alloc (by have := hb1.size; simp; omega) _).alloc (by have := hb1.size; simp; omega) _
    have hfin := Lib.hid (OwnB.widen (w := w) ⟨v, rfl, ho, hb2⟩ hbw)
    rw [show partsBytes [⟨some ⟨w1.heap.size + 1, 0, none⟩, 2, 2, [18, 32]⟩, ⟨some ⟨w1.heap.size, 0, none⟩, 32, 32, sum⟩] = [18, 32] ++ sum by simp [partsBytes]] at hfin
    clear ho hb2 hbw
    go_wp2_with fail
    go_ret
    exact hfin.out
end Go.Proofs.YtghddiboggdhcaaGreatDoor
/- spec.AddrHopBytes: what it returns. -/
namespace Go.Proofs.YtghddiboggdhcaaGreatDoor
open Go.RowKit
def hopBytes (kd : Nat) (l : List UInt8) : List UInt8 :=
  if kd % 8 = 0 then [4] ++ filled l 4 else if kd % 8 = 1 then [6] ++ filled l 2 else if kd % 8 = 2 then [145, 2] ++ filled l 2 else if kd % 8 = 3 then [205, 3] else if kd % 8 = 4 then [221, 3]
  else if kd % 8 = 5 then [162, 2] else if kd % 8 = 6 then [165, 3] ++ [UInt8.ofNat (idOf l).length] ++ idOf l else [41] ++ filled l 16
theorem own_below {w w' : World} {base : Nat} {e : TypeId} {size n : Nat} {v : Value} {xs : List Value} (h : w.ownsRow base e size v n xs) (hb : Below w.heap.size w w') : w'.ownsRow base e size v n xs :=
  h.kept (only_of_below hb none) (by cases hv : v.ownBlock with | none => exact .inl rfl | some k => exact .inr (by simp))
theorem hop_0 (kd : Nat) (A : Option Addr) (n c : Nat) (l : List UInt8) (w : World) (hb : RB w w.heap.size A n c l) (hk : kd % 8 = 0) :
    Calls Tryz.prog 23 #[.agg #[.int .u8 kd, .slice A n c]] w (OwnB ([4] ++ filled l 4) w) := by
  obtain ⟨i0, hi0, hz0, hz1, hz2⟩ := info_parts u8_info
  have HB := Lib.hid hb
  have HL := Lib.hid hb.len
  have e0 : (kd : Int) % 8 = 0 := by omega
  clear hb
  go_enter Tryz.func23, Tryz.ntmps23
  obtain ⟨w2, hw2⟩ : ∃ w2, w2 = w.alloc (.cells #[.int .u8 kd, .slice A n c] 39) := ⟨_, rfl⟩
  have hs2 : w2.heap.size = w.heap.size + 1 := by rw [hw2, World.size_alloc]
  have hb2 : Below w.heap.size w w2 := by rw [hw2]; exact (Below.refl _ w).alloc (Nat.le_refl _) _
  have hown0 : (w2.alloc (.cells #[.int .u8 4] 5)).ownsRow w.heap.size 5 1 (.slice (some ⟨w2.heap.size, 0, none⟩) 1 1) 1 [.int .u8 4] := World.ownsRow_lit w2 #[.int .u8 4] 1 (by omega) (by simp [maxLen]) rfl
  have hb3 : Below w.heap.size w (w2.alloc (.cells #[.int .u8 4] 5)) := hb2.alloc (by omega) _
  have hf := filled_any A n c 4 l (w2.alloc (.cells #[.int .u8 4] 5)) ((HB.out.below hb3).more hb3.size) (by omega) (by omega)
  have HF := Lib.hid hf
  have HO0 := Lib.hid hown0
  have HB3 := Lib.hid hb3
  have HS2 := Lib.hid hs2
  have HW2 := Lib.hid hw2
  clear hf hown0 hb3 hb2 hs2 hw2
  go_wp2_with (first
    | (go_at_call 33; rw [← HW2.out]; refine HF.out.mono ?_; rintro e w3 ⟨v3, rfl, ho3, hb4⟩; obtain ⟨A3, c3, rfl⟩ := own_slice ho3)
    | (at_builtin; go_loud (refine wpList_append_any _ rfl (.tmp 9) (.tmp 12) _ rfl w.heap.size 5 i0 _ 1 1 Tryz.underlying22 hi0 hz0 hz1 hz2 rfl (by decide) _ _ _ rfl (by rw [← HS2.out]; exact own_below HO0.out hb4) _ _ _ c3 _ rfl (RB.of_own ho3).reads (bv_one _) ?c1 ?c2 ?c3 ?_)))
  case c1 => rw [filled_length]; simp [maxLen]
  case c2 => rw [filled_length]; simp
  case c3 => exact Nat.le_trans HB3.out.size hb4.size
  intro v' w' hown hgrow _hat
  have hbf := Lib.hid (((HB3.out.trans (hb4.mono HB3.out.size)).grown hgrow (Nat.le_trans HB3.out.size hb4.size) (by intro k hk; simp [Value.ownBlock] at hk; omega)))
  have hof := Lib.hid (show w'.ownsRow w.heap.size 5 1 v' ([4] ++ filled l 4).length (bv ([4] ++ filled l 4)) by
    rw [List.length_append]; exact hown)
  clear hown hgrow _hat ho3 hb4
  go_wp2_with fail
  go_ret
  exact ⟨v', rfl, hof.out, hbf.out⟩
theorem hop_1 (kd : Nat) (A : Option Addr) (n c : Nat) (l : List UInt8) (w : World) (hb : RB w w.heap.size A n c l) (hk : kd % 8 = 1) :
    Calls Tryz.prog 23 #[.agg #[.int .u8 kd, .slice A n c]] w (OwnB ([6] ++ filled l 2) w) := by
  obtain ⟨i0, hi0, hz0, hz1, hz2⟩ := info_parts u8_info
  have HB := Lib.hid hb
  have HL := Lib.hid hb.len
  have e0 : (kd : Int) % 8 = 1 := by omega
  clear hb
  go_enter Tryz.func23, Tryz.ntmps23
  obtain ⟨w2, hw2⟩ : ∃ w2, w2 = w.alloc (.cells #[.int .u8 kd, .slice A n c] 39) := ⟨_, rfl⟩
  have hs2 : w2.heap.size = w.heap.size + 1 := by rw [hw2, World.size_alloc]
  have hb2 : Below w.heap.size w w2 := by rw [hw2]; exact (Below.refl _ w).alloc (Nat.le_refl _) _
  have hown0 : (w2.alloc (.cells #[.int .u8 6] 5)).ownsRow w.heap.size 5 1 (.slice (some ⟨w2.heap.size, 0, none⟩) 1 1) 1 [.int .u8 6] := World.ownsRow_lit w2 #[.int .u8 6] 1 (by omega) (by simp [maxLen]) rfl
  have hb3 : Below w.heap.size w (w2.alloc (.cells #[.int .u8 6] 5)) := hb2.alloc (by omega) _
  have hf := filled_any A n c 2 l (w2.alloc (.cells #[.int .u8 6] 5)) ((HB.out.below hb3).more hb3.size) (by omega) (by omega)
  have HF := Lib.hid hf
  have HO0 := Lib.hid hown0
  have HB3 := Lib.hid hb3
  have HS2 := Lib.hid hs2
  have HW2 := Lib.hid hw2
  clear hf hown0 hb3 hb2 hs2 hw2
  go_wp2_with (first
    | (go_at_call 33; rw [← HW2.out]; refine HF.out.mono ?_; rintro e w3 ⟨v3, rfl, ho3, hb4⟩; obtain ⟨A3, c3, rfl⟩ := own_slice ho3)
    | (at_builtin; go_loud (refine wpList_append_any _ rfl (.tmp 16) (.tmp 19) _ rfl w.heap.size 5 i0 _ 1 1 Tryz.underlying22 hi0 hz0 hz1 hz2 rfl (by decide) _ _ _ rfl (by rw [← HS2.out]; exact own_below HO0.out hb4) _ _ _ c3 _ rfl (RB.of_own ho3).reads (bv_one _) ?c1 ?c2 ?c3 ?_)))
  case c1 => rw [filled_length]; simp [maxLen]
  case c2 => rw [filled_length]; simp
  case c3 => exact Nat.le_trans HB3.out.size hb4.size
  intro v' w' hown hgrow _hat
  have hbf := Lib.hid (((HB3.out.trans (hb4.mono HB3.out.size)).grown hgrow (Nat.le_trans HB3.out.size hb4.size) (by intro k hk; simp [Value.ownBlock] at hk; omega)))
  have hof := Lib.hid (show w'.ownsRow w.heap.size 5 1 v' ([6] ++ filled l 2).length (bv ([6] ++ filled l 2)) by
    rw [List.length_append]; exact hown)
  clear hown hgrow _hat ho3 hb4
  go_wp2_with fail
  go_ret
  exact ⟨v', rfl, hof.out, hbf.out⟩
theorem hop_7 (kd : Nat) (A : Option Addr) (n c : Nat) (l : List UInt8) (w : World) (hb : RB w w.heap.size A n c l) (hk : kd % 8 = 7) :
    Calls Tryz.prog 23 #[.agg #[.int .u8 kd, .slice A n c]] w (OwnB ([41] ++ filled l 16) w) := by
  obtain ⟨i0, hi0, hz0, hz1, hz2⟩ := info_parts u8_info
  have HB := Lib.hid hb
  have HL := Lib.hid hb.len
  have e0 : (kd : Int) % 8 = 7 := by omega
  clear hb
  go_enter Tryz.func23, Tryz.ntmps23
  obtain ⟨w2, hw2⟩ : ∃ w2, w2 = w.alloc (.cells #[.int .u8 kd, .slice A n c] 39) := ⟨_, rfl⟩
  have hs2 : w2.heap.size = w.heap.size + 1 := by rw [hw2, World.size_alloc]
  have hb2 : Below w.heap.size w w2 := by rw [hw2]; exact (Below.refl _ w).alloc (Nat.le_refl _) _
  have hown0 : (w2.alloc (.cells #[.int .u8 41] 5)).ownsRow w.heap.size 5 1 (.slice (some ⟨w2.heap.size, 0, none⟩) 1 1) 1 [.int .u8 41] := World.ownsRow_lit w2 #[.int .u8 41] 1 (by omega) (by simp [maxLen]) rfl
  have hb3 : Below w.heap.size w (w2.alloc (.cells #[.int .u8 41] 5)) := hb2.alloc (by omega) _
  have hf := filled_any A n c 16 l (w2.alloc (.cells #[.int .u8 41] 5)) ((HB.out.below hb3).more hb3.size) (by omega) (by omega)
  have HF := Lib.hid hf
  have HO0 := Lib.hid hown0
  have HB3 := Lib.hid hb3
  have HS2 := Lib.hid hs2
  have HW2 := Lib.hid hw2
  clear hf hown0 hb3 hb2 hs2 hw2
  go_wp2_with (first
    | (go_at_call 33; rw [← HW2.out]; refine HF.out.mono ?_; rintro e w3 ⟨v3, rfl, ho3, hb4⟩; obtain ⟨A3, c3, rfl⟩ := own_slice ho3)
    | (at_builtin; go_loud (refine wpList_append_any _ rfl (.tmp 49) (.tmp 52) _ rfl w.heap.size 5 i0 _ 1 1 Tryz.underlying22 hi0 hz0 hz1 hz2 rfl (by decide) _ _ _ rfl (by rw [← HS2.out]; exact own_below HO0.out hb4) _ _ _ c3 _ rfl (RB.of_own ho3).reads (bv_one _) ?c1 ?c2 ?c3 ?_)))
  case c1 => rw [filled_length]; simp [maxLen]
  case c2 => rw [filled_length]; simp
  case c3 => exact Nat.le_trans HB3.out.size hb4.size
  intro v' w' hown hgrow _hat
  have hbf := Lib.hid (((HB3.out.trans (hb4.mono HB3.out.size)).grown hgrow (Nat.le_trans HB3.out.size hb4.size) (by intro k hk; simp [Value.ownBlock] at hk; omega)))
  have hof := Lib.hid (show w'.ownsRow w.heap.size 5 1 v' ([41] ++ filled l 16).length (bv ([41] ++ filled l 16)) by
    rw [List.length_append]; exact hown)
  clear hown hgrow _hat ho3 hb4
  go_wp2_with fail
  go_ret
  exact ⟨v', rfl, hof.out, hbf.out⟩
theorem hop_3 (kd : Nat) (A : Option Addr) (n c : Nat) (w : World) (hk : kd % 8 = 3) :
    Calls Tryz.prog 23 #[.agg #[.int .u8 kd, .slice A n c]] w (OwnB [205, 3] w) := by
  have e0 : (kd : Int) % 8 = 3 := by omega
  go_enter Tryz.func23, Tryz.ntmps23
  go_wp2_with (first
    | (go_at_call 34; refine (number_461 _).mono ?_; intro e w3 hof; have hf := Lib.hid (OwnB.widen hof ((Below.refl _ w).alloc (Nat.le_refl _) _)); clear hof; obtain ⟨v3, rfl, _⟩ := hf.out))
  go_ret
  exact hf.out
theorem hop_4 (kd : Nat) (A : Option Addr) (n c : Nat) (w : World) (hk : kd % 8 = 4) :
    Calls Tryz.prog 23 #[.agg #[.int .u8 kd, .slice A n c]] w (OwnB [221, 3] w) := by
  have e0 : (kd : Int) % 8 = 4 := by omega
  go_enter Tryz.func23, Tryz.ntmps23
  go_wp2_with (first
    | (go_at_call 34; refine (number_477 _).mono ?_; intro e w3 hof; have hf := Lib.hid (OwnB.widen hof ((Below.refl _ w).alloc (Nat.le_refl _) _)); clear hof; obtain ⟨v3, rfl, _⟩ := hf.out))
  go_ret
  exact hf.out
theorem hop_5 (kd : Nat) (A : Option Addr) (n c : Nat) (w : World) (hk : kd % 8 = 5) :
    Calls Tryz.prog 23 #[.agg #[.int .u8 kd, .slice A n c]] w (OwnB [162, 2] w) := by
  have e0 : (kd : Int) % 8 = 5 := by omega
  go_enter Tryz.func23, Tryz.ntmps23
  go_wp2_with (first
    | (go_at_call 34; refine (number_290 _).mono ?_; intro e w3 hof; have hf := Lib.hid (OwnB.widen hof ((Below.refl _ w).alloc (Nat.le_refl _) _)); clear hof; obtain ⟨v3, rfl, _⟩ := hf.out))
  go_ret
  exact hf.out
theorem idOf_length (l : List UInt8) : (idOf l).length ≤ 44 := by
  unfold idOf
  split
  · simp; omega
  · simp [shaSum, shaOut_length]
theorem cell_new1 (w : World) (cs : Array Value) (t : TypeId) (k : Nat) : (w.alloc (.cells cs t)).cell? ⟨w.heap.size, k, none⟩ = cs[k]? := (Blk.new w t cs).cell k
theorem hop_6 (kd : Nat) (A : Option Addr) (n c : Nat) (l : List UInt8) (w : World) (hb : RB w w.heap.size A n c l) (hk : kd % 8 = 6) (hn : n ≤ 100000) :
    Calls Tryz.prog 23 #[.agg #[.int .u8 kd, .slice A n c]] w (OwnB ([165, 3] ++ [UInt8.ofNat (idOf l).length] ++ idOf l) w) := by
  have HB := Lib.hid hb
  have e0 : (kd : Int) % 8 = 6 := by omega
  clear hb
  obtain ⟨w2, hw2⟩ : ∃ w2, w2 = w.alloc (.cells #[.int .u8 kd, .slice A n c] 39) := ⟨_, rfl⟩
  have hs2 : w2.heap.size = w.heap.size + 1 := by rw [hw2, World.size_alloc]
  have hb2 : Below w.heap.size w w2 := by rw [hw2]; exact (Below.refl _ w).alloc (Nat.le_refl _) _
  have HI := Lib.hid (id_any A n c l w2 ((HB.out.below hb2).more hb2.size) hn)
  obtain ⟨id, hid⟩ : ∃ id, id = idOf l := ⟨_, rfl⟩
  have hil : id.length ≤ 44 := by rw [hid]; exact idOf_length l
  rw [← hid] at HI ⊢
  have HB2 := Lib.hid hb2
  have HW2 := Lib.hid hw2
  clear hb2 hs2 hw2 hid
  go_enter Tryz.func23, Tryz.ntmps23
  go_wp2_with (first
    | (go_at_call 35; rw [← HW2.out]; refine HI.out.mono ?_; rintro e w3 ⟨v3, rfl, ho3, hb3⟩; obtain ⟨A3, c3, rfl⟩ := own_slice ho3)
    | (go_at_call_of 34 (Value.int .i64 421); refine (number_421 _).mono ?_; rintro e w4 ⟨v4, rfl, ho4, hb4⟩; obtain ⟨A4, c4, rfl⟩ := own_slice ho4)
    | (go_at_call_of 34 (id.length : Int); refine (number_small id.length _ (by omega)).mono ?_; rintro e w5 ⟨v5, rfl, ho5, hb5⟩; obtain ⟨A5, c5, rfl⟩ := own_slice ho5)
    | (go_at_call 36; refine (concat_any [⟨A4, 2, c4, [165, 3]⟩, ⟨A5, 1, c5, [UInt8.ofNat id.length]⟩, ⟨A3, id.length, c3, id⟩] w5.heap.size 3 _ ?c1 ?c2 ?c3 ?c4 ?c5).mono ?_))
  case c1 =>
    intro k hk
    rw [cell_new1]
    match k, hk with | 0, _ => rfl | 1, _ => rfl | 2, _ => rfl
  case c2 => simp
  case c3 => simp
  case c4 =>
    intro p hp
    simp at hp
    have r3 := (RB.of_own ho3).next hb4 |>.next hb5 |>.next ((Below.refl _ w5).alloc (Nat.le_refl _) (.cells #[.slice A4 2 c4, .slice A5 1 c5, .slice A3 id.length c3] 22))
    have r4 := (RB.of_own ho4).next hb5 |>.next ((Below.refl _ w5).alloc (Nat.le_refl _) (.cells #[.slice A4 2 c4, .slice A5 1 c5, .slice A3 id.length c3] 22))
    have r5 := (RB.of_own ho5).next ((Below.refl _ w5).alloc (Nat.le_refl _) (.cells #[.slice A4 2 c4, .slice A5 1 c5, .slice A3 id.length c3] 22))
    rcases hp with rfl | rfl | rfl
    · exact r4
    · exact r5
    · exact r3
  case c5 => simp [partsSize]; omega
  intro e w' ⟨v, he, ho, hb6⟩
  subst he
  have s3 : Below w.heap.size w w3 := HB2.out.trans (hb3.mono HB2.out.size)
  have s4 : Below w.heap.size w w4 := s3.trans (hb4.mono s3.size)
  have s5 : Below w.heap.size w w5 := s4.trans (hb5.mono s4.size)
  have hfin := Lib.hid (OwnB.widen (w := w) ⟨v, rfl, ho, hb6⟩ (s5.alloc s5.size _))
  rw [show partsBytes [⟨A4, 2, c4, [165, 3]⟩, ⟨A5, 1, c5, [UInt8.ofNat id.length]⟩, ⟨A3, id.length, c3, id⟩] = [165, 3] ++ [UInt8.ofNat id.length] ++ id by simp [partsBytes]] at hfin
  clear ho hb6 s3 s4 s5
  go_wp2_with fail
  go_ret
  exact hfin.out
end Go.Proofs.YtghddiboggdhcaaGreatDoor
/- spec.AddrHopBytes, kind 2 (a region that draws its order); all kinds. -/
namespace Go.Proofs.YtghddiboggdhcaaGreatDoor
open Go.RowKit
attribute [local go_sem ↓] Go.wp_at_zero Go.wp_at_succ
theorem own_base {w : World} {B B' : Nat} {e : TypeId} {size n : Nat} {v : Value} {xs : List Value} (h : w.ownsRow B e size v n xs) (hB : B' ≤ B) : w.ownsRow B' e size v n xs :=
  ⟨h.1, h.2.imp id fun ⟨g, cap, cur, hv, hg, r⟩ => ⟨g, cap, cur, hv, Nat.le_trans hB hg, r⟩⟩
theorem keepg {w w1 w2 : World} {a0 : Addr} {v0 : Value} {row : Option Nat} (h : Below w.heap.size w w1 ∧ w1.cell? a0 = some v0) (hlt : a0.block < w.heap.size) (hg : w1.grownBy w2 row) (hr : ∀ k, row = some k → w.heap.size ≤ k) : Below w.heap.size w w2 ∧ w2.cell? a0 = some v0 := by
  have hb := h.1.grown hg h.1.size hr
  exact ⟨hb, (hb.cell hlt).trans ((h.1.cell hlt).symm.trans h.2)⟩
theorem keep1 {w w1 w2 : World} {a0 : Addr} {v0 : Value} (hb : Below w1.heap.size w1 w2) (h : Below w.heap.size w w1 ∧ w1.cell? a0 = some v0) : Below w.heap.size w w2 ∧ w2.cell? a0 = some v0 :=
  ⟨h.1.trans (hb.mono h.1.size), (hb.cell (World.block_lt_of_cell? _ _ h.2)).trans h.2⟩
theorem hop_2 (kd : Nat) (A : Option Addr) (n c : Nat) (l : List UInt8) (w0 : World) (hb : RB w0 w0.heap.size A n c l) (hk : kd % 8 = 2) :
    Calls Tryz.prog 23 #[.agg #[.int .u8 kd, .slice A n c]] w0 (OwnB ([145, 2] ++ filled l 2) w0) := by
  obtain ⟨i0, hi0, hz0, hz1, hz2⟩ := info_parts u8_info
  have e0 : (kd : Int) % 8 = 2 := by omega
  obtain ⟨w, hw⟩ : ∃ w, w = w0.alloc (.cells #[.int .u8 kd, .slice A n c] 39) := ⟨_, rfl⟩
  have hs : w.heap.size = w0.heap.size + 1 := by rw [hw, World.size_alloc]
  have hb0 : Below w0.heap.size w0 w := by rw [hw]; exact (Below.refl _ w0).alloc (Nat.le_refl _) _
  have c1 : w.cell? ⟨w0.heap.size, 1, none⟩ = some (.slice A n c) := by rw [hw]; exact (Blk.new w0 39 #[.int .u8 kd, .slice A n c]).cell 1
  have HR := Lib.hid ((hb.below hb0).more hb0.size)
  have HB0 := Lib.hid hb0
  have HW := Lib.hid hw
  clear hb hb0 hw
  go_enter Tryz.func23, Tryz.ntmps23
  go_wp2_with fail
  rw [← HW.out]
  go_region_held3 (fun w' => Below w.heap.size w w' ∧ w'.cell? ⟨w0.heap.size, 1, none⟩ = some (.slice A n c))
    (first | exact ⟨(Below.refl _ _).drew, c1⟩ | with_reducible assumption)
    (first
      | (go_at_call 34; have hS1 := ‹RowKit.Below w.heap.size w _ ∧ _›; refine (number_273 _).mono ?_; rintro e w4 ⟨v4, rfl, ho4, hb4⟩; obtain ⟨A4, c4, rfl⟩ := own_slice ho4; have hS4 := keep1 hb4 hS1; have hS0 := hS1; clear hS1)
      | (go_at_call 33; have hS1 := ‹RowKit.Below w.heap.size w _ ∧ _›; refine (filled_any A n c 2 l _ ((HR.out.below hS1.1).more hS1.1.size) (by omega) (by omega)).mono ?_; rintro e w5 ⟨v5, rfl, ho5, hb5⟩; obtain ⟨A5, c5, rfl⟩ := own_slice ho5; have ho6 := own_below ho4 hb5; have hS5 := keep1 hb5 hS1; clear hS1)
      | (refine step_append_any _ rfl _ _ _ rfl _ 5 i0 _ 1 1 Tryz.underlying22 hi0 hz0 hz1 hz2 rfl (by decide) _ _ _ rfl ho6 _ _ _ c5 _ rfl (RB.of_own ho5).reads (bv_one _) (by rw [filled_length]; simp [maxLen]) (by rw [filled_length]; simp) (by have := ‹RowKit.Below w.heap.size w w5 ∧ _›.1.size; simp; omega) ?_; intro v' w' hown hgrow _hat; have hS6 := keepg hS5 (by simp [hs]) hgrow (fun k hk => Nat.le_trans hS0.1.size (ho6.lt k hk).1)))
  have hbf := HB0.out.trans (hS6.1.mono HB0.out.size)
  have HBF := Lib.hid hbf
  have HOF := Lib.hid hown
  clear hbf hown
  go_wp2_with fail
  go_ret
  refine ⟨v', rfl, ?_, HBF.out⟩
  have hl : ([145, 2] ++ filled l 2).length = 2 + (filled l 2).length := List.length_append
  have hfin := own_base HOF.out (Nat.le_trans HB0.out.size hS0.1.size)
  have hfin2 : w'.ownsRow w0.heap.size 5 1 v' ([145, 2] ++ filled l 2).length (bv ([145, 2] ++ filled l 2)) := by
    rw [hl, bv_append]; exact hfin
  exact hfin2
theorem hop_any (kd : Nat) (A : Option Addr) (n c : Nat) (l : List UInt8) (w : World) (hb : RB w w.heap.size A n c l) (hn : n ≤ 100000) :
    Calls Tryz.prog 23 #[.agg #[.int .u8 kd, .slice A n c]] w (OwnB (hopBytes kd l) w) := by
  have h8 : kd % 8 = 0 ∨ kd % 8 = 1 ∨ kd % 8 = 2 ∨ kd % 8 = 3 ∨ kd % 8 = 4 ∨ kd % 8 = 5 ∨ kd % 8 = 6 ∨ kd % 8 = 7 := by omega
  unfold hopBytes
  rcases h8 with h | h | h | h | h | h | h | h <;> simp only [h, if_true, if_false, Nat.reduceEqDiff, Nat.succ_ne_zero]
  · exact hop_0 kd A n c l w hb h
  · exact hop_1 kd A n c l w hb h
  · exact hop_2 kd A n c l w hb h
  · exact hop_3 kd A n c w h
  · exact hop_4 kd A n c w h
  · exact hop_5 kd A n c w h
  · exact hop_6 kd A n c l w hb h hn
  · exact hop_7 kd A n c l w hb h
theorem hopBytes_le (kd : Nat) (l : List UInt8) : 2 ≤ (hopBytes kd l).length ∧ (hopBytes kd l).length ≤ 50 := by
  have := idOf_length l
  have h2 : 2 ≤ (idOf l).length := by unfold idOf; split <;> simp
  have f2 := filled_length l 2
  have f4 := filled_length l 4
  have f16 := filled_length l 16
  unfold hopBytes
  repeat' split
  all_goals (try simp only [List.length_append, List.length_cons, List.length_nil]); (try omega)
  all_goals simp
end Go.Proofs.YtghddiboggdhcaaGreatDoor
/- spec.AddrOf: the bytes of parts one after the other. -/
namespace Go.Proofs.YtghddiboggdhcaaGreatDoor
open Go.RowKit
structure Hop where
  kd : Nat
  A : Option Addr
  n : Nat
  c : Nat
  l : List UInt8
def Hop.bytes (h : Hop) : List UInt8 := hopBytes h.kd h.l
def addrBytes (hs : List Hop) : List UInt8 := hs.flatMap Hop.bytes
structure HS (w : World) (B : Nat) (A : Option Addr) (n c : Nat) (hs : List Hop) : Prop where
  len : hs.length = n
  cap : n ≤ c
  max : c ≤ maxLen
  at_ : ∀ i (hi : i < hs.length), ∃ ad, A = some ad ∧ ad.block < B ∧ w.cell? (ad.add (i * 2)) = some (.int .u8 (hs[i]).kd) ∧ w.cell? (ad.add (i * 2 + 1)) = some (.slice (hs[i]).A (hs[i]).n (hs[i]).c) ∧ RB w B (hs[i]).A (hs[i]).n (hs[i]).c (hs[i]).l
theorem HS.below {w w' : World} {B : Nat} {A : Option Addr} {n c : Nat} {hs : List Hop} (h : HS w B A n c hs) (hb : Below B w w') : HS w' B A n c hs :=
  ⟨h.len, h.cap, h.max, fun i hi => by
    obtain ⟨ad, e, hlt, c0, c1, hr⟩ := h.at_ i hi
    exact ⟨ad, e, hlt, (hb.cell (by rw [block_of_add]; exact hlt)).trans c0, (hb.cell (by rw [block_of_add]; exact hlt)).trans c1, hr.below hb⟩⟩
theorem HS.more {w : World} {B B' : Nat} {A : Option Addr} {n c : Nat} {hs : List Hop} (h : HS w B A n c hs) (hB : B ≤ B') : HS w B' A n c hs :=
  ⟨h.len, h.cap, h.max, fun i hi => by
    obtain ⟨ad, e, hlt, c0, c1, hr⟩ := h.at_ i hi
    exact ⟨ad, e, by omega, c0, c1, hr.more hB⟩⟩
theorem HS.take {w : World} {B : Nat} {A : Option Addr} {n c : Nat} {hs : List Hop} (h : HS w B A n c hs) {k : Nat} (hk : k ≤ n) : HS w B A k c (hs.take k) :=
  ⟨by rw [List.length_take, h.len]; exact Nat.min_eq_left hk, Nat.le_trans hk h.cap, h.max, fun i hi => by
    have h1 : i < hs.length := by rw [List.length_take] at hi; omega
    rw [List.getElem_take]
    exact h.at_ i h1⟩
theorem addrBytes_take (hs : List Hop) (k : Nat) (h : k < hs.length) : addrBytes (hs.take (k + 1)) = addrBytes (hs.take k) ++ (hs[k]).bytes := by
  unfold addrBytes
  rw [List.take_succ_eq_append_getElem h, List.flatMap_append]
  simp
theorem addrBytes_le (hs : List Hop) : (addrBytes hs).length ≤ 50 * hs.length := by
  induction hs with
  | nil => simp [addrBytes]
  | cons h hs ih =>
    have := (hopBytes_le h.kd h.l).2
    unfold addrBytes at *
    simp only [List.flatMap_cons, List.length_append, List.length_cons, Hop.bytes]
    omega
theorem add_succ (ad : Addr) (m j : Nat) (hj : j ≠ 0) : ad.add (m + j) = ⟨(ad.add m).block, (ad.add m).off + j, none⟩ := by
  rw [← add_of_add, Addr.add, if_neg hj]
theorem addrof_any (A : Option Addr) (n c : Nat) (hs : List Hop) (w : World) (h : HS w w.heap.size A n c hs) (hn : n ≤ 1000) (hd : ∀ i (hi : i < hs.length), (hs[i]).n ≤ 100000) :
    Calls Tryz.prog 11 #[.slice A n c] w (OwnB (addrBytes hs) w) := by
  obtain ⟨i0, hi0, hz0, hz1, hz2⟩ := info_parts u8_info
  have HH := Lib.hid h
  have HD := Lib.hid hd
  have HL := Lib.hid h.len
  have hlen : hs.length ≤ 1000 := by rw [h.len]; exact hn
  clear h hd
  go_enter Tryz.func11, Tryz.ntmps11
  go_wp2_with fail
  go_loopw [3, 8] (fun v i wr => ∃ k : Nat, k ≤ n ∧ i = .int .i64 k ∧ wr.ownsRow w.heap.size 5 1 v (addrBytes (hs.take k)).length (bv (addrBytes (hs.take k))) ∧ Below w.heap.size w wr) (fun _ i _ => n - (intOf i).toNat)
  case atStart => exact ⟨0, by omega, rfl, World.ownsRow_nil _ _ _ _, Below.refl _ _⟩
  case round =>
    obtain ⟨k, hk, rfl, hown, hb⟩ := hrel
    have HO := Lib.hid hown
    have HB := Lib.hid hb
    clear hown hb
    by_cases hlt : k < n
    · obtain ⟨ad, rfl, hbk, c0, c1, hr⟩ := (HH.out.below HB.out).at_ k (by rw [HL.out]; exact hlt)
      have HR := Lib.hid hr
      clear hr
      have hnk := HD.out k (by rw [HL.out]; exact hlt)
      generalize hhk : hs[k]'(by rw [HL.out]; exact hlt) = hp at *
      have HHK := Lib.hid hhk
      clear hhk
      rw [add_succ _ _ 1 (by decide)] at c1
      have hbw : Below w.heap.size w (wr.alloc (.cells #[.int .u8 hp.kd, .slice hp.A hp.n hp.c] 39)) := HB.out.alloc HB.out.size _
      have HBW := Lib.hid hbw
      clear hbw
      go_wp2_with fail
      refine (hop_any hp.kd hp.A hp.n hp.c hp.l _ ((HR.out.more HB.out.size).next ((Below.refl _ _).alloc (Nat.le_refl _) _)) hnk).mono ?_
      rintro e w3 ⟨v3, rfl, ho3, hb3⟩
      obtain ⟨A3, c3, rfl⟩ := own_slice ho3
      have HO3 := Lib.hid ho3
      have HB3 := Lib.hid hb3
      have HOO := Lib.hid (own_below HO.out (((Below.refl _ wr).alloc (Nat.le_refl _) (.cells #[.int .u8 hp.kd, .slice hp.A hp.n hp.c] 39)).trans (hb3.mono (by simp))))
      have hle1 := addrBytes_le (hs.take k)
      have hle2 := (hopBytes_le hp.kd hp.l).2
      have hlt3 : (hs.take k).length ≤ 1000 := by rw [List.length_take]; omega
      clear ho3 hb3
      go_wp2_with (at_builtin; refine wpList_append_any _ rfl (.tmp 12) (.tmp 14) _ rfl w.heap.size 5 i0 _ 1 1 Tryz.underlying22 hi0 hz0 hz1 hz2 rfl (by decide) _ _ _ rfl HOO.out _ _ _ c3 _ rfl (RB.of_own HO3.out).reads (bv_one _) ?c1 ?c2 ?c3 ?_)
      case c1 => unfold maxLen; omega
      case c2 => omega
      case c3 => exact Nat.le_trans HBW.out.size HB3.out.size
      intro v' w' hown hgrow _hat
      have hof : w'.ownsRow w.heap.size 5 1 v' (addrBytes (hs.take (k + 1))).length (bv (addrBytes (hs.take (k + 1)))) := by
        rw [addrBytes_take hs k (by rw [HL.out]; exact hlt), HHK.out, List.length_append, bv_append]
        exact hown
      have HOF := Lib.hid hof
      have HBF := Lib.hid (((HBW.out.trans (HB3.out.mono HBW.out.size)).grown hgrow (Nat.le_trans HBW.out.size HB3.out.size) (fun g hg => (HOO.out.lt g hg).1)))
      clear hown hgrow _hat hof hle1 hle2 hlt3
      go_wp2_with fail
      go_roundw
      case rel => exact ⟨k + 1, by omega, by go_num, HOF.out, HBF.out⟩
      case measure => simp [intOf]; omega
    · obtain rfl : k = n := by omega
      have htk : hs.take k = hs := by rw [← HL.out]; exact List.take_length
      rw [htk] at HO
      clear htk
      go_wp2_with fail
      go_ret
      exact ⟨u3, rfl, HO.out, HB.out⟩
end Go.Proofs.YtghddiboggdhcaaGreatDoor
/- readComponent at any part of an address; readMultiaddr: all of them, in their order. -/
namespace Go.Proofs.YtghddiboggdhcaaGreatDoor
open Go.RowKit
variable {K : Nat}
def codeOf (kd : Nat) : Nat := if kd % 8 = 0 then 4 else if kd % 8 = 1 then 6 else if kd % 8 = 2 then 273 else if kd % 8 = 3 then 461 else if kd % 8 = 4 then 477 else if kd % 8 = 5 then 290 else if kd % 8 = 6 then 421 else 41
def vsOf (kd : Nat) : Nat := if kd % 8 = 0 then 1 else if kd % 8 = 1 then 1 else if kd % 8 = 2 then 2 else if kd % 8 = 3 then 2 else if kd % 8 = 4 then 2 else if kd % 8 = 5 then 2 else if kd % 8 = 6 then 3 else 1
theorem id_form (l : List UInt8) : ∃ (x y : UInt8) (v : Nat) (d : List UInt8), idOf l = x :: y :: d ∧ x.toNat = v ∧ y.toNat = d.length ∧ d.length ≤ 42 ∧ (v = 0 ∨ v = 18 ∧ d.length = 32) := by
  unfold idOf
  split
  · exact ⟨0, UInt8.ofNat l.length, 0, l, rfl, rfl, by simp; omega, by omega, Or.inl rfl⟩
  · have hs : (shaSum l).length = 32 := by unfold shaSum; exact shaOut_length _ _
    generalize shaSum l = s at hs
    exact ⟨18, 32, 18, s, rfl, rfl, by rw [hs]; rfl, by omega, Or.inr ⟨rfl, hs⟩⟩
def HopOk (K kd : Nat) (l : List UInt8) : Prop := 65536 ≤ K ∨ ((kd % 8 = 0 → ∀ b ∈ filled l 4, b.toNat < K) ∧ (kd % 8 = 1 ∨ kd % 8 = 2 → Lib.beNat (filled l 2) < K) ∧ kd % 8 ≠ 7)
theorem HopOk.ip {K kd : Nat} {l : List UInt8} (h : HopOk K kd l) (e : kd % 8 = 0) : ∀ b ∈ filled l 4, b.toNat < K := by
  rcases h with h | h
  · exact fun b _ => Nat.lt_of_lt_of_le b.toNat_lt (by omega)
  · exact h.1 e
theorem HopOk.port {K kd : Nat} {l : List UInt8} (h : HopOk K kd l) (e : kd % 8 = 1 ∨ kd % 8 = 2) : Lib.beNat (filled l 2) < K := by
  rcases h with h | h
  · have f2 := filled_length l 2
    generalize filled l 2 = d at f2
    match d, f2 with
    | [b0, b1], _ => exact Nat.lt_of_lt_of_le (beNat_lt b0 b1) h
  · exact h.2.1 e
theorem HopOk.six {K kd : Nat} {l : List UInt8} (h : HopOk K kd l) (e : kd % 8 = 7) : 256 ≤ K := by
  rcases h with h | h
  · omega
  · exact absurd e h.2.2
theorem HopOk.id {K kd : Nat} {l : List UInt8} (e : kd % 8 = 6) : HopOk K kd l := Or.inr ⟨fun h => by omega, fun h => by omega, by omega⟩
theorem read_hop (kd : Nat) (l : List UInt8) (A : Option Addr) (c : Nat) (rs : List UInt8) (w : World) (ht : Tab K w) (hok : HopOk K kd l) (h : RB w w.heap.size A (rs.length + (hopBytes kd l).length) c (hopBytes kd l ++ rs)) :
    Calls Tryz.prog 54 #[.slice A (rs.length + (hopBytes kd l).length) c] w (OutC (codeOf kd) (hopBytes kd l) (vsOf kd) (hopBytes kd l).length w) := by
  have h8 : kd % 8 = 0 ∨ kd % 8 = 1 ∨ kd % 8 = 2 ∨ kd % 8 = 3 ∨ kd % 8 = 4 ∨ kd % 8 = 5 ∨ kd % 8 = 6 ∨ kd % 8 = 7 := by omega
  have f2 := filled_length l 2
  have f4 := filled_length l 4
  have f16 := filled_length l 16
  have k4 := hok.ip
  have k2 := hok.port
  have k16 := hok.six
  clear hok
  unfold hopBytes at h ⊢
  unfold codeOf vsOf
  rcases h8 with e | e | e | e | e | e | e | e <;> simp only [e, if_true, if_false, Nat.reduceEqDiff, Nat.succ_ne_zero] at h ⊢
  · have hl : ([4] ++ filled l 4).length = 5 := by simp [f4]
    rw [hl] at h ⊢
    exact read_4 A c _ rs w ht h f4 (k4 e)
  · have hl : ([6] ++ filled l 2).length = 3 := by simp [f2]
    rw [hl] at h ⊢
    exact read_6 A c _ rs w ht h f2 (k2 (Or.inl e))
  · have hl : ([145, 2] ++ filled l 2).length = 4 := by simp [f2]
    rw [hl] at h ⊢
    exact read_273 A c _ rs w ht h f2 (k2 (Or.inr e))
  · exact read_461 A c rs w ht h
  · exact read_477 A c rs w ht h
  · exact read_290 A c rs w ht h
  · obtain ⟨x, y, v, d, hid, hx, hy, hd, hv⟩ := id_form l
    rw [hid] at h ⊢
    have hl : ([165, 3] ++ [UInt8.ofNat (x :: y :: d).length] ++ x :: y :: d).length = d.length + 5 := by simp
    rw [hl] at h ⊢
    exact read_421 A c x y (UInt8.ofNat (x :: y :: d).length) v d rs w ht h (by simp; omega) hx hy hd hv
  · have hl : ([41] ++ filled l 16).length = 17 := by simp [f16]
    rw [hl] at h ⊢
    exact read_41 A c _ rs w ht h f16 (k16 e)
end Go.Proofs.YtghddiboggdhcaaGreatDoor
/- readMultiaddr: the components of an address, in their order. -/
namespace Go.Proofs.YtghddiboggdhcaaGreatDoor
open Go.RowKit
variable {K : Nat}
def compCells (cs : List (Hop × Nat)) : List Value := cs.flatMap fun x => [.string ⟨x.1.bytes.toArray⟩, .pointer (some ⟨x.2, 0, none⟩), .int .i64 (vsOf x.1.kd)]
def PR (w : World) (cs : List (Hop × Nat)) : Prop := ∀ x ∈ cs, ∃ g, Blk w x.2 77 (pcells (codeOf x.1.kd) g)
theorem PR.below {w w' : World} {cs : List (Hop × Nat)} (h : PR w cs) (hb : Below w.heap.size w w') : PR w' cs := fun x hx => by
  obtain ⟨g, hg⟩ := h x hx
  exact ⟨g, hg.below hb hg.lt⟩
theorem PR.grown {w w' : World} {cs : List (Hop × Nat)} {base n : Nat} {v : Value} {xs : List Value} (h : PR w cs) (ho : w.ownsRow base 81 3 v n xs) (hg : w.grownBy w' v.ownBlock) : PR w' cs := fun x hx => by
  obtain ⟨g, hk⟩ := h x hx
  exact ⟨g, hk.grown hg (fun e => own_blk_ne ho hk (by decide) e.symm)⟩
theorem PR.snoc {w : World} {cs : List (Hop × Nat)} (h : PR w cs) {x : Hop × Nat} {g : Nat} (hx : Blk w x.2 77 (pcells (codeOf x.1.kd) g)) : PR w (cs ++ [x]) := fun y hy => by
  rcases List.mem_append.1 hy with hy | hy
  · exact h y hy
  · simp at hy; subst hy; exact ⟨g, hx⟩
theorem compCells_snoc (cs : List (Hop × Nat)) (x : Hop × Nat) : compCells (cs ++ [x]) = compCells cs ++ [.string ⟨x.1.bytes.toArray⟩, .pointer (some ⟨x.2, 0, none⟩), .int .i64 (vsOf x.1.kd)] := by
  simp [compCells]
theorem compCells_length (cs : List (Hop × Nat)) : (compCells cs).length = cs.length * 3 := by
  induction cs with
  | nil => rfl
  | cons x cs ih => simp only [compCells, List.flatMap_cons, List.length_append, List.length_cons] at *; simp at *; omega
theorem addrBytes_cons (h : Hop) (hs : List Hop) : addrBytes (h :: hs) = h.bytes ++ addrBytes hs := rfl
theorem run_from (A : Option Addr) (n c k : Nat) (hk : k ≤ n) (_hc : n ≤ c) : ∃ A', (∀ w : World, (Instr.sliceAt 22 (.slice A n c) (some (.int .i64 (k : Int))) none none).run Tryz.prog w = .ok (.slice A' (n - k) (c - k)) w) ∧
    ∀ (w : World) (B : Nat) (l : List UInt8), RB w B A n c l → RB w B A' (n - k) (c - k) (l.drop k) := by
  refine ⟨if c = k then A else A.map (·.add k), fun w => ?_, fun w B l h => h.drop hk⟩
  rw [run_sliceAt_slice w 22 _ _ _ _ (by kernel_rfl), run_slice_l w 22 A n c (by kernel_rfl) .i64 (k : Int) (by omega) (by omega)]
  go_simp
theorem comp_info2 : (Tryz.prog.info? 81).map (fun i => (i.zero, i.size, i.bytes)) = some (some (.agg #[.string ⟨#[]⟩, .pointer none, .int .i64 0]), 3, 32) := by kernel_rfl
def OutA (hs : List Hop) (w : World) (e : Ending) (w' : World) : Prop :=
  ∃ v cs, e = .returned (.tuple #[.int .i64 (addrBytes hs).length, v, .nilIface]) ∧ cs.map (·.1) = hs ∧ PR w' cs ∧ w'.ownsRow w.heap.size 81 3 v cs.length (compCells cs) ∧ Below w.heap.size w w'
theorem readma_any (A : Option Addr) (n c : Nat) (hs : List Hop) (w : World) (ht : Tab K w) (hok : ∀ x ∈ hs, HopOk K x.kd x.l) (h : RB w w.heap.size A n c (addrBytes hs)) (hn : hs.length ≤ 100) (hne : hs ≠ []) :
    Calls Tryz.prog 39 #[.slice A n c] w (OutA hs w) := by
  obtain ⟨i0, hi0, hz0, hz1, hz2⟩ := info_parts comp_info2
  have hlen := h.len
  have hle := addrBytes_le hs
  have hn0 : 0 < n := by
    rcases hs with _ | ⟨x, hs⟩
    · exact absurd rfl hne
    · have := (hopBytes_le x.kd x.l).1
      rw [addrBytes_cons, List.length_append] at hlen
      unfold Hop.bytes at hlen
      omega
  have HH := Lib.hid h
  have HT := Lib.hid ht
  have HOK := Lib.hid hok
  have HN := Lib.hid hlen
  have hn0b : ((n : Int) == 0) = false := by simp; omega
  clear h ht hok hne hlen
  go_enter Tryz.func39, Tryz.ntmps39
  go_wp2_with fail
  go_loopw [0, 5, 6, 7] (fun b res br sp wr => ∃ k : Nat, k ≤ hs.length ∧ (∃ A c, b = .slice A (addrBytes (hs.drop k)).length c ∧ RB wr w.heap.size A (addrBytes (hs.drop k)).length c (addrBytes (hs.drop k))) ∧ br = .int .i64 (addrBytes (hs.take k)).length ∧ sp = .bool false ∧
      (∃ cs, cs.map (·.1) = hs.take k ∧ PR wr cs ∧ wr.ownsRow w.heap.size 81 3 res cs.length (compCells cs)) ∧ Below w.heap.size w wr) (fun b _ _ _ _ => lenOf b)
  case atStart =>
    refine ⟨0, by omega, ⟨A, c, by rw [List.drop_zero, HN.out], by rw [List.drop_zero, HN.out]; exact HH.out⟩, rfl, rfl, ⟨[], rfl, fun x hx => by simp at hx, World.ownsRow_nil _ _ _ _⟩, Below.refl _ _⟩
  case round =>
    obtain ⟨k, hk, ⟨A1, c1, rfl, hr⟩, rfl, rfl, ⟨cs, hcs, hpr, hown⟩, hb⟩ := hrel
    have HB := Lib.hid hb
    have HO := Lib.hid hown
    have HP := Lib.hid hpr
    have HC := Lib.hid hcs
    clear hb hown hpr hcs
    by_cases hlt : k < hs.length
    · have hdk : hs.drop k = hs[k] :: hs.drop (k + 1) := List.drop_eq_getElem_cons hlt
      have htk := addrBytes_take hs k hlt
      generalize hhk : hs[k] = hp at *
      have hop2 := hopBytes_le hp.kd hp.l
      have hle2 := addrBytes_le (hs.take k)
      have hlk : (hs.take k).length ≤ 100 := by rw [List.length_take]; omega
      rw [hdk, addrBytes_cons, List.length_append, Nat.add_comm] at hr ⊢
      have hcap := hr.cap
      have hmax : c1 ≤ 9223372036854775807 := hr.max
      have hH : hp.bytes = hopBytes hp.kd hp.l := rfl
      obtain ⟨A2, hsl, hdr⟩ := run_from A1 ((addrBytes (hs.drop (k + 1))).length + hp.bytes.length) c1 hp.bytes.length (by omega) hcap
      rw [Nat.add_sub_cancel] at hsl hdr
      have hrest := hdr wr w.heap.size _ hr
      rw [List.drop_left] at hrest
      have hbl2 : 2 ≤ hp.bytes.length := hop2.1
      have hbl50 : hp.bytes.length ≤ 50 := hop2.2
      have hrl : (addrBytes (hs.drop (k + 1))).length ≤ 5000 := by
        have h1 := addrBytes_le (hs.drop (k + 1))
        have h2 : (hs.drop (k + 1)).length ≤ 100 := by rw [List.length_drop]; omega
        omega
      have hcl : cs.length ≤ 100 := by
        have := congrArg List.length HC.out
        rw [List.length_map] at this
        omega
      have hrd : Calls Tryz.prog 54 #[.slice A1 ((addrBytes (hs.drop (k + 1))).length + hp.bytes.length) c1] wr (OutC (codeOf hp.kd) hp.bytes (vsOf hp.kd) hp.bytes.length wr) := read_hop hp.kd hp.l A1 c1 _ wr (HT.out.below HB.out) (by have := HOK.out _ (List.getElem_mem hlt); rwa [hhk] at this) (hr.more HB.out.size)
      have HRD := Lib.hid hrd
      have HRE := Lib.hid hrest
      have HTK := Lib.hid htk
      have HHK := Lib.hid hhk
      obtain ⟨rs, hrs⟩ : ∃ rs, rs = addrBytes (hs.drop (k + 1)) := ⟨_, rfl⟩
      obtain ⟨hb, hhb⟩ : ∃ hb, hb = hp.bytes := ⟨_, rfl⟩
      obtain ⟨m, hm⟩ : ∃ m, m = (addrBytes (hs.take k)).length := ⟨_, rfl⟩
      have hm5 : m ≤ 5000 := by omega
      rw [← hrs, ← hhb] at HRD hsl
      rw [← hrs] at HRE
      rw [← hhb] at HTK hbl2 hbl50
      rw [← hrs, ← hhb, ← hm]
      rw [← hrs] at hrl
      have HRS := Lib.hid hrs
      have HHB := Lib.hid hhb
      have HM := Lib.hid hm
      clear hr hrd hrest hdr htk hhk hrs hhb hm hdk hH hop2 hle2 hlk hcap hmax
      go_wp2_with fail
      refine HRD.out.mono ?_
      rintro e w3 ⟨q, p, g, rfl, hC, hb3⟩
      obtain ⟨c0, c1', c2, _, _, _⟩ := hC.cells
      have p4 : w3.cell? ⟨p, 4, none⟩ = some (.bool false) := hC.prot.cell 4
      have HCC := Lib.hid hC
      have HB3 := Lib.hid hb3
      clear hC hb3
      have hbq := ((Below.refl _ w3).alloc (Nat.le_refl _) (.cells #[.string ⟨hb.toArray⟩, .pointer (some ⟨p, 0, none⟩), .int .i64 (vsOf hp.kd)] 81))
      have HOO := Lib.hid (own_below HO.out (HB3.out.trans (hbq.mono HB3.out.size)))
      have hrn := reads_new w3 #[.string ⟨hb.toArray⟩, .pointer (some ⟨p, 0, none⟩), .int .i64 (vsOf hp.kd)] 81 3 1 rfl
      have HBQ := Lib.hid hbq
      have HRN := Lib.hid hrn
      clear hbq hrn
      go_wp2_with (at_builtin; refine wpList_append_any _ rfl (.tmp 43) (.tmp 47) _ rfl w.heap.size 81 i0 _ 3 32 Tryz.underlying44 hi0 hz0 hz1 hz2 rfl (by decide) _ _ _ rfl HOO.out _ _ 1 1 _ rfl HRN.out ?c0 ?c1 ?c2 ?c3 ?_)
      case c0 => intro u hu; simp at hu; rcases hu with rfl | rfl | rfl <;> rfl
      case c1 => unfold maxLen; omega
      case c2 => omega
      case c3 => have := HB.out.size; have := HB3.out.size; simp; omega
      intro v' w' hown hgrow _hat
      have hbw : Below w.heap.size wr w' := ((HB3.out.mono HB.out.size).trans (HBQ.out.mono (Nat.le_trans HB.out.size HB3.out.size))).grown hgrow (by have := HB.out.size; have := HB3.out.size; simp; omega) (fun g hg => (HOO.out.lt g hg).1)
      have hpr2 := ((HP.out.below (HB3.out.trans (HBQ.out.mono HB3.out.size))).snoc (x := (hp, p)) (HCC.out.prot.below HBQ.out HCC.out.prot.lt)).grown HOO.out hgrow
      have HBW := Lib.hid hbw
      have HPR2 := Lib.hid hpr2
      have HOW := Lib.hid hown
      clear hbw hpr2 hown hgrow _hat c0 c1' c2 p4
      go_wp2_with fail
      go_roundw
      case rel =>
        refine ⟨k + 1, by omega, ⟨A2, c1 - hb.length, by rw [← HRS.out], ?_⟩, ?_, rfl, ⟨cs ++ [(hp, p)], ?_, HPR2.out, ?_⟩, HB.out.trans HBW.out⟩
        · rw [← HRS.out, HHB.out]; exact HRE.out.below HBW.out
        · rw [HTK.out, List.length_append, ← HM.out]; go_num
        · rw [List.map_append, HC.out, List.take_succ_eq_append_getElem hlt, HHK.out]; rfl
        · rw [compCells_snoc, List.length_append]
          have := HOW.out
          rw [HHB.out] at this
          exact this
      case measure => simp [lenOf]; omega
    · obtain rfl : k = hs.length := by omega
      have hc2 := HC.out
      have HRR := Lib.hid hr
      rw [List.drop_length] at hr ⊢
      rw [List.take_length] at hc2 ⊢
      have HC2 := Lib.hid hc2
      clear hr hc2
      rw [show (addrBytes []).length = 0 from rfl]
      go_wp2_with fail
      go_ret3
      exact ⟨_, cs, rfl, HC2.out, HP.out, HO.out, HB.out⟩
end Go.Proofs.YtghddiboggdhcaaGreatDoor
/- base32: bytes into letters. No condition beyond. -/
namespace Go.Proofs.YtghddiboggdhcaaGreatDoor
open Go.RowKit
def mk_ (k : IntKind) (m X : Int) : Nat := (bits .and k X m).toNat
theorem mk31 (X : Int) : bits .and .u32 X 31 = (mk_ .u32 31 X : Nat) ∧ mk_ .u32 31 X < 32 := by
  have hlt : (BitVec.ofInt 32 X).toNat &&& 31 < 32 := Nat.and_lt_two_pow (n := 5) _ (by decide)
  have h : bits .and .u32 X 31 = (((BitVec.ofInt 32 X).toNat &&& 31 : Nat) : Int) := by
    have h0 : bits .and .u32 X 31 = IntKind.u32.wrap (((BitVec.ofInt 32 X) &&& (BitVec.ofInt 32 31)).toNat : Int) := rfl
    rw [h0, BitVec.toNat_and, IntKind.wrap_u32, show (BitVec.ofInt 32 31).toNat = 31 by rfl]
    omega
  unfold mk_
  rw [h]
  exact ⟨by simp, by simpa using hlt⟩
def BufB (w : World) (b N : Nat) : Prop := ∃ l : List UInt8, l.length = N ∧ Blk w b 5 (bv l).toArray
theorem bvr_set (l : List UInt8) (i : Nat) (u : UInt8) : (bv l).toArray.setIfInBounds i (.int .u8 u.toNat) = (bv (l.set i u)).toArray := by
  simp [bv, List.map_set]
theorem BufB.put {w : World} {b N : Nat} (h : BufB w b N) (i : Nat) (u : UInt8) : BufB (w.setCell ⟨b, i, none⟩ (.int .u8 u.toNat)) b N := by
  obtain ⟨l, hl, hb⟩ := h
  refine ⟨l.set i u, by simp [hl], ?_⟩
  have := hb.set_ i (.int .u8 u.toNat)
  rwa [bvr_set] at this
theorem BufB.at_ {w : World} {b N : Nat} (h : BufB w b N) (i : Nat) (hi : i < N) : ∃ v, w.cell? ⟨b, i, none⟩ = some v := by
  obtain ⟨l, hl, hb⟩ := h
  exact ⟨.int .u8 (l[i]'(by omega)).toNat, (hb.cell i).trans (by simp [bv, hl, hi])⟩
theorem BufB.frozen {w : World} {b N : Nat} (h : BufB w b N) (i : Nat) : w.frozen? ⟨b, i, none⟩ = false := by
  obtain ⟨l, hl, hb⟩ := h
  exact hb.frozen i
theorem BufB.drewN {w : World} {b N : Nat} (h : BufB w b N) (k : Nat) : BufB (w.drewN k) b N := by
  obtain ⟨l, hl, hb⟩ := h
  exact ⟨l, hl, hb.drewN k⟩
structure EncW (B b N p : Nat) (t : TypeId) (xs : Array Value) (w wr : World) : Prop where
  bel : Below B w wr
  buf : BufB wr b N
  blk : Blk wr p t xs
theorem EncW.put {B b N p : Nat} {t : TypeId} {xs : Array Value} {w wr : World} (h : EncW B b N p t xs w wr) (hB : B ≤ b) (hp : p ≠ b) (i : Nat) (u : UInt8) : EncW B b N p t xs w (wr.setCell ⟨b, i, none⟩ (.int .u8 u.toNat)) :=
  ⟨h.bel.setCell (p := ⟨b, i, none⟩) hB _, h.buf.put i u, h.blk.far (p := ⟨b, i, none⟩) hp _⟩
theorem EncW.drewN {B b N p : Nat} {t : TypeId} {xs : Array Value} {w wr : World} (h : EncW B b N p t xs w wr) (k : Nat) : EncW B b N p t xs w (wr.drewN k) :=
  ⟨below_drewN h.bel k, h.buf.drewN k, h.blk.drewN k⟩
theorem EncX.at_ {al : List UInt8} {S n k : Nat} {xs : Array Value} (h : EncX al S n xs k) (j : Nat) (hj : j < al.length) : ∃ u : UInt8, xs[j]? = some (.int .u8 u.toNat) := ⟨_, h.enc j hj⟩
theorem EncX.letters {al : List UInt8} {S n k : Nat} {xs : Array Value} (h : EncX al S n xs k) : ∃ U : Nat → UInt8, ∀ J, J < al.length → xs[J]? = some (.int .u8 (U J).toNat) :=
  ⟨fun J => al.getD J 0, fun J hJ => by have := h.enc J hJ; simpa [List.getD, hJ] using this⟩
attribute [local go_sem ↓] Go.wp_at_zero Go.wp_at_succ
theorem load_head (w : World) (p : Nat) (t T : TypeId) (m : Nat) (xs : Array Value) (h : Blk w p t xs) (hs : m ≤ xs.size) (a1 : (isAgg T).run Tryz.prog w = .ok true w) (a2 : (sizeOf T).run Tryz.prog w = .ok m w) : (Instr.loadAt T (.pointer (some ⟨p, 0, none⟩))).run Tryz.prog w = .ok (.agg (xs.toList.take m).toArray) w := by
  have hl : (xs.toList.take m).length = m := by simp [hs]
  have := run_loadCells_list (P := Tryz.prog) w ⟨p, 0, none⟩ (xs.toList.take m) (fun j v hv => by
    have hadd : (⟨p, 0, none⟩ : Addr).add j = ⟨p, j, none⟩ := by unfold Addr.add; split <;> simp_all
    have hj : j < m := by
      have := (List.getElem?_eq_some_iff.1 hv).1
      omega
    rw [hadd, h.cell]
    simpa [List.getElem?_take, hj] using hv)
  rw [hl] at this
  have hlv : (loadVar T ⟨p, 0, none⟩).run Tryz.prog w = .ok (.agg (xs.toList.take m).toArray) w := by
    simp only [loadVar, Sem.run_bind, a1, Result.andThen_ok, if_true, a2, this, Sem.run_pure]
  simp only [Instr.loadAt, Instr.sureAddr, Sem.run_bind, Sem.run_pure, Result.andThen]
  exact hlv
def hasLoop : Code → Bool
  | .loop _ => true
  | .seq a b => hasLoop a || hasLoop b
  | .block _ c => hasLoop c
  | .scope c => hasLoop c
  | .cond _ a b => hasLoop a || hasLoop b
  | _ => false
def behindLoop : Code → Code
  | .seq a b => match hasLoop a with
    | true => b
    | false => behindLoop b
  | _ => .skip
noncomputable def tail32 : Code := behindLoop (Tryz.f222.body.getD .skip)
end Go.Proofs.YtghddiboggdhcaaGreatDoor
/- base32: bytes into letters: what is done behind the rounds of five bytes, at 1 left. (printed by a program) -/
namespace Go.Proofs.YtghddiboggdhcaaGreatDoor
open Go.RowKit
attribute [local go_sem ↓] Go.wp_at_zero Go.wp_at_succ
theorem tail32_1 (al : List UInt8) (hal : al.length = 32) (B b N p q L2 c1 : Nat) (ad : Addr) (xs : Array Value) (d2 : List UInt8) (w wr : World) (hx : EncX al 289 32 xs 32) (hw : EncW B b N p 244 xs w wr) (hB : B ≤ b) (hp : p ≠ b) (h : RB w B (some ad) 1 c1 d2) (hN8 : 8 * q + 8 ≤ N) (_hL8 : 8 ≤ L2)
    (u6 u7 u11 u12 u13 u14 u15 u16 u17 u18 u19 u20 u21 u22 u23 u24 u25 u26 u27 u28 u29 u30 u31 u32 u33 u34 u35 u36 u37 u38 u39 u40 u41 u42 u43 u44 u45 u46 u47 u48 u49 u50 u51 u52 u53 u54 u55 u56 u57 u58 u59 u60 u61 u62 u63 u64 u65 u66 u67 u68 u69 u70 u71 u72 u73 u74 u75 u76 u77 u78 u79 u80 u81 u82 u83 u84 u85 u86 u87 u88 u89 u90 u91 u92 u93 u94 u95 u96 u97 u98 u99 u100 u101 u102 u103 u104 u105 u106 u107 u108 u109 u110 u111 u112 u113 u114 u115 u116 u117 u118 u119 u120 u121 u122 u123 u124 u125 u126 u127 u128 u129 u130 u131 u132 u133 u134 u135 : Value) :
    Code.wp Tryz.prog tail32 (bodyPost Tryz.prog Tryz.f222 fun e w' => e = .returned (.tuple #[]) ∧ EncW B b N p 244 xs w w') ⟨#[.pointer (some ⟨p, 0, none⟩), .slice (some ⟨b, 8 * q, none⟩) 8 L2, .slice (some ad) 1 c1, undef, undef, undef, u6, u7, undef, undef, undef, u11, u12, u13, u14, u15, u16, u17, u18, u19, u20, u21, u22, u23, u24, u25, u26, u27, u28, u29, u30, u31, u32, u33, u34, u35, u36, u37, u38, u39, u40, u41, u42, u43, u44, u45, u46, u47, u48, u49, u50, u51, u52, u53, u54, u55, u56, u57, u58, u59, u60, u61, u62, u63, u64, u65, u66, u67, u68, u69, u70, u71, u72, u73, u74, u75, u76, u77, u78, u79, u80, u81, u82, u83, u84, u85, u86, u87, u88, u89, u90, u91, u92, u93, u94, u95, u96, u97, u98, u99, u100, u101, u102, u103, u104, u105, u106, u107, u108, u109, u110, u111, u112, u113, u114, u115, u116, u117, u118, u119, u120, u121, u122, u123, u124, u125, u126, u127, u128, u129, u130, u131, u132, u133, u134, u135, undef, undef, undef, undef, undef, undef, undef, undef, undef, undef, undef, undef, undef, undef, undef, undef, undef, undef, undef, undef, undef, undef, undef, undef, undef, undef, undef, undef, undef, undef, undef, undef, undef, undef, undef, undef, undef, undef, undef, undef, undef, undef, undef, undef, undef, undef, undef, undef, undef, undef, undef, undef, undef, undef, undef, undef, undef, undef, undef, undef, undef, undef, undef, undef, undef, undef, undef, undef, undef, undef, undef, undef, undef, undef, undef, undef, undef, undef, undef, undef, undef, undef, undef, undef, undef, undef, undef, undef, undef, undef, undef, undef, undef, undef, undef, undef, undef, undef, undef, undef, undef, undef, undef, undef, undef, undef, undef, undef, undef, undef, undef, undef, undef, undef, undef, undef, undef, undef, undef, undef, undef, undef, undef, undef, undef, undef, undef, undef, undef, undef, undef, undef, undef], []⟩ wr := by
  obtain ⟨U, hU⟩ := hx.letters
  have HU := Lib.hid hU
  have HX := Lib.hid hx
  have HW1 := Lib.hid hw
  have HRw := Lib.hid h
  have hm31 := fun X => (mk31 X).1
  have hl31 : ∀ X, ((mk_ .u32 31 X : Nat) : Int) < 32 := fun X => by have := (mk31 X).2; omega
  clear h hx hw hU
  conv => arg 2; whnf
  go_upto_block 2 with fail
  go_cut [8] (fun v wc => EncW B b N p 244 xs w wc)
  case first =>
    obtain ⟨ad1, E1, _, c0⟩ := (HRw.out.below HW1.out.bel).at_ (k := 0) (by omega) (by rw [HRw.out.len]; omega)
    cases E1
    generalize (d2[0]'_).toNat = x0 at c0
    have d0 : wr.cell? ad = some (.int .u8 x0) := by have := c0; rwa [show ad.add 0 = ad by simp [Addr.add]] at this
    clear c0
    go_upto_region 31 with fail
    go_cut [8] (fun v wc => ∃ X : Int, v = .int .u32 X ∧ EncW B b N p 244 xs w wc)
    case first =>
      go_wp2_with fail
      try (go_quiet (fail); go_wp2_with fail)
      go_meet
      first | exact ⟨_, rfl, HW1.out⟩ | exact ⟨_, rfl, HW1.out.drewN _⟩
    case' rest =>
      obtain ⟨X1, rfl, hv⟩ := hcut
      have HV1 := Lib.hid hv
      clear hv d0
      have cX1 : ∀ X, wc.cell? ⟨p, mk_ .u32 31 X, none⟩ = some (.int .u8 (U (mk_ .u32 31 X)).toNat) := fun X => (HV1.out.blk.cell _).trans (HU.out _ (by rw [hal]; exact (mk31 X).2))
      obtain ⟨z1, hz1⟩ := HV1.out.buf.at_ (8 * q + 1) (by omega)
      have cF1 := HV1.out.buf.frozen (8 * q + 1)
      obtain ⟨z0, hz0⟩ := HV1.out.buf.at_ (8 * q) (by omega)
      have cF0 := HV1.out.buf.frozen (8 * q)
      go_wp2_with fail
      go_meet
      exact ((HV1.out.put hB hp (8 * q + 1) _).put hB hp (8 * q) _)
  case' rest =>
    have HV := Lib.hid hcut
    have cP2 : wc.cell? ⟨p, 288, none⟩ = some (.int .i32 61) := (HV.out.blk.cell _).trans HX.out.pad
    clear hcut
    go_wp2_with fail
    go_loopw [10] (fun i wr => ∃ k : Nat, k ≤ 8 ∧ i = .int .i64 k ∧ EncW B b N p 244 xs w wr) (fun i _ => 8 - (intOf i).toNat)
    case atStart => exact ⟨2, by omega, rfl, HV.out⟩
    case round =>
      obtain ⟨k, hk, rfl, hy⟩ := hrel
      have HY := Lib.hid hy
      clear hy
      by_cases hlt : k < 8
      · obtain ⟨z, hz⟩ := HY.out.buf.at_ (8 * q + k) (by omega)
        have cF := HY.out.buf.frozen (8 * q + k)
        have cP3 := (HY.out.blk.cell 288).trans HX.out.pad
        go_wp2_with fail
        exact ⟨⟨k + 1, by omega, by go_num, HY.out.put hB hp (8 * q + k) 61⟩, by simp [intOf]; omega⟩
      · obtain rfl : k = 8 := by omega
        go_wp2_with fail
        go_end0
        exact ⟨rfl, HY.out⟩
end Go.Proofs.YtghddiboggdhcaaGreatDoor
/- base32: bytes into letters: what is done behind the rounds of five bytes, at 2 left. (printed by a program) -/
namespace Go.Proofs.YtghddiboggdhcaaGreatDoor
open Go.RowKit
attribute [local go_sem ↓] Go.wp_at_zero Go.wp_at_succ
theorem tail32_2 (al : List UInt8) (hal : al.length = 32) (B b N p q L2 c1 : Nat) (ad : Addr) (xs : Array Value) (d2 : List UInt8) (w wr : World) (hx : EncX al 289 32 xs 32) (hw : EncW B b N p 244 xs w wr) (hB : B ≤ b) (hp : p ≠ b) (h : RB w B (some ad) 2 c1 d2) (hN8 : 8 * q + 8 ≤ N) (_hL8 : 8 ≤ L2)
    (u6 u7 u11 u12 u13 u14 u15 u16 u17 u18 u19 u20 u21 u22 u23 u24 u25 u26 u27 u28 u29 u30 u31 u32 u33 u34 u35 u36 u37 u38 u39 u40 u41 u42 u43 u44 u45 u46 u47 u48 u49 u50 u51 u52 u53 u54 u55 u56 u57 u58 u59 u60 u61 u62 u63 u64 u65 u66 u67 u68 u69 u70 u71 u72 u73 u74 u75 u76 u77 u78 u79 u80 u81 u82 u83 u84 u85 u86 u87 u88 u89 u90 u91 u92 u93 u94 u95 u96 u97 u98 u99 u100 u101 u102 u103 u104 u105 u106 u107 u108 u109 u110 u111 u112 u113 u114 u115 u116 u117 u118 u119 u120 u121 u122 u123 u124 u125 u126 u127 u128 u129 u130 u131 u132 u133 u134 u135 : Value) :
    Code.wp Tryz.prog tail32 (bodyPost Tryz.prog Tryz.f222 fun e w' => e = .returned (.tuple #[]) ∧ EncW B b N p 244 xs w w') ⟨#[.pointer (some ⟨p, 0, none⟩), .slice (some ⟨b, 8 * q, none⟩) 8 L2, .slice (some ad) 2 c1, undef, undef, undef, u6, u7, undef, undef, undef, u11, u12, u13, u14, u15, u16, u17, u18, u19, u20, u21, u22, u23, u24, u25, u26, u27, u28, u29, u30, u31, u32, u33, u34, u35, u36, u37, u38, u39, u40, u41, u42, u43, u44, u45, u46, u47, u48, u49, u50, u51, u52, u53, u54, u55, u56, u57, u58, u59, u60, u61, u62, u63, u64, u65, u66, u67, u68, u69, u70, u71, u72, u73, u74, u75, u76, u77, u78, u79, u80, u81, u82, u83, u84, u85, u86, u87, u88, u89, u90, u91, u92, u93, u94, u95, u96, u97, u98, u99, u100, u101, u102, u103, u104, u105, u106, u107, u108, u109, u110, u111, u112, u113, u114, u115, u116, u117, u118, u119, u120, u121, u122, u123, u124, u125, u126, u127, u128, u129, u130, u131, u132, u133, u134, u135, undef, undef, undef, undef, undef, undef, undef, undef, undef, undef, undef, undef, undef, undef, undef, undef, undef, undef, undef, undef, undef, undef, undef, undef, undef, undef, undef, undef, undef, undef, undef, undef, undef, undef, undef, undef, undef, undef, undef, undef, undef, undef, undef, undef, undef, undef, undef, undef, undef, undef, undef, undef, undef, undef, undef, undef, undef, undef, undef, undef, undef, undef, undef, undef, undef, undef, undef, undef, undef, undef, undef, undef, undef, undef, undef, undef, undef, undef, undef, undef, undef, undef, undef, undef, undef, undef, undef, undef, undef, undef, undef, undef, undef, undef, undef, undef, undef, undef, undef, undef, undef, undef, undef, undef, undef, undef, undef, undef, undef, undef, undef, undef, undef, undef, undef, undef, undef, undef, undef, undef, undef, undef, undef, undef, undef, undef, undef, undef, undef, undef, undef, undef, undef], []⟩ wr := by
  obtain ⟨U, hU⟩ := hx.letters
  have HU := Lib.hid hU
  have HX := Lib.hid hx
  have HW1 := Lib.hid hw
  have HRw := Lib.hid h
  have hm31 := fun X => (mk31 X).1
  have hl31 : ∀ X, ((mk_ .u32 31 X : Nat) : Int) < 32 := fun X => by have := (mk31 X).2; omega
  clear h hx hw hU
  conv => arg 2; whnf
  go_upto_block 2 with fail
  go_cut [8] (fun v wc => EncW B b N p 244 xs w wc)
  case first =>
    obtain ⟨ad2, E1, _, c1⟩ := (HRw.out.below HW1.out.bel).at_ (k := 1) (by omega) (by rw [HRw.out.len]; omega)
    cases E1
    generalize (d2[1]'_).toNat = x1 at c1
    have d1 : wr.cell? ⟨ad.block, ad.off + 1, none⟩ = some (.int .u8 x1) := by have := c1; rwa [show ad.add 1 = ⟨ad.block, ad.off + 1, none⟩ by simp [Addr.add]] at this
    clear c1
    go_upto_region 28 with fail
    go_cut [8] (fun v wc => ∃ X : Int, v = .int .u32 X ∧ EncW B b N p 244 xs w wc)
    case first =>
      go_wp2_with fail
      try (go_quiet (fail); go_wp2_with fail)
      go_meet
      first | exact ⟨_, rfl, HW1.out⟩ | exact ⟨_, rfl, HW1.out.drewN _⟩
    case' rest =>
      obtain ⟨X2, rfl, hv⟩ := hcut
      have HV2 := Lib.hid hv
      clear hv d1
      have cX2 : ∀ X, wc.cell? ⟨p, mk_ .u32 31 X, none⟩ = some (.int .u8 (U (mk_ .u32 31 X)).toNat) := fun X => (HV2.out.blk.cell _).trans (HU.out _ (by rw [hal]; exact (mk31 X).2))
      obtain ⟨z3, hz3⟩ := HV2.out.buf.at_ (8 * q + 3) (by omega)
      have cF3 := HV2.out.buf.frozen (8 * q + 3)
      obtain ⟨z2, hz2⟩ := HV2.out.buf.at_ (8 * q + 2) (by omega)
      have cF2 := HV2.out.buf.frozen (8 * q + 2)
      go_upto_region 31 with fail
      refine wp_gen (EncW B b N p 244 xs w) (((HV2.out.put hB hp (8 * q + 3) _).put hB hp (8 * q + 2) _)) ?_
      clear cX2 hz3 cF3 hz2 cF2
      intro y2 hy
      have HY2 := Lib.hid hy
      clear hy
      obtain ⟨ad1, E1, _, c0⟩ := (HRw.out.below HY2.out.bel).at_ (k := 0) (by omega) (by rw [HRw.out.len]; omega)
      cases E1
      generalize (d2[0]'_).toNat = x0 at c0
      have d0 : y2.cell? ad = some (.int .u8 x0) := by have := c0; rwa [show ad.add 0 = ad by simp [Addr.add]] at this
      clear c0
      go_upto_region 31 with fail
      go_cut [8] (fun v wc => ∃ X : Int, v = .int .u32 X ∧ EncW B b N p 244 xs w wc)
      case first =>
        go_wp2_with fail
        try (go_quiet (fail); go_wp2_with fail)
        go_meet
        first | exact ⟨_, rfl, HY2.out⟩ | exact ⟨_, rfl, HY2.out.drewN _⟩
      case' rest =>
        obtain ⟨X1, rfl, hv⟩ := hcut
        have HV1 := Lib.hid hv
        clear hv d0
        have cX1 : ∀ X, wc.cell? ⟨p, mk_ .u32 31 X, none⟩ = some (.int .u8 (U (mk_ .u32 31 X)).toNat) := fun X => (HV1.out.blk.cell _).trans (HU.out _ (by rw [hal]; exact (mk31 X).2))
        obtain ⟨z1, hz1⟩ := HV1.out.buf.at_ (8 * q + 1) (by omega)
        have cF1 := HV1.out.buf.frozen (8 * q + 1)
        obtain ⟨z0, hz0⟩ := HV1.out.buf.at_ (8 * q) (by omega)
        have cF0 := HV1.out.buf.frozen (8 * q)
        go_wp2_with fail
        go_meet
        exact ((HV1.out.put hB hp (8 * q + 1) _).put hB hp (8 * q) _)
  case' rest =>
    have HV := Lib.hid hcut
    have cP2 : wc.cell? ⟨p, 288, none⟩ = some (.int .i32 61) := (HV.out.blk.cell _).trans HX.out.pad
    clear hcut
    go_wp2_with fail
    go_loopw [10] (fun i wr => ∃ k : Nat, k ≤ 8 ∧ i = .int .i64 k ∧ EncW B b N p 244 xs w wr) (fun i _ => 8 - (intOf i).toNat)
    case atStart => exact ⟨4, by omega, rfl, HV.out⟩
    case round =>
      obtain ⟨k, hk, rfl, hy⟩ := hrel
      have HY := Lib.hid hy
      clear hy
      by_cases hlt : k < 8
      · obtain ⟨z, hz⟩ := HY.out.buf.at_ (8 * q + k) (by omega)
        have cF := HY.out.buf.frozen (8 * q + k)
        have cP3 := (HY.out.blk.cell 288).trans HX.out.pad
        go_wp2_with fail
        exact ⟨⟨k + 1, by omega, by go_num, HY.out.put hB hp (8 * q + k) 61⟩, by simp [intOf]; omega⟩
      · obtain rfl : k = 8 := by omega
        go_wp2_with fail
        go_end0
        exact ⟨rfl, HY.out⟩
end Go.Proofs.YtghddiboggdhcaaGreatDoor
