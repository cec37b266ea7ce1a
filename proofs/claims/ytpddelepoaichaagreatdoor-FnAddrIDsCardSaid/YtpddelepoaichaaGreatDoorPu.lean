/- FnAddrSplit: the walk. -/
import Derived.Test.YtpddelepoaichaaGreatDoorPt
import Derived.Lib.SlBytesConst
namespace Go.Proofs.YtpddelepoaichaaGreatDoor
open Go.RowKit
variable {K : Nat}
attribute [local go_sem ↓] Go.wp_at_zero Go.wp_at_succ
def awakeHops (g : Nat) : List Hop := [⟨0, some ⟨g, 0, none⟩, 4, 4, [10, 0, 0, 1]⟩, ⟨1, some ⟨g + 1, 0, none⟩, 2, 2, [0, 80]⟩]
def awakeLast (g : Nat) : Hop := ⟨6, some ⟨g + 1 + 1, 0, none⟩, 1, 1, [107]⟩
def awakeCells (g : Nat) : Array Value := #[.int .u8 0, .slice (some ⟨g, 0, none⟩) 4 4, .int .u8 1, .slice (some ⟨g + 1, 0, none⟩) 2 2, .int .u8 6, .slice (some ⟨g + 1 + 1, 0, none⟩) 1 1]
theorem awake_bytes (g : Nat) : addrBytes (awakeHops g) = [4, 10, 0, 0, 1, 6, 0, 80] := by rfl
theorem awake_id (g : Nat) : idOf (awakeLast g).l = [0, 1, 107] := by rfl
theorem RB.of_fr {w : World} {g : Nat} {t : TypeId} {fr : Nat × Nat} {vc : List UInt8} (h : w.heap[g]? = some (.cells (bv vc).toArray t fr)) (hm : vc.length ≤ maxLen) : RB w w.heap.size (some ⟨g, 0, none⟩) vc.length vc.length vc := by
  have hlt : g < w.heap.size := by
    rcases Nat.lt_or_ge g w.heap.size with h' | h'
    · exact h'
    · rw [Array.getElem?_eq_none h'] at h; cases h
  refine ⟨⟨by simp [bv], fun _ => ⟨_, rfl, hlt, fun j u hu => ?_⟩⟩, Nat.le_refl _, hm⟩
  have hadd : (⟨g, 0, none⟩ : Addr).add j = ⟨g, j, none⟩ := by unfold Addr.add; split <;> simp_all
  rw [hadd, cell_of_row w g j _ t fr h]
  simpa using hu
theorem alloc_at {w : World} {g : Nat} (h : w.heap.size = g) (o : Obj) : (w.alloc o).heap[g]? = some o := by subst h; exact heap_alloc_new _ _
theorem awake_hs {W : World} {g : Nat} (b0 : Blk W g 5 (bv [10, 0, 0, 1]).toArray) (b1 : Blk W (g + 1) 5 (bv [0, 80]).toArray) (b2 : W.heap[g + 1 + 1]? = some (.cells (bv [107]).toArray 5 (1, 2))) (b3 : Blk W (g + 1 + 1 + 1) 36 (awakeCells g)) :
    HS W W.heap.size (some ⟨g + 1 + 1 + 1, 0, none⟩) 3 3 (awakeHops g ++ [awakeLast g]) := by
  refine ⟨rfl, by decide, by decide, fun i hi => ⟨_, rfl, b3.lt, ?_⟩⟩
  have hi3 : i = 0 ∨ i = 1 ∨ i = 2 := by simp [awakeHops, awakeLast] at hi; omega
  rcases hi3 with rfl | rfl | rfl
  · exact ⟨b3.cell 0, b3.cell 1, RB.of_blk b0 (by decide)⟩
  · exact ⟨b3.cell 2, b3.cell 3, RB.of_blk b1 (by decide)⟩
  · exact ⟨b3.cell 4, b3.cell 5, RB.of_fr b2 (by decide)⟩
theorem awake_ok (g : Nat) (hK : 100 ≤ K) : ∀ x ∈ awakeHops g ++ [awakeLast g], HopOk K x.kd x.l := by
  intro x hx
  simp only [awakeHops, awakeLast, List.cons_append, List.nil_append, List.mem_cons, List.not_mem_nil, or_false] at hx
  rcases hx with rfl | rfl | rfl
  · refine Or.inr ⟨fun _ b hb => Nat.lt_of_lt_of_le ?_ hK, fun h => by simp at h, by simp⟩
    have hb2 : b ∈ ([10, 0, 0, 1] : List UInt8) := hb
    simp at hb2
    rcases hb2 with rfl | rfl | rfl <;> decide
  · exact Or.inr ⟨fun h => by simp at h, fun _ => Nat.lt_of_lt_of_le (by decide : Lib.beNat (filled [0, 80] 2) < 100) hK, by simp⟩
  · exact HopOk.id rfl
set_option maxRecDepth 100000 in
set_option maxHeartbeats 4000000 in
theorem awake (w : World) (hK : 100 ≤ K) (ht : Tab K w) : Calls Tryz.prog 10 #[] w fun e w' => e = .returned (.bool true) ∧ Below w.heap.size w w' := by
  have HT := Lib.hid ht
  have HOK := Lib.hid (awake_ok (K := K) w.heap.size hK)
  have hcv : (convert 26 26 (.slice (some ⟨w.heap.size + 1 + 1, 0, none⟩) 1 1)).run Tryz.prog (((w.alloc (.cells #[.int .u8 10, .int .u8 0, .int .u8 0, .int .u8 1] 5)).alloc (.cells #[.int .u8 0, .int .u8 80] 5)).alloc (.cells #[.int .u8 107] 5)) = .ok (.slice (some ⟨w.heap.size + 1 + 1, 0, none⟩) 1 1) (((w.alloc (.cells #[.int .u8 10, .int .u8 0, .int .u8 0, .int .u8 1] 5)).alloc (.cells #[.int .u8 0, .int .u8 80] 5)).alloc (.cells #[.int .u8 107] 5 (1, 2))) := by
    have e : ((w.alloc (.cells #[.int .u8 10, .int .u8 0, .int .u8 0, .int .u8 1] 5)).alloc (.cells #[.int .u8 0, .int .u8 80] 5)).heap.size = w.heap.size + 1 + 1 := by simp
    have := Lib.run_convert_bytes_const (P := Tryz.prog) ((w.alloc (.cells #[.int .u8 10, .int .u8 0, .int .u8 0, .int .u8 1] 5)).alloc (.cells #[.int .u8 0, .int .u8 80] 5)) 26 5 #[.int .u8 107] 1 1 Tryz.underlying26 Tryz.underlying5
    rw [e] at this
    exact this
  clear ht hK
  go_enter Tryz.func10, Tryz.ntmps10
  go_wp2_with fail
  obtain ⟨W, hW⟩ : ∃ W, W = (((w.alloc (.cells (bv [10, 0, 0, 1]).toArray 5)).alloc (.cells (bv [0, 80]).toArray 5)).alloc (.cells (bv [107]).toArray 5 (1, 2))).alloc (.cells (awakeCells w.heap.size) 36) := ⟨_, rfl⟩
  have hbW : Below w.heap.size w W := by rw [hW]; exact ((((Below.refl _ w).alloc (Nat.le_refl _) _).alloc (by simp) _).alloc (by simp; omega) _).alloc (by simp; omega) _
  have hHS : HS W W.heap.size (some ⟨w.heap.size + 1 + 1 + 1, 0, none⟩) 3 3 (awakeHops w.heap.size ++ [awakeLast w.heap.size]) := by
    rw [hW]
    exact awake_hs ((((Blk.new w _ _).alloc _).alloc _).alloc _) (((Blk.new_ (by simp) _ _).alloc _).alloc _) ((Below.heap_alloc _ _ _ (by simp)).trans (alloc_at (by simp) _)) (Blk.new_ (by simp) _ _)
  have HBW := Lib.hid hbW
  have HA := Lib.hid (addrof_any _ 3 3 _ W hHS (by decide) (fun i hi => by
    have hi3 : i = 0 ∨ i = 1 ∨ i = 2 := by simp [awakeHops, awakeLast] at hi; omega
    rcases hi3 with rfl | rfl | rfl <;> simp [awakeHops, awakeLast]))
  change Calls _ _ _ ((((w.alloc (.cells (bv [10, 0, 0, 1]).toArray 5)).alloc (.cells (bv [0, 80]).toArray 5)).alloc (.cells (bv [107]).toArray 5 (1, 2))).alloc (.cells (awakeCells w.heap.size) 36)) _
  rw [← hW]
  clear hW hbW hHS
  refine HA.out.mono ?_
  rintro e w1 ⟨v, rfl, ho, hb1⟩
  obtain ⟨A1, c1, rfl⟩ := own_slice ho
  have hr1 := RB.of_own ho
  have hb1' := HBW.out.trans (hb1.mono HBW.out.size)
  have HS1 := Lib.hid (isplit_id A1 _ c1 (awakeHops w.heap.size) (awakeLast w.heap.size) w1 (HT.out.below hb1') HOK.out hr1 (by simp [awakeHops]) rfl)
  rw [awake_bytes, awake_id] at HS1
  have HB1 := Lib.hid hb1'
  clear ho hr1 hb1 hb1'
  go_wp2_with fail
  refine HS1.out.mono ?_
  rintro e w2 ⟨A2, c2, A3, c3, rfl, hr2, hr3, hb2⟩
  have HB2 := Lib.hid (HB1.out.trans (hb2.mono HB1.out.size))
  have HR2 := Lib.hid hr2
  have HR3 := Lib.hid hr3
  clear hr2 hr3 hb2
  have hn := RB.of_blk (Blk.new w2 5 (bv [4, 10, 0, 0, 1, 6, 0, 80]).toArray) (by decide)
  have HE1 := Lib.hid (equal_any A2 _ _ c2 _ _ _ _ _ (HR2.out.alloc (.cells (bv [4, 10, 0, 0, 1, 6, 0, 80]).toArray 5)) hn)
  have HBX := Lib.hid (HB2.out.alloc HB2.out.size (.cells (bv [4, 10, 0, 0, 1, 6, 0, 80]).toArray 5))
  clear hn
  go_wp2_with fail
  refine HE1.out.mono ?_
  rintro e w3 ⟨rfl, rfl⟩
  have hr3 := HR3.out.alloc (.cells (bv [4, 10, 0, 0, 1, 6, 0, 80]).toArray 5)
  obtain ⟨w3, hw3⟩ : ∃ w3, w3 = w2.alloc (.cells (bv [4, 10, 0, 0, 1, 6, 0, 80]).toArray 5) := ⟨_, rfl⟩
  rw [← hw3] at hr3 HBX ⊢
  have HE2 := Lib.hid (equal_any A3 _ _ c3 _ _ _ _ _ (hr3.alloc (.cells (bv [0, 1, 107]).toArray 5)) (RB.of_blk (Blk.new w3 5 (bv [0, 1, 107]).toArray) (by decide)))
  have HBY := Lib.hid (HBX.out.alloc HBX.out.size (.cells (bv [0, 1, 107]).toArray 5))
  clear hw3 hr3 HE1
  go_wp2_with fail
  refine HE2.out.mono ?_
  rintro e w4 ⟨rfl, rfl⟩
  go_wp2_with fail
  go_ret
  exact ⟨rfl, HBY.out⟩
theorem last_of (hs : List Hop) (h : hs.length ≠ 0) : ∃ hs' h', hs = hs' ++ [h'] := by
  have hne : hs ≠ [] := by rintro rfl; exact h rfl
  exact ⟨hs.dropLast, hs.getLast hne, (List.dropLast_concat_getLast hne).symm⟩
set_option maxRecDepth 100000 in
set_option maxHeartbeats 4000000 in
theorem law_split (A : Option Addr) (n c : Nat) (hs : List Hop) (w : World) (ht : Tab 65536 w) (h : HS w w.heap.size A n c hs) :
    Calls Tryz.prog 3 #[.slice A n c] w fun e w' => e = .returned (.bool true) ∧ Below w.heap.size w w' := by
  have HF := Lib.hid (fits1_any A n c hs w h)
  have HH := Lib.hid h
  have HL := Lib.hid h.len
  have HT := Lib.hid ht
  clear h ht
  go_enter Tryz.func3, Tryz.ntmps3
  go_wp2_with fail
  refine HF.out.mono ?_
  rintro e w1 ⟨b, rfl, hb1⟩
  have HB1 := Lib.hid hb1
  clear hb1
  cases b
  · go_wp2_with fail
    go_ret
    exact ⟨rfl, HB1.out⟩
  have HBW := Lib.hid (HB1.out.alloc HB1.out.size (.cells #[.slice A n c] 22))
  have HS1 := Lib.hid (short_any A n c w1.heap.size hs (w1.alloc (.cells #[.slice A n c] 22)) ((HH.out.below HBW.out).more HBW.out.size) ((Blk.new w1 22 #[.slice A n c]).cell 0))
  go_wp2_with fail
  refine HS1.out.mono ?_
  rintro e w2 ⟨hor, hb2⟩
  have HB2 := Lib.hid (HBW.out.trans (hb2.mono HBW.out.size))
  clear hb2
  rcases hor with rfl | ⟨rfl, hn0, hn20, h100⟩
  · go_wp2_with fail
    refine (awake _ (by decide) (HT.out.below HB2.out)).mono ?_
    rintro e w3 ⟨rfl, hb3⟩
    have HB3 := Lib.hid (HB2.out.trans (hb3.mono HB2.out.size))
    clear hb3
    go_wp2_with fail
    go_ret
    exact ⟨rfl, HB3.out⟩
  obtain ⟨hs', h', rfl⟩ := last_of hs (by rw [HL.out]; exact hn0)
  have hn : n = hs'.length + 1 := by have := HL.out; simpa using this.symm
  subst hn
  have hd : ∀ i (hi : i < (hs' ++ [h']).length), ((hs' ++ [h'])[i]).n ≤ 100000 := fun i hi => Nat.le_trans (h100 i hi) (by decide)
  have HD := Lib.hid hd
  have ha := addrof_any A _ c (hs' ++ [h']) w2 ((HH.out.below HB2.out).more HB2.out.size) (by omega) hd
  have hab := addrBytes_le (hs' ++ [h'])
  have hlh : (hs' ++ [h']).length ≤ 20 := by simp; omega
  obtain ⟨M, hM⟩ : ∃ M, M = addrBytes (hs' ++ [h']) := ⟨_, rfl⟩
  rw [← hM] at ha hab
  have HMq := Lib.hid hM
  have HA := Lib.hid ha
  have hM1 : M.length ≤ 1000 := by omega
  clear hd h100 hn0 ha hM hab hlh HS1 HF
  go_wp2_with fail
  refine HA.out.mono ?_
  rintro e w3 ⟨v, rfl, ho, hb3⟩
  obtain ⟨A3, c3, rfl⟩ := own_slice ho
  have HR3 := Lib.hid (RB.of_own ho)
  have HB3 := Lib.hid (HB2.out.trans (hb3.mono HB2.out.size))
  have HC := Lib.hid (clone_any A3 _ c3 _ w3 HR3.out (by omega))
  clear ho hb3
  go_wp2_with fail
  refine HC.out.mono ?_
  rintro e w4 ⟨A4, c4, rfl, hr4, hb4⟩
  have HR3' := Lib.hid (HR3.out.next hb4)
  have HB4 := Lib.hid (HB3.out.trans (hb4.mono HB3.out.size))
  obtain ⟨t, u, hspl, hssp⟩ : ∃ t u, Calls Tryz.prog 12 #[.slice A4 M.length c4] w4 (OutBBT t u w4) ∧ (∀ w5, Below w.heap.size w w5 → Calls Tryz.prog 14 #[.slice A (hs'.length + 1) c] w5 (OutBB t u w5)) := by
    have hr : RB w4 w4.heap.size A4 M.length c4 (addrBytes (hs' ++ [h'])) := by rw [← HMq.out]; exact hr4
    by_cases hk : h'.kd % 8 = 6
    · exact ⟨_, _, isplit_id A4 _ c4 hs' h' w4 (HT.out.below HB4.out) (fun _ _ => Or.inl (Nat.le_refl _)) hr (by omega) hk, fun w5 hb => ssplit_id A c hs' h' w5 ((HH.out.below hb).more hb.size) (by omega) HD.out hk⟩
    · exact ⟨_, _, isplit_other A4 _ c4 hs' h' w4 (HT.out.below HB4.out) (fun _ _ => Or.inl (Nat.le_refl _)) hr (by omega) hk, fun w5 hb => ssplit_other A c hs' h' w5 ((HH.out.below hb).more hb.size) (by omega) HD.out hk⟩
  have HI := Lib.hid hspl
  have HSP := Lib.hid hssp
  clear hspl hssp hr4 hb4
  go_wp2_with fail
  refine HI.out.mono ?_
  rintro e w5 ⟨A5, c5, B5, d5, rfl, hr5, hr5', hb5⟩
  have HB5 := Lib.hid (HB4.out.trans (hb5.mono HB4.out.size))
  have HR5 := Lib.hid hr5
  have HR5' := Lib.hid hr5'
  have HRb5 := Lib.hid (HR3'.out.next hb5)
  clear hr5 hr5' hb5
  go_wp2_with fail
  refine (HSP.out w5 HB5.out).mono ?_
  rintro e w6 ⟨A6, c6, B6, d6, rfl, hr6, hr6', hb6⟩
  have HB6 := Lib.hid (HB5.out.trans (hb6.mono HB5.out.size))
  have HRb6 := Lib.hid (HRb5.out.next hb6)
  have HR5a := Lib.hid (HR5.out.next hb6)
  have HR5b := Lib.hid (HR5'.out.next hb6)
  have HR6 := Lib.hid hr6
  have HR6' := Lib.hid hr6'
  clear hr6 hr6' hb6
  go_wp2_with fail
  refine (addrright_any A3 _ c3 (hs' ++ [h']) w6 (HT.out.below HB6.out) (fun _ _ => Or.inl (Nat.le_refl _)) (by rw [← HMq.out]; exact HRb6.out) (by simp; omega) (by simp)).mono ?_
  rintro e w7 ⟨rfl, hb7⟩
  have HB7 := Lib.hid (HB6.out.trans (hb7.mono HB6.out.size))
  have HE1 := Lib.hid (equal_any A5 A6 _ c5 _ c6 t t w7 (HR5a.out.next hb7) (HR6.out.next hb7))
  have HE2 := Lib.hid (equal_any B5 B6 _ d5 _ d6 u u w7 (HR5b.out.next hb7) (HR6'.out.next hb7))
  rw [beq_self_eq_true] at HE1 HE2
  clear hb7
  go_wp2_with fail
  refine HE1.out.mono ?_
  rintro e w8 ⟨rfl, rfl⟩
  go_wp2_with fail
  refine HE2.out.mono ?_
  rintro e w8 ⟨rfl, rfl⟩
  go_wp2_with fail
  refine (awake _ (by decide) (HT.out.below HB7.out)).mono ?_
  rintro e w9 ⟨rfl, hb9⟩
  have HB9 := Lib.hid (HB7.out.trans (hb9.mono HB7.out.size))
  clear hb9
  go_wp2_with fail
  go_ret
  exact ⟨rfl, HB9.out⟩
end Go.Proofs.YtpddelepoaichaaGreatDoor
