/- FnAddrMissing: the walk. -/
import Derived.Test.YtimakhadabenbaaGreatDoorHb
import Derived.Test.YtimakhadabenbaaGreatDoorHc
import Derived.Test.YtimakhadabenbaaGreatDoorEa
namespace Go.Proofs.YtimakhadabenbaaGreatDoor
open Go.RowKit
attribute [local go_sem ↓] Go.wp_at_zero Go.wp_at_succ
theorem RS.reads {w : World} {B : Nat} {A : Option Addr} {n c : Nat} {rs : List Row} (h : RS w B A n c rs) : Reads w B 1 A n (rowCells rs) := by
  refine ⟨by rw [rowCells_length, h.len, Nat.mul_one], fun hn => ?_⟩
  obtain ⟨ad, e, hlt, _⟩ := h.at_ 0 (by rw [h.len]; exact hn)
  refine ⟨ad, e, hlt, fun j u hj => ?_⟩
  have hjl : j < rs.length := by rw [← rowCells_length]; exact (List.getElem?_eq_some_iff.1 hj).1
  obtain ⟨ad', e', _, c0, _⟩ := h.at_ j hjl
  rw [e] at e'
  injection e' with e'
  subst e'
  rw [c0, ← hj]
  simp [rowCells, hjl]
set_option maxRecDepth 100000 in
set_option maxHeartbeats 1000000 in
theorem clone_rows (A : Option Addr) (n c : Nat) (rs : List Row) (w : World) (h : RS w w.heap.size A n c rs) (hn : n ≤ 1000) :
    Calls Tryz.prog 11 #[.slice A n c] w fun e w' => ∃ v, e = .returned v ∧ w'.ownsRow w.heap.size 23 1 v n (rowCells rs) ∧ Below w.heap.size w w' := by
  obtain ⟨i0, hi0, hz0, hz1, hz2⟩ := info_parts hl_info
  have q : ∀ (w : World) (a : Option Addr) (n c n' c' : Nat), (binOp .eql 22 (.slice a n c) (.slice none n' c')).run Tryz.prog w = .ok (.bool a.isNone) w := fun w a n c n' c' => Lib.run_eql_slice_nil w _ _ a n c n' c' Tryz.underlying22
  have HL := Lib.hid h.len
  rcases A with _ | a
  · have h0 : rs = [] := by
      rcases Nat.eq_zero_or_pos rs.length with h0 | h0
      · exact List.eq_nil_of_length_eq_zero h0
      · obtain ⟨ad, e1, _⟩ := h.at_ 0 h0
        cases e1
    clear h
    go_enter Tryz.func11, Tryz.ntmps11
    go_wp2
    go_ret
    subst h0
    obtain rfl := HL.out
    exact ⟨_, rfl, World.ownsRow_nil _ _ _ _, Below.refl _ _⟩
  · have H := Lib.hid h
    have hB := Lib.hid hn
    clear h hn
    go_enter Tryz.func11, Tryz.ntmps11
    go_wp2_with (at_builtin; refine wpList_append_any _ rfl (.tmp 5) (.tmp 6) _ rfl w.heap.size 23 i0 _ 1 24 Tryz.underlying22 hi0 hz0 hz1 hz2 rfl (by decide) _ _ _ rfl (own_made_at w _ rfl _ 1 (Nat.le_refl _)) w.heap.size (some a) n c (rowCells rs) rfl (H.out.reads.alloc (Nat.le_refl _) _) (rowCells_one rs) ?c1 ?c2 ?c3 ?_)
    case c1 => have := hB.out; unfold maxLen; omega
    case c2 => have := hB.out; omega
    case c3 => simp
    intro v' w1 hown hgrow _hat
    have hbw : Below w.heap.size w w1 := ((Below.refl _ w).alloc (Nat.le_refl _) _).grown hgrow (by simp) (by intro k hk; simp [Value.ownBlock] at hk; omega)
    have hown2 : w1.ownsRow w.heap.size 23 1 v' n (rowCells rs) := hown
    have HO1 := Lib.hid hown2
    have HB1 := Lib.hid hbw
    clear hown hgrow _hat hbw hown2
    go_wp2
    go_ret
    exact ⟨v', rfl, HO1.out, HB1.out⟩
/-- A row that holds lists of parts. -/
theorem rs_ins {w : World} {b n c : Nat} {rs : List Row} (hl : rs.length = n) (hc : n ≤ c) (hm : c ≤ maxLen) (hb : b < w.heap.size) (hr : ∀ j u, (rowCells rs)[j]? = some u → w.cell? ⟨b, j, none⟩ = some u) (hs : ∀ r ∈ rs, HS w w.heap.size r.A r.n r.c r.hs) : RS w w.heap.size (some ⟨b, 0, none⟩) n c rs :=
  ⟨hl, hc, hm, fun i hi => ⟨_, rfl, hb, by rw [show (⟨b, 0, none⟩ : Addr).add i = ⟨b, i, none⟩ by unfold Addr.add; split <;> simp_all]; exact hr i _ (by simp [rowCells, hi]), hs _ (List.getElem_mem hi)⟩⟩
theorem rowCells_ins (rs : List Row) (r : Row) (k : Nat) : (rowCells rs).take k ++ r.v :: (rowCells rs).drop k = rowCells (rs.take k ++ r :: rs.drop k) := by simp [rowCells]
set_option maxRecDepth 100000 in
set_option maxHeartbeats 4000000 in
theorem law_missing (A : Option Addr) (n c : Nat) (rs : List Row) (B : Option Addr) (m d : Nat) (hs : List Hop) (z : Int) (wz : (Lit.int .u8 z).wf = true) (w : World) (ht : Tab 65536 w) (hu : Inv w) (h : RS w w.heap.size A n c rs) (hx : HS w w.heap.size B m d hs) :
    Calls Tryz.prog 3 #[.slice A n c, .slice B m d, .int .u8 z] w fun e w' => e = .returned (.bool true) ∧ Below w.heap.size w w' := by
  have HAW := fun w6 (hb : Below w.heap.size w w6) => (awake (K := 65536) w6 (by decide) (ht.below hb)).mono fun e w' (h1 : e = .returned (.bool true) ∧ Below w6.heap.size w6 w') => (⟨h1.1, hb.trans (h1.2.mono hb.size)⟩ : e = .returned (.bool true) ∧ Below w.heap.size w w')
  have HFIN := Lib.hid HAW
  have HF := Lib.hid (fits3_any A n c rs w h)
  have HH := Lib.hid h
  have HX := Lib.hid hx
  have HXL := Lib.hid hx.len
  have HLR := Lib.hid h.len
  have HT := Lib.hid ht
  have HU := Lib.hid hu
  obtain ⟨zn, hzn, hz256⟩ : ∃ zn : Nat, z = zn ∧ zn < 256 := by
    have h1 : IntKind.u8.min ≤ z ∧ z ≤ IntKind.u8.max := by simpa [Lit.wf] using wz
    have h2 : IntKind.u8.min = 0 := by rfl
    have h3 : IntKind.u8.max = 255 := by rfl
    exact ⟨z.toNat, by omega, by omega⟩
  subst hzn
  clear h ht hx hu HAW wz
  go_enter Tryz.func3, Tryz.ntmps3
  go_wp2_with fail
  refine HF.out.mono ?_
  rintro e w1 ⟨b, rfl, hb1⟩
  have HB1 := Lib.hid hb1
  clear hb1
  cases b
  · go_wp2_with fail
    go_ret
    exact ⟨rfl, HB1.out⟩
  have HF1 := Lib.hid (fits1_any B m d hs w1 ((HX.out.below HB1.out).more HB1.out.size))
  go_wp2_with fail
  refine HF1.out.mono ?_
  rintro e w2 ⟨b, rfl, hb2⟩
  have HB2 := Lib.hid (HB1.out.trans (hb2.mono HB1.out.size))
  clear hb2
  cases b
  · go_wp2_with fail
    go_ret
    exact ⟨rfl, HB2.out⟩
  have HS1 := Lib.hid (shorts_any A n c rs w2 ((HH.out.below HB2.out).more HB2.out.size))
  go_wp2_with fail
  refine HS1.out.mono ?_
  rintro e w3 ⟨hor, hb3⟩
  have HB3 := Lib.hid (HB2.out.trans (hb3.mono HB2.out.size))
  clear hb3
  rcases hor with rfl | ⟨rfl, hn60, hsh⟩
  · go_wp2_with fail
    refine (HFIN.out _ HB3.out).mono ?_
    rintro e w4 ⟨rfl, hb4⟩
    have HB4 := Lib.hid hb4
    clear hb4
    go_wp2_with fail
    go_ret
    exact ⟨rfl, HB4.out⟩
  have HSH := Lib.hid hsh
  have HBW := Lib.hid (HB3.out.alloc HB3.out.size (.cells #[.slice B m d] 23))
  have HS2 := Lib.hid (short_any B m d w3.heap.size hs (w3.alloc (.cells #[.slice B m d] 23)) ((HX.out.below HBW.out).more HBW.out.size) ((Blk.new w3 23 #[.slice B m d]).cell 0))
  clear hsh HS1 HF HF1
  go_wp2_with fail
  refine HS2.out.mono ?_
  rintro e w4 ⟨hor, hb4⟩
  have HB4 := Lib.hid (HBW.out.trans (hb4.mono HBW.out.size))
  clear hb4
  rcases hor with rfl | ⟨rfl, hm0, hm20, h100⟩
  · go_wp2_with fail
    refine (HFIN.out _ HB4.out).mono ?_
    rintro e w5 ⟨rfl, hb5⟩
    have HB5 := Lib.hid hb5
    clear hb5
    go_wp2_with fail
    go_ret
    exact ⟨rfl, HB5.out⟩
  have H100 := Lib.hid h100
  clear h100 HS2
  by_cases hn50 : n ≤ 50
  case neg =>
    have hd : decide ((50 : Int) < (n : Int)) = true := by simp; omega
    go_wp2_with fail
    refine (HFIN.out _ HB4.out).mono ?_
    rintro e w5 ⟨rfl, hb5⟩
    have HB5 := Lib.hid hb5
    clear hb5
    go_wp2_with fail
    go_ret
    exact ⟨rfl, HB5.out⟩
  have hd : decide ((50 : Int) < (n : Int)) = false := by simp; omega
  obtain ⟨m1, rfl⟩ : ∃ m1, m = m1 + 1 := ⟨m - 1, by omega⟩
  obtain ⟨ad, eB, hbk, ck, _⟩ := (HX.out.below HB4.out).at_ m1 (by have := HXL.out; omega)
  obtain rfl := eB
  by_cases h6 : (hs[m1]'(by have := HXL.out; omega)).kd % 8 = 6
  · have k6 : (((hs[m1]'(by have := HXL.out; omega)).kd : Int) % 8 == 6) = true := by simp; omega
    generalize hs[m1]'(by have := HXL.out; omega) = y at *
    go_wp2_with fail
    refine (HFIN.out _ HB4.out).mono ?_
    rintro e w5 ⟨rfl, hb5⟩
    have HB5 := Lib.hid hb5
    clear hb5
    go_wp2_with fail
    go_ret
    exact ⟨rfl, HB5.out⟩
  have k6 : (((hs[m1]'(by have := HXL.out; omega)).kd : Int) % 8 == 6) = false := by simp; omega
  have hbad : ∃ r x, hs = r ++ [x] ∧ x.kd % 8 ≠ 6 := by
    have hl : hs.length = m1 + 1 := HXL.out
    have hne : hs ≠ [] := fun e => by rw [e] at hl; simp at hl
    refine ⟨hs.dropLast, hs.getLast hne, (List.dropLast_concat_getLast hne).symm, ?_⟩
    rw [List.getLast_eq_getElem]
    simpa [hl] using h6
  have HBAD := Lib.hid hbad
  obtain ⟨k, hk⟩ : ∃ k, k = zn % (n + 1) := ⟨_, rfl⟩
  have hkn : k ≤ n := by rw [hk]; exact Nat.le_of_lt_succ (Nat.mod_lt _ (Nat.succ_pos n))
  have hmod : ((zn : Int) % ((n : Int) + 1)) = (k : Int) := by rw [hk]; simp
  have hmod2 : ((zn : Int).tmod ((n : Int) + 1)) = (k : Int) := by rw [← hmod]; exact Int.tmod_eq_emod_of_nonneg (by omega)
  have HC := Lib.hid (clone_rows A n c rs w4 ((HH.out.below HB4.out).more HB4.out.size) (by omega))
  generalize hs[m1]'(by have := HXL.out; omega) = y at *
  clear hbad hk h6
  go_wp2_with fail
  refine HC.out.mono ?_
  rintro e w5 ⟨v5, rfl, ho5, hb5⟩
  obtain ⟨A5, c5, rfl⟩ := own_slice ho5
  have hba := (Below.refl _ w5).alloc (Nat.le_refl _) (.cells #[.slice (some ad) (m1 + 1) d] 23)
  have hb46 := hb5.trans (hba.mono hb5.size)
  have HB5 := Lib.hid (HB4.out.trans (hb46.mono HB4.out.size))
  have hne : (Value.slice A5 n c5).ownBlock ≠ some w5.heap.size := fun e => by have := (ho5.lt _ e).2; omega
  have HI := Lib.hid (insert_any (base := w4.heap.size) A5 n c5 k w5.heap.size (.slice (some ad) (m1 + 1) d) (rowCells rs) (w5.alloc (.cells #[.slice (some ad) (m1 + 1) d] 23)) (own_below ho5 hba) (Blk.new _ _ _) hne hkn (by omega) hb46.size (rowCells_one rs) rfl)
  have HS46 := Lib.hid hb46.size
  clear ho5 hb5 hba hb46 hne HC
  go_wp2_with fail
  refine HI.out.mono ?_
  rintro e w6 ⟨b6, c6, rfl, hc6, hm6, hlt6, hrd6, hb6⟩
  have hb06 := HB5.out.trans (hb6.mono (Nat.le_trans HB4.out.size (Nat.le_refl _)))
  obtain ⟨X, hX⟩ : ∃ X : Row, X = ⟨some ad, m1 + 1, d, hs⟩ := ⟨_, rfl⟩
  have hXv : X.v = .slice (some ad) (m1 + 1) d := by rw [hX]; rfl
  rw [← hXv, rowCells_ins] at hrd6
  have hin : ∀ r ∈ rs.take k ++ X :: rs.drop k, r = X ∨ r ∈ rs := fun r hr => by
    rcases List.mem_append.1 hr with h1 | h1
    · exact .inr (List.mem_of_mem_take h1)
    · rcases List.mem_cons.1 h1 with h2 | h2
      · exact .inl h2
      · exact .inr (List.mem_of_mem_drop h2)
  have hll : (rs.take k ++ X :: rs.drop k).length = n + 1 := by have := HLR.out; simp; omega
  have hhs : ∀ r ∈ rs.take k ++ X :: rs.drop k, HS w6 w6.heap.size r.A r.n r.c r.hs := fun r hr => by
    rcases hin r hr with h1 | h1
    · rw [h1, hX]
      exact (HX.out.below hb06).more hb06.size
    · obtain ⟨i, hi, rfl⟩ := List.getElem_of_mem h1
      obtain ⟨_, _, _, _, h2⟩ := HH.out.at_ i hi
      exact (h2.below hb06).more hb06.size
  have hsh : ∀ r ∈ rs.take k ++ X :: rs.drop k, r.Short := fun r hr => by
    rcases hin r hr with h1 | h1
    · rw [h1, hX]
      exact ⟨Nat.succ_ne_zero _, hm20, H100.out⟩
    · obtain ⟨i, hi, rfl⟩ := List.getElem_of_mem h1
      exact HSH.out i hi
  have hlen : ∀ r ∈ rs.take k ++ X :: rs.drop k, r.hs.length = r.n := fun r hr => (hhs r hr).len
  have hmem : X ∈ rs.take k ++ X :: rs.drop k := by simp
  have hrs := rs_ins hll hc6 hm6 hlt6 hrd6 hhs
  have hXh : X.hs = hs := by rw [hX]
  generalize rs.take k ++ X :: rs.drop k = ys at *
  have HAL := Lib.hid (addrlist_any (some ⟨b6, 0, none⟩) (n + 1) c6 ys w6 hrs (by omega) (fun i hi => hsh _ (List.getElem_mem hi)))
  have HB6 := Lib.hid hb06
  have HOK := Lib.hid (show ∀ hs' ∈ ys.map (·.hs), AOk 65536 hs' from fun hs' hh => by
    obtain ⟨r, hr, rfl⟩ := List.mem_map.1 hh
    have h1 := hlen r hr
    have h2 := (hsh r hr).pos
    have h3 := (hsh r hr).le
    exact ⟨fun e => by rw [e] at h1; simp at h1; omega, by omega, fun _ _ => Or.inl (Nat.le_refl _)⟩)
  have HBD := Lib.hid (show ∃ hs' ∈ ys.map (·.hs), ∃ r x, hs' = r ++ [x] ∧ x.kd % 8 ≠ 6 from ⟨hs, List.mem_map.2 ⟨X, hmem, hXh⟩, HBAD.out⟩)
  clear hX hXv hin hll hhs hsh hlen hmem hrs hXh hrd6 hb06 hb6 HI
  go_wp2_with fail
  refine HAL.out.mono ?_
  rintro e w7 ⟨v7, qs, rfl, ho7, hq7, ht7, hb7⟩
  obtain ⟨A7, c7, rfl⟩ := own_slice ho7
  have hl7 : LS w7 w7.heap.size A7 (n + 1) c7 qs := LS.of_own ho7 ht7
  have hb07 := HB6.out.trans (hb7.mono HB6.out.size)
  have HB7 := Lib.hid hb07
  have HNO := Lib.hid (infos_no (K := 65536) A7 (n + 1) c7 qs (ys.map (·.hs)) w7 (HT.out.below hb07) (HU.out.below hb07) hl7 (by rw [hq7, List.map_map]; rfl) HOK.out (by omega) HBD.out)
  clear ho7 hq7 ht7 hb7 hl7 hb07
  go_wp2_with fail
  refine HNO.out.mono ?_
  rintro e w8 ⟨rfl, hb8⟩
  have HB8 := Lib.hid (HB7.out.trans (hb8.mono HB7.out.size))
  clear hb8
  go_wp2_with fail
  refine (HFIN.out _ HB8.out).mono ?_
  rintro e w9 ⟨rfl, hb9⟩
  have HB9 := Lib.hid hb9
  clear hb9
  go_wp2_with fail
  go_ret
  exact ⟨rfl, HB9.out⟩
end Go.Proofs.YtimakhadabenbaaGreatDoor
