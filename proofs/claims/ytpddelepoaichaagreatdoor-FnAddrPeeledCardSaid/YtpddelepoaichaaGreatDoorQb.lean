/- FnAddrPeeled: the walk. -/
import Derived.Test.YtpddelepoaichaaGreatDoorPu
import Derived.Test.YtpddelepoaichaaGreatDoorQa
namespace Go.Proofs.YtpddelepoaichaaGreatDoor
open Go.RowKit
variable {K : Nat}
attribute [local go_sem ↓] Go.wp_at_zero Go.wp_at_succ
theorem take_last (hs : List Hop) (k : Nat) (hk : k < hs.length) : hs.take (k + 1) = hs.take k ++ [hs[k]] := List.take_succ_eq_append_getElem hk
set_option maxRecDepth 100000 in
set_option maxHeartbeats 4000000 in
theorem law_peeled (A : Option Addr) (n c : Nat) (hs : List Hop) (w : World) (ht : Tab 65536 w) (h : HS w w.heap.size A n c hs) :
    Calls Tryz.prog 5 #[.slice A n c] w fun e w' => e = .returned (.bool true) ∧ Below w.heap.size w w' := by
  have HF := Lib.hid (fits1_any A n c hs w h)
  have HH := Lib.hid h
  have HL := Lib.hid h.len
  have HT := Lib.hid ht
  clear h ht
  go_enter Tryz.func5, Tryz.ntmps5
  go_wp2_with fail
  refine HF.out.mono ?_
  rintro e w1 ⟨b, rfl, hb1⟩
  have HB1 := Lib.hid hb1
  clear hb1
  cases b
  · go_wp2_with fail
    go_ret
    exact ⟨rfl, HB1.out⟩
  have HBW := Lib.hid (HB1.out.alloc HB1.out.size (.cells #[.slice A n c] 22))
  have HS1 := Lib.hid (short_any A n c w1.heap.size hs (w1.alloc (.cells #[.slice A n c] 22)) ((HH.out.below HBW.out).more HBW.out.size) ((Blk.new w1 22 #[.slice A n c]).cell 0))
  go_wp2_with fail
  refine HS1.out.mono ?_
  rintro e w2 ⟨hor, hb2⟩
  have HB2 := Lib.hid (HBW.out.trans (hb2.mono HBW.out.size))
  clear hb2
  rcases hor with rfl | ⟨rfl, hn0, hn20, h100⟩
  · go_wp2_with fail
    refine (awake _ (by decide) (HT.out.below HB2.out)).mono ?_
    rintro e w3 ⟨rfl, hb3⟩
    have HB3 := Lib.hid (HB2.out.trans (hb3.mono HB2.out.size))
    clear hb3
    go_wp2_with fail
    go_ret
    exact ⟨rfl, HB3.out⟩
  have hd : ∀ i (hi : i < hs.length), (hs[i]).n ≤ 100000 := fun i hi => Nat.le_trans (h100 i hi) (by decide)
  have HD := Lib.hid hd
  have HC := Lib.hid (clone_hops A n c hs w2 ((HH.out.below HB2.out).more HB2.out.size) (by omega))
  clear hd h100 hn0 HS1 HF
  go_wp2_with fail
  refine HC.out.mono ?_
  rintro e w3 ⟨A3, c3, rfl, hs3, hb3⟩
  have HS3 := Lib.hid hs3
  have HB3 := Lib.hid (HB2.out.trans (hb3.mono HB2.out.size))
  clear hs3 hb3 HC
  go_wp2_with fail
  go_loopw [3] (fun v wr => ∃ k : Nat, k ≤ n ∧ v = .slice A3 k c3 ∧ Below w3.heap.size w3 wr) (fun v _ => lenOf v)
  case atStart => exact ⟨hs.length, by rw [HL.out]; exact Nat.le_refl _, rfl, Below.refl _ _⟩
  case round =>
    obtain ⟨k, hk, rfl, hb⟩ := hrel
    have HBR := Lib.hid hb
    have HB4 := Lib.hid (HB3.out.trans (hb.mono HB3.out.size))
    have HSr := Lib.hid ((HS3.out.below hb).more hb.size)
    clear hb
    rcases k with _ | k
    · go_wp2_with fail
      refine (awake _ (by decide) (HT.out.below HB4.out)).mono ?_
      rintro e w5 ⟨rfl, hb5⟩
      have HB5 := Lib.hid (HB4.out.trans (hb5.mono HB4.out.size))
      clear hb5
      go_wp2_with fail
      go_ret
      exact ⟨rfl, HB5.out⟩
    · have hkl : k < hs.length := by rw [HL.out]; omega
      have htk := take_last hs k hkl
      have hsr := HSr.out.take (k := k + 1) (by omega)
      have hd1 : ∀ i (hi : i < (hs.take (k + 1)).length), ((hs.take (k + 1))[i]).n ≤ 100000 := fun i hi => by
        rw [List.getElem_take]
        exact HD.out i (by rw [List.length_take] at hi; omega)
      rw [htk] at hsr hd1
      have hkm : (hs.take k).length = k := by rw [List.length_take]; omega
      obtain ⟨hs', hhs'⟩ : ∃ hs', hs' = hs.take k := ⟨_, rfl⟩
      obtain ⟨h', hh'⟩ : ∃ h', h' = hs[k] := ⟨_, rfl⟩
      rw [← hhs', ← hh'] at hsr hd1
      rw [← hhs'] at hkm
      clear htk hhs' hh'
      subst hkm
      have hn99 : hs'.length ≤ 99 := by omega
      have hdl := hd1 hs'.length (by simp)
      have hd2 : ∀ i (hi : i < hs'.length), (hs'[i]).n ≤ 100000 := fun i hi => by have := hd1 i (by simp; omega); rwa [List.getElem_append_left hi] at this
      have hcap := hsr.cap
      have hmax : c3 ≤ 9223372036854775807 := hsr.max
      have htk := hsr.take (k := hs'.length) (by omega)
      rw [List.take_left] at htk
      obtain ⟨ad, rfl, hbk, c0, c1, hr⟩ := hsr.at_ hs'.length (by simp)
      have e1 : (hs' ++ [h'])[hs'.length]'(by simp) = h' := by simp
      rw [e1] at c0 c1 hr hdl
      rw [add_succ _ _ 1 (by decide)] at c1
      have k0 : (0 : Int) ≤ (hs'.length : Int) := by omega
      have k1 : (hs'.length : Int) ≤ (c3 : Int) := by omega
      have hz : IntKind.i64.wrap ((hs'.length : Int) + 1 - 1) = (hs'.length : Int) := by rw [show (hs'.length : Int) + 1 - 1 = hs'.length by omega]; exact IntWalk.i64_in _ (by omega)
      obtain ⟨aa, haa⟩ : ∃ aa, aa = ad.add (hs'.length * 2) := ⟨_, rfl⟩
      have hblk : (⟨aa.block, aa.off + 1, none⟩ : Addr).block < wr.heap.size := by rw [haa]; simp only [block_of_add]; exact hbk
      rw [← haa] at c0 c1
      have haa' := haa.symm
      have hab1 := addrBytes_le (hs' ++ [h'])
      have hab0 := addrBytes_le hs'
      have hlh : (hs' ++ [h']).length ≤ 100 := by simp; omega
      have HC1 := Lib.hid c1
      have HR := Lib.hid hr
      have HTK := Lib.hid htk
      have HD1 := Lib.hid hd1
      have HD2 := Lib.hid hd2
      have HSR := Lib.hid hsr
      have HBLK := Lib.hid hblk
      have ha1 := addrof_any (some ad) _ c3 (hs' ++ [h']) wr hsr (by omega) hd1
      obtain ⟨M, hM⟩ : ∃ M, M = addrBytes (hs' ++ [h']) := ⟨_, rfl⟩
      rw [← hM] at ha1 hab1
      have HMq := Lib.hid hM
      have HA1 := Lib.hid ha1
      have hM1 : M.length ≤ 100000 := by omega
      clear hd1 hd2 htk hr c1 hsr e1 haa ha1 hM hblk
      by_cases hk6 : h'.kd % 8 = 6
      · have k8 : ((h'.kd : Int) % 8 == 6) = true := by simp; omega
        obtain ⟨N, hN⟩ : ∃ N, N = addrBytes hs' := ⟨_, rfl⟩
        obtain ⟨I, hI⟩ : ∃ I, I = idOf h'.l := ⟨_, rfl⟩
        have hN1 : N.length ≤ 100000 := by rw [hN]; omega
        have HNq := Lib.hid hN
        have HIq := Lib.hid hI
        clear hN hI hab0 hab1
        go_wp2_with fail
        refine HA1.out.mono ?_
        rintro e w5 ⟨v, rfl, ho, hb5⟩
        obtain ⟨A5, c5, rfl⟩ := own_slice ho
        have hr5 := RB.of_own ho
        rw [HMq.out] at hr5
        have HB5 := Lib.hid (HB4.out.trans (hb5.mono HB4.out.size))
        have HX5 := Lib.hid hb5
        have hsp := isplit_id A5 _ c5 hs' h' w5 (HT.out.below HB5.out) (fun _ _ => Or.inl (Nat.le_refl _)) hr5 hn99 hk6
        rw [← HMq.out, ← HNq.out, ← HIq.out] at hsp
        have HSP := Lib.hid hsp
        clear ho hb5 hr5 hsp
        go_wp2_with fail
        refine HSP.out.mono ?_
        rintro e w6 ⟨A6, c6, B6, d6, rfl, hr6, hr6', hb6⟩
        have HB6 := Lib.hid (HB5.out.trans (hb6.mono HB5.out.size))
        have HX6 := Lib.hid (HX5.out.trans (hb6.mono HX5.out.size))
        have c16 : w6.cell? ⟨aa.block, aa.off + 1, none⟩ = some (.slice h'.A h'.n h'.c) := (HX6.out.cell (p := ⟨aa.block, aa.off + 1, none⟩) HBLK.out).trans HC1.out
        have HR6 := Lib.hid hr6
        have HR6' := Lib.hid hr6'
        have hid := id_any h'.A h'.n h'.c h'.l w6 (HR.out.next HX6.out) hdl
        rw [← HIq.out] at hid
        have HID := Lib.hid hid
        clear hr6 hr6' hb6 hid
        go_wp2_with fail
        refine HID.out.mono ?_
        rintro e w7 ⟨v7, rfl, ho7, hb7⟩
        obtain ⟨A7, c7, rfl⟩ := own_slice ho7
        have HX7 := Lib.hid (HX6.out.trans (hb7.mono HX6.out.size))
        have HB7 := Lib.hid (HB6.out.trans (hb7.mono HB6.out.size))
        have HR7 := Lib.hid (HR6.out.next hb7)
        have HE7 := equal_any B6 A7 _ d6 _ c7 I I w7 (HR6'.out.next hb7) (RB.of_own ho7)
        rw [beq_self_eq_true] at HE7
        have HE := Lib.hid HE7
        clear ho7 hb7 HE7
        go_wp2_with fail
        refine HE.out.mono ?_
        rintro e w8 ⟨rfl, rfl⟩
        have ha8 := addrof_any (some ad) hs'.length c3 hs' w7 (HTK.out.next HX7.out) (by omega) HD2.out
        rw [← HNq.out] at ha8
        have HA8 := Lib.hid ha8
        clear ha8
        go_wp2_with fail
        refine HA8.out.mono ?_
        rintro e w8 ⟨v8, rfl, ho8, hb8⟩
        obtain ⟨A8, c8, rfl⟩ := own_slice ho8
        have HX8 := Lib.hid (HX7.out.trans (hb8.mono HX7.out.size))
        have HE8 := equal_any A6 A8 _ c6 _ c8 N N w8 (HR7.out.next hb8) (RB.of_own ho8)
        rw [beq_self_eq_true] at HE8
        have HEE := Lib.hid HE8
        clear ho8 hb8 HE8
        go_wp2_with fail
        refine HEE.out.mono ?_
        rintro e w9 ⟨rfl, rfl⟩
        go_wp2_with fail
        go_roundw
        case rel => exact ⟨hs'.length, by omega, rfl, HBR.out.trans (HX8.out.mono HBR.out.size)⟩
        case measure => simp [lenOf]
      · have k8 : ((h'.kd : Int) % 8 == 6) = false := by simp; omega
        clear hab0 hab1
        go_wp2_with fail
        refine HA1.out.mono ?_
        rintro e w5 ⟨v, rfl, ho, hb5⟩
        obtain ⟨A5, c5, rfl⟩ := own_slice ho
        have hr5 := RB.of_own ho
        rw [HMq.out] at hr5
        have HB5 := Lib.hid (HB4.out.trans (hb5.mono HB4.out.size))
        have HX5 := Lib.hid hb5
        have hsp := isplit_other A5 _ c5 hs' h' w5 (HT.out.below HB5.out) (fun _ _ => Or.inl (Nat.le_refl _)) hr5 hn99 hk6
        rw [← HMq.out] at hsp
        have HSP := Lib.hid hsp
        clear ho hb5 hr5 hsp
        go_wp2_with fail
        refine HSP.out.mono ?_
        rintro e w6 ⟨A6, c6, B6, d6, rfl, hr6, _, hb6⟩
        have HB6 := Lib.hid (HB5.out.trans (hb6.mono HB5.out.size))
        have HX6 := Lib.hid (HX5.out.trans (hb6.mono HX5.out.size))
        have HR6 := Lib.hid hr6
        have ha7 := addrof_any (some ad) _ c3 (hs' ++ [h']) w6 (HSR.out.next HX6.out) (by omega) HD1.out
        rw [← HMq.out] at ha7
        have HA7 := Lib.hid ha7
        clear hr6 hb6 ha7
        go_wp2_with fail
        refine HA7.out.mono ?_
        rintro e w7 ⟨v7, rfl, ho7, hb7⟩
        obtain ⟨A7, c7, rfl⟩ := own_slice ho7
        have HB7 := Lib.hid (HB6.out.trans (hb7.mono HB6.out.size))
        have HE7 := equal_any A6 A7 _ c6 _ c7 M M w7 (HR6.out.next hb7) (RB.of_own ho7)
        rw [beq_self_eq_true] at HE7
        have HE := Lib.hid HE7
        clear ho7 hb7 HE7
        go_wp2_with fail
        refine HE.out.mono ?_
        rintro e w8 ⟨rfl, rfl⟩
        go_wp2_with fail
        refine (awake _ (by decide) (HT.out.below HB7.out)).mono ?_
        rintro e w8 ⟨rfl, hb8⟩
        have HB8 := Lib.hid (HB7.out.trans (hb8.mono HB7.out.size))
        clear hb8
        go_wp2_with fail
        go_ret
        exact ⟨rfl, HB8.out⟩
end Go.Proofs.YtpddelepoaichaaGreatDoor
