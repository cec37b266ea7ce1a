/- FnAddrTorn: the walk. -/
import Derived.Test.YtpddelepoaichaaGreatDoorTd
import Derived.Test.YtpddelepoaichaaGreatDoorPu
namespace Go.Proofs.YtpddelepoaichaaGreatDoor
open Go.RowKit
variable {K : Nat}
attribute [local go_sem ↓] Go.wp_at_zero Go.wp_at_succ
theorem torn_hop (kd : Nat) (l : List UInt8) : Torn (hopBytes kd l).dropLast := by
  have h8 : kd % 8 = 0 ∨ kd % 8 = 1 ∨ kd % 8 = 2 ∨ kd % 8 = 3 ∨ kd % 8 = 4 ∨ kd % 8 = 5 ∨ kd % 8 = 6 ∨ kd % 8 = 7 := by omega
  have f2 := filled_length l 2
  have f4 := filled_length l 4
  have f16 := filled_length l 16
  have mk : ∀ (tb : List UInt8) (m : Nat), tb.length = m → 0 < m → m ≤ 60 → (∀ (A : Option Addr) (c : Nat) (w : World), Und w → RB w w.heap.size A m c tb → Calls Tryz.prog 48 #[.slice A m c] w (OutE3 w)) → Torn tb := by
    rintro tb m rfl h0 h1 hf
    exact ⟨h0, h1, hf⟩
  have ne2 : filled l 2 ≠ [] := by intro e; rw [e] at f2; simp at f2
  have ne4 : filled l 4 ≠ [] := by intro e; rw [e] at f4; simp at f4
  have ne16 : filled l 16 ≠ [] := by intro e; rw [e] at f16; simp at f16
  unfold hopBytes
  rcases h8 with e | e | e | e | e | e | e | e <;> simp only [e, if_true, if_false, Nat.reduceEqDiff, Nat.succ_ne_zero]
  · rw [List.dropLast_append_of_ne_nil ne4]
    exact mk _ 4 (by simp [f4]) (by decide) (by decide) (fun A c w _ h => torn_4 A c _ w h (by simp [f4]))
  · rw [List.dropLast_append_of_ne_nil ne2]
    exact mk _ 2 (by simp [f2]) (by decide) (by decide) (fun A c w _ h => torn_6 A c _ w h (by simp [f2]))
  · rw [List.dropLast_append_of_ne_nil ne2]
    exact mk _ 3 (by simp [f2]) (by decide) (by decide) (fun A c w _ h => torn_273 A c _ w h (by simp [f2]))
  · exact mk [205] 1 rfl (by decide) (by decide) (fun A c w hu h => torn_code A c 205 w h hu (by decide))
  · exact mk [221] 1 rfl (by decide) (by decide) (fun A c w hu h => torn_code A c 221 w h hu (by decide))
  · exact mk [162] 1 rfl (by decide) (by decide) (fun A c w hu h => torn_code A c 162 w h hu (by decide))
  · obtain ⟨x, y, v, d, hid, _, _, hd, _⟩ := id_form l
    have hl : (idOf l).length = d.length + 2 := by rw [hid]; rfl
    generalize idOf l = L at hl
    have ne : L ≠ [] := by intro e; rw [e] at hl; simp at hl
    rw [List.dropLast_append_of_ne_nil ne, List.append_assoc]
    have hdl : L.dropLast.length = d.length + 1 := by rw [List.length_dropLast, hl]; rfl
    refine mk _ (L.dropLast.length + 3) (by simp) (by omega) (by omega) (fun A c w _ h => torn_421 A c _ L.dropLast w h ?_ (by omega) (by omega))
    rw [hdl, hl]
    simp
    omega
  · rw [List.dropLast_append_of_ne_nil ne16]
    exact mk _ 16 (by simp [f16]) (by decide) (by decide) (fun A c w _ h => torn_41 A c _ w h (by simp [f16]))
theorem addrBytes_snoc (hs : List Hop) (h : Hop) : addrBytes (hs ++ [h]) = addrBytes hs ++ h.bytes := by simp [addrBytes]
theorem torn_take (hs : List Hop) (h : Hop) (m : Nat) (hm : (addrBytes (hs ++ [h])).length = m + 1) : (addrBytes (hs ++ [h])).take m = addrBytes hs ++ (hopBytes h.kd h.l).dropLast := by
  have h2 := (hopBytes_le h.kd h.l).1
  have ne : hopBytes h.kd h.l ≠ [] := by intro e; rw [e] at h2; simp at h2
  have e1 : (addrBytes (hs ++ [h])).take m = (addrBytes (hs ++ [h])).dropLast := by rw [List.dropLast_eq_take, hm]; rfl
  rw [e1, addrBytes_snoc]
  exact List.dropLast_append_of_ne_nil ne
set_option maxRecDepth 100000 in
set_option maxHeartbeats 4000000 in
theorem law_torn (A : Option Addr) (n c : Nat) (hs : List Hop) (w : World) (ht : Tab 65536 w) (hu : Und w) (h : HS w w.heap.size A n c hs) :
    Calls Tryz.prog 4 #[.slice A n c] w fun e w' => e = .returned (.bool true) ∧ Below w.heap.size w w' := by
  have HF := Lib.hid (fits1_any A n c hs w h)
  have HH := Lib.hid h
  have HL := Lib.hid h.len
  have HT := Lib.hid ht
  have HU := Lib.hid hu
  clear h ht hu
  go_enter Tryz.func4, Tryz.ntmps4
  go_wp2_with fail
  refine HF.out.mono ?_
  rintro e w1 ⟨b, rfl, hb1⟩
  have HB1 := Lib.hid hb1
  clear hb1
  cases b
  · go_wp2_with fail
    go_ret
    exact ⟨rfl, HB1.out⟩
  have HBW := Lib.hid (HB1.out.alloc HB1.out.size (.cells #[.slice A n c] 22))
  have HS1 := Lib.hid (short_any A n c w1.heap.size hs (w1.alloc (.cells #[.slice A n c] 22)) ((HH.out.below HBW.out).more HBW.out.size) ((Blk.new w1 22 #[.slice A n c]).cell 0))
  go_wp2_with fail
  refine HS1.out.mono ?_
  rintro e w2 ⟨hor, hb2⟩
  have HB2 := Lib.hid (HBW.out.trans (hb2.mono HBW.out.size))
  clear hb2
  rcases hor with rfl | ⟨rfl, hn0, hn20, h100⟩
  · go_wp2_with fail
    refine (awake _ (by decide) (HT.out.below HB2.out)).mono ?_
    rintro e w3 ⟨rfl, hb3⟩
    have HB3 := Lib.hid (HB2.out.trans (hb3.mono HB2.out.size))
    clear hb3
    go_wp2_with fail
    go_ret
    exact ⟨rfl, HB3.out⟩
  obtain ⟨hs', h', rfl⟩ := last_of hs (by rw [HL.out]; exact hn0)
  have hn : n = hs'.length + 1 := by have := HL.out; simpa using this.symm
  subst hn
  have hd : ∀ i (hi : i < (hs' ++ [h']).length), ((hs' ++ [h'])[i]).n ≤ 100000 := fun i hi => Nat.le_trans (h100 i hi) (by decide)
  have ha := addrof_any A _ c (hs' ++ [h']) w2 ((HH.out.below HB2.out).more HB2.out.size) (by omega) hd
  have hab := addrBytes_le (hs' ++ [h'])
  have hlh : (hs' ++ [h']).length ≤ 20 := by simp; omega
  obtain ⟨m, hm⟩ : ∃ m, (addrBytes (hs' ++ [h'])).length = m + 1 := ⟨(addrBytes (hs' ++ [h'])).length - 1, by
    have := (hopBytes_le h'.kd h'.l).1
    rw [addrBytes_snoc, List.length_append]
    unfold Hop.bytes
    omega⟩
  have htk := torn_take hs' h' m hm
  obtain ⟨M, hM⟩ : ∃ M, M = addrBytes (hs' ++ [h']) := ⟨_, rfl⟩
  rw [← hM] at ha hab hm htk
  unfold OwnB at ha
  rw [hm] at ha hab
  have HTK := Lib.hid htk
  have HA := Lib.hid ha
  have hM1 : m + 1 ≤ 1000 := by omega
  clear hd h100 hn0 ha hM hab hlh HS1 HF htk
  go_wp2_with fail
  refine HA.out.mono ?_
  rintro e w3 ⟨v, rfl, ho, hb3⟩
  obtain ⟨A3, c3, rfl⟩ := own_slice ho
  rw [← hm] at ho
  have hr3 := RB.of_own ho
  rw [hm] at hr3
  have hrt := hr3.take (k := m) (by omega)
  have hcap := hr3.cap
  have hmax : c3 ≤ 9223372036854775807 := hr3.max
  obtain ⟨a3, rfl⟩ : ∃ a, A3 = some a := by
    obtain ⟨ad, e, _⟩ := hr3.reads.2 (by omega)
    exact ⟨ad, e⟩
  rw [HTK.out] at hrt
  have HC := Lib.hid (clone_any (some a3) m c3 _ w3 hrt (by omega))
  have HB3 := Lib.hid (HB2.out.trans (hb3.mono HB2.out.size))
  have hlen : (addrBytes hs' ++ (hopBytes h'.kd h'.l).dropLast).length = m := hrt.len
  have hz : IntKind.i64.wrap ((m : Int) + 1 - 1) = (m : Int) := by rw [show (m : Int) + 1 - 1 = m by omega]; exact IntWalk.i64_in _ (by omega)
  have k0 : (0 : Int) ≤ (m : Int) := by omega
  have k1 : (m : Int) ≤ (c3 : Int) := by omega
  clear ho hb3 hr3 hrt hm
  go_wp2_with fail
  refine HC.out.mono ?_
  rintro e w4 ⟨A4, c4, rfl, hr4, hb4⟩
  have HB4 := Lib.hid (HB3.out.trans (hb4.mono HB3.out.size))
  rw [hlen] at hr4 ⊢
  have HI := Lib.hid (isplit_torn A4 m c4 hs' _ _ w4 (HT.out.below HB4.out) (fun _ _ => Or.inl (Nat.le_refl _)) (HU.out.below HB4.out) hr4 rfl (by omega) (torn_hop h'.kd h'.l))
  clear hr4 hb4 hlen
  go_wp2_with fail
  refine HI.out.mono ?_
  rintro e w5 ⟨rfl, hb5⟩
  have HB5 := Lib.hid (HB4.out.trans (hb5.mono HB4.out.size))
  clear hb5
  obtain ⟨ad, rfl, hbk, c0, c1, _⟩ := (HH.out.below HB5.out).at_ hs'.length (by simp)
  have e1 : (hs' ++ [h'])[hs'.length]'(by simp) = h' := by simp
  rw [e1] at c0 c1
  rw [add_succ _ _ 1 (by decide)] at c1
  have j0 : (0 : Int) ≤ (hs'.length : Int) := by omega
  have jz : IntKind.i64.wrap ((hs'.length : Int) + 1 - 1) = (hs'.length : Int) := by rw [show (hs'.length : Int) + 1 - 1 = hs'.length by omega]; exact IntWalk.i64_in _ (by omega)
  obtain ⟨aa, haa⟩ : ∃ aa, aa = ad.add (hs'.length * 2) := ⟨_, rfl⟩
  rw [← haa] at c0 c1
  have haa' := haa.symm
  have fin : ∀ w6, Below w.heap.size w w6 → Calls Tryz.prog 10 #[] w6 fun e w' => e = .returned (.bool true) ∧ Below w.heap.size w w' := fun w6 hb => (awake w6 (by decide) (HT.out.below hb)).mono fun e w' ⟨h1, h2⟩ => ⟨h1, hb.trans (h2.mono hb.size)⟩
  have HFIN := Lib.hid fin
  clear haa e1 fin
  have h8 : h'.kd % 8 = 0 ∨ h'.kd % 8 = 1 ∨ h'.kd % 8 = 2 ∨ h'.kd % 8 = 3 ∨ h'.kd % 8 = 4 ∨ h'.kd % 8 = 5 ∨ h'.kd % 8 = 6 ∨ h'.kd % 8 = 7 := by omega
  rcases h8 with k8 | k8 | k8 | k8 | k8 | k8 | k8 | k8
  · have k9 : (h'.kd : Int) % 8 = 0 := by omega
    go_wp2_with fail
    refine (HFIN.out w5 HB5.out).mono ?_
    rintro e w6 ⟨rfl, hb6⟩
    have HB6 := Lib.hid hb6
    clear hb6
    go_wp2_with fail
    go_ret
    exact ⟨rfl, HB6.out⟩
  · have k9 : (h'.kd : Int) % 8 = 1 := by omega
    go_wp2_with fail
    refine (HFIN.out w5 HB5.out).mono ?_
    rintro e w6 ⟨rfl, hb6⟩
    have HB6 := Lib.hid hb6
    clear hb6
    go_wp2_with fail
    go_ret
    exact ⟨rfl, HB6.out⟩
  · have k9 : (h'.kd : Int) % 8 = 2 := by omega
    go_wp2_with fail
    refine (HFIN.out w5 HB5.out).mono ?_
    rintro e w6 ⟨rfl, hb6⟩
    have HB6 := Lib.hid hb6
    clear hb6
    go_wp2_with fail
    go_ret
    exact ⟨rfl, HB6.out⟩
  · have k9 : (h'.kd : Int) % 8 = 3 := by omega
    go_wp2_with fail
    refine (HFIN.out w5 HB5.out).mono ?_
    rintro e w6 ⟨rfl, hb6⟩
    have HB6 := Lib.hid hb6
    clear hb6
    go_wp2_with fail
    go_ret
    exact ⟨rfl, HB6.out⟩
  · have k9 : (h'.kd : Int) % 8 = 4 := by omega
    go_wp2_with fail
    refine (HFIN.out w5 HB5.out).mono ?_
    rintro e w6 ⟨rfl, hb6⟩
    have HB6 := Lib.hid hb6
    clear hb6
    go_wp2_with fail
    go_ret
    exact ⟨rfl, HB6.out⟩
  · have k9 : (h'.kd : Int) % 8 = 5 := by omega
    go_wp2_with fail
    refine (HFIN.out w5 HB5.out).mono ?_
    rintro e w6 ⟨rfl, hb6⟩
    have HB6 := Lib.hid hb6
    clear hb6
    go_wp2_with fail
    go_ret
    exact ⟨rfl, HB6.out⟩
  · have k9 : (h'.kd : Int) % 8 = 6 := by omega
    by_cases hn : 0 < h'.n
    · have hd0 : decide ((0 : Int) < (h'.n : Int)) = true := by simp; omega
      go_wp2_with fail
      refine (HFIN.out w5 HB5.out).mono ?_
      rintro e w6 ⟨rfl, hb6⟩
      have HB6 := Lib.hid hb6
      clear hb6
      go_wp2_with fail
      go_ret
      exact ⟨rfl, HB6.out⟩
    · have hd0 : decide ((0 : Int) < (h'.n : Int)) = false := by simp; omega
      go_wp2_with fail
      refine (HFIN.out w5 HB5.out).mono ?_
      rintro e w6 ⟨rfl, hb6⟩
      have HB6 := Lib.hid hb6
      clear hb6
      go_wp2_with fail
      go_ret
      exact ⟨rfl, HB6.out⟩
  · have k9 : (h'.kd : Int) % 8 = 7 := by omega
    go_wp2_with fail
    refine (HFIN.out w5 HB5.out).mono ?_
    rintro e w6 ⟨rfl, hb6⟩
    have HB6 := Lib.hid hb6
    clear hb6
    go_wp2_with fail
    go_ret
    exact ⟨rfl, HB6.out⟩
end Go.Proofs.YtpddelepoaichaaGreatDoor
