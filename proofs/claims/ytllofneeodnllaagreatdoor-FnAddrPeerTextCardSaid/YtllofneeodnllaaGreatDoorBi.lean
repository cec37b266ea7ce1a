/- FnAddrPeerText: the walk. -/
import Derived.Test.YtllofneeodnllaaGreatDoorBh
import Derived.Test.YtllofneeodnllaaGreatDoorPu
import Derived.Test.YtllofneeodnllaaGreatDoorQa
namespace Go.Proofs.YtllofneeodnllaaGreatDoor
open Go.RowKit
attribute [local go_sem ↓] Go.wp_at_zero Go.wp_at_succ
theorem hopCells_snoc (hs : List Hop) (h : Hop) : hopCells (hs ++ [h]) = hopCells hs ++ [.int .u8 h.kd, .slice h.A h.n h.c] := by simp [hopCells]
set_option maxRecDepth 100000 in
set_option maxHeartbeats 1000000 in
theorem clone_own (A : Option Addr) (n c : Nat) (hs : List Hop) (w : World) (h : HS w w.heap.size A n c hs) (hn : n ≤ 1000) :
    Calls Tryz.prog 10 #[.slice A n c] w fun e w' => ∃ v, e = .returned v ∧ w'.ownsRow w.heap.size 32 2 v n (hopCells hs) ∧ Below w.heap.size w w' := by
  obtain ⟨i0, hi0, hz0, hz1, hz2⟩ := info_parts hop_info
  have q : ∀ (w : World) (a : Option Addr) (n c n' c' : Nat), (binOp .eql 22 (.slice a n c) (.slice none n' c')).run Tryz.prog w = .ok (.bool a.isNone) w := fun w a n c n' c' => Lib.run_eql_slice_nil w _ _ a n c n' c' Tryz.underlying22
  have HL := Lib.hid h.len
  rcases A with _ | a
  · have h0 : hs = [] := by
      rcases Nat.eq_zero_or_pos hs.length with h0 | h0
      · exact List.eq_nil_of_length_eq_zero h0
      · obtain ⟨ad, e1, _⟩ := h.at_ 0 h0
        cases e1
    clear h
    go_enter Tryz.func10, Tryz.ntmps10
    go_wp2
    go_ret
    subst h0
    obtain rfl := HL.out
    exact ⟨_, rfl, World.ownsRow_nil _ _ _ _, Below.refl _ _⟩
  · have H := Lib.hid h
    have hB := Lib.hid hn
    clear h hn
    go_enter Tryz.func10, Tryz.ntmps10
    go_wp2_with (at_builtin; refine wpList_append_any _ rfl (.tmp 5) (.tmp 6) _ rfl w.heap.size 32 i0 _ 2 32 Tryz.underlying22 hi0 hz0 hz1 hz2 rfl (by decide) _ _ _ rfl (own_made_at w _ rfl _ 2 (Nat.le_refl _)) w.heap.size (some a) n c (hopCells hs) rfl (H.out.reads.alloc (Nat.le_refl _) _) (hopCells_one hs) ?c1 ?c2 ?c3 ?_)
    case c1 => have := hB.out; unfold maxLen; omega
    case c2 => have := hB.out; omega
    case c3 => simp
    intro v' w1 hown hgrow _hat
    have hbw : Below w.heap.size w w1 := ((Below.refl _ w).alloc (Nat.le_refl _) _).grown hgrow (by simp) (by intro k hk; simp [Value.ownBlock] at hk; omega)
    have hown2 : w1.ownsRow w.heap.size 32 2 v' n (hopCells hs) := hown
    have HO1 := Lib.hid hown2
    have HB1 := Lib.hid hbw
    clear hown hgrow _hat hbw hown2
    go_wp2
    go_ret
    exact ⟨v', rfl, HO1.out, HB1.out⟩
set_option maxRecDepth 100000 in
set_option maxHeartbeats 4000000 in
theorem law_peertext (A : Option Addr) (n c : Nat) (hs : List Hop) (B : Option Addr) (m d : Nat) (l : List UInt8) (w : World) (ht : Tab 65536 w) (h : HS w w.heap.size A n c hs) (hr : RB w w.heap.size B m d l) :
    Calls Tryz.prog 3 #[.slice A n c, .slice B m d] w fun e w' => e = .returned (.bool true) ∧ Below w.heap.size w w' := by
  have HAW := fun w6 (hb : Below w.heap.size w w6) => (awake (K := 65536) w6 (by decide) (ht.below hb)).mono fun e w' (h1 : e = .returned (.bool true) ∧ Below w6.heap.size w6 w') => (⟨h1.1, hb.trans (h1.2.mono hb.size)⟩ : e = .returned (.bool true) ∧ Below w.heap.size w w')
  have HFIN := Lib.hid HAW
  have HF := Lib.hid (fits1_any A n c hs w h)
  have HH := Lib.hid h
  have HL := Lib.hid h.len
  have HT := Lib.hid ht
  have HR := Lib.hid hr
  clear h ht hr HAW
  go_enter Tryz.func3, Tryz.ntmps3
  go_wp2_with fail
  refine HF.out.mono ?_
  rintro e w1 ⟨b, rfl, hb1⟩
  have HB1 := Lib.hid hb1
  clear hb1
  cases b
  · go_wp2_with fail
    go_ret
    exact ⟨rfl, HB1.out⟩
  by_cases hm : m ≤ 2147483647
  case neg =>
    have hd : decide ((2147483647 : Int) < (m : Int)) = true := by simp; omega
    go_wp2_with fail
    go_ret
    exact ⟨rfl, HB1.out⟩
  have hdm : decide ((2147483647 : Int) < (m : Int)) = false := by simp; omega
  have HBW := Lib.hid (HB1.out.alloc HB1.out.size (.cells #[.slice A n c] 22))
  have HS1 := Lib.hid (short_any A n c w1.heap.size hs (w1.alloc (.cells #[.slice A n c] 22)) ((HH.out.below HBW.out).more HBW.out.size) ((Blk.new w1 22 #[.slice A n c]).cell 0))
  go_wp2_with fail
  refine HS1.out.mono ?_
  rintro e w2 ⟨hor, hb2⟩
  have HB2 := Lib.hid (HBW.out.trans (hb2.mono HBW.out.size))
  clear hb2
  rcases hor with rfl | ⟨rfl, hn0, hn20, h100⟩
  · go_wp2_with fail
    refine (HFIN.out _ HB2.out).mono ?_
    rintro e w3 ⟨rfl, hb3⟩
    have HB3 := Lib.hid hb3
    clear hb3
    go_wp2_with fail
    go_ret
    exact ⟨rfl, HB3.out⟩
  by_cases hm1 : m ≤ 100
  case neg =>
    have hd : decide ((100 : Int) < (m : Int)) = true := by simp; omega
    go_wp2_with fail
    refine (HFIN.out _ HB2.out).mono ?_
    rintro e w3 ⟨rfl, hb3⟩
    have HB3 := Lib.hid hb3
    clear hb3
    go_wp2_with fail
    go_ret
    exact ⟨rfl, HB3.out⟩
  have hd : decide ((100 : Int) < (m : Int)) = false := by simp; omega
  have HD := Lib.hid h100
  obtain ⟨i0, hi0, hz0, hz1, hz2⟩ := info_parts hop_info
  have HC := Lib.hid (clone_own A n c hs w2 ((HH.out.below HB2.out).more HB2.out.size) (by omega))
  clear h100 hn0 HS1 HF
  go_wp2_with fail
  refine HC.out.mono ?_
  rintro e w3 ⟨v3, rfl, ho3, hb3⟩
  obtain ⟨A3, c3, rfl⟩ := own_slice ho3
  have HB3 := Lib.hid (HB2.out.trans (hb3.mono HB2.out.size))
  have hb4 := (Below.refl _ w3).alloc (Nat.le_refl _) (.cells #[.int .u8 6, .slice B m d] 32)
  have HO4 := Lib.hid (own_below ho3 hb4)
  have HB4 := Lib.hid (HB3.out.trans (hb4.mono HB3.out.size))
  have HX4 := Lib.hid (hb3.trans (hb4.mono hb3.size))
  have HRN := Lib.hid (reads_new w3 #[.int .u8 6, .slice B m d] 32 2 1 rfl)
  clear ho3 hb3 hb4 HC
  go_wp2_with (at_builtin; (refine wpList_append_any _ rfl _ _ _ rfl w2.heap.size 32 i0 _ 2 32 Tryz.underlying22 hi0 hz0 hz1 hz2 rfl (by decide) _ _ _ rfl HO4.out _ _ 1 1 _ rfl HRN.out ?c0 ?c1 ?c2 ?c3 ?_))
  case c0 => intro u hu; simp at hu; rcases hu with rfl | rfl <;> rfl
  case c1 => unfold maxLen; omega
  case c2 => omega
  case c3 => exact Nat.le_trans HX4.out.size (Nat.le_refl _)
  intro v5 w5 hown5 hgrow5 _hat
  obtain ⟨A5, c5, rfl⟩ := own_slice hown5
  have hb5 : Below w.heap.size w w5 := HB4.out.grown hgrow5 HB4.out.size (fun k hk => Nat.le_trans HB2.out.size (HO4.out.lt k hk).1)
  have hl5 : hopCells hs ++ [.int .u8 6, .slice B m d] = hopCells (hs ++ [(⟨6, B, m, d, l⟩ : Hop)]) := by rw [hopCells_snoc]; rfl
  have hs5 : HS w5 w5.heap.size A5 (n + 1) c5 (hs ++ [(⟨6, B, m, d, l⟩ : Hop)]) := by
    refine HS.of_own (by rw [← hl5]; exact hown5) (fun i hi => ?_)
    by_cases hi2 : i < hs.length
    · rw [List.getElem_append_left hi2]
      obtain ⟨_, _, _, _, _, hr⟩ := HH.out.at_ i hi2
      exact (hr.below hb5).more hb5.size
    · have e : i = hs.length := by simp at hi; omega
      subst e
      simp only [List.getElem_append_right (Nat.le_refl _), Nat.sub_self, List.getElem_cons_zero]
      exact (HR.out.below hb5).more hb5.size
  have hd5 : ∀ i (hi : i < (hs ++ [(⟨6, B, m, d, l⟩ : Hop)]).length), ((hs ++ [(⟨6, B, m, d, l⟩ : Hop)])[i]).n ≤ 100000 := fun i hi => by
    by_cases hi2 : i < hs.length
    · rw [List.getElem_append_left hi2]
      exact Nat.le_trans (HD.out i hi2) (by decide)
    · have e : i = hs.length := by simp at hi; omega
      subst e
      simp only [List.getElem_append_right (Nat.le_refl _), Nat.sub_self, List.getElem_cons_zero]
      omega
  have HA := Lib.hid (addrof_any A5 (n + 1) c5 (hs ++ [(⟨6, B, m, d, l⟩ : Hop)]) w5 hs5 (by omega) hd5)
  have HB5 := Lib.hid hb5
  have hab := addrBytes_le (hs ++ [(⟨6, B, m, d, l⟩ : Hop)])
  have hlh : hs.length ≤ 20 := by have := HL.out; omega
  obtain ⟨M, hM⟩ : ∃ M, M = addrBytes (hs ++ [(⟨6, B, m, d, l⟩ : Hop)]) := ⟨_, rfl⟩
  rw [← hM] at HA hab
  have HMq := Lib.hid hM
  have HLH := Lib.hid hlh
  clear hown5 hgrow5 _hat hb5 hl5 hs5 hd5 hM hlh
  go_wp2_with fail
  refine HA.out.mono ?_
  rintro e w6 ⟨v6, rfl, ho6, hb6⟩
  obtain ⟨A6, c6, rfl⟩ := own_slice ho6
  have hr6 := RB.of_own ho6
  have hb06 := HB5.out.trans (hb6.mono HB5.out.size)
  have HP := Lib.hid (addrpeer_x (K := 65536) A6 _ c6 hs ⟨6, B, m, d, l⟩ w6 (HT.out.below hb06) (fun _ _ => Or.inl (Nat.le_refl _)) (by rw [← HMq.out]; exact hr6) (by have := HLH.out; omega) rfl)
  have HB6 := Lib.hid hb06
  have hidl := idOf_le l
  have HPO := Lib.hid (peerof_x l)
  have HPT := Lib.hid (fun A n c w h => peertext_x A n c (idOf l) w hidl h)
  have HPD := Lib.hid (ipeerdecode_x l)
  have HID := Lib.hid (fun w h => id_any B m d l w h (by omega))
  obtain ⟨I, hI⟩ : ∃ I, I = idOf l := ⟨_, rfl⟩
  rw [← hI] at HPO HPT HPD HID hidl
  have HIq := Lib.hid hI
  clear ho6 hr6 hb6 hb06 hI
  go_wp2_with fail
  refine HP.out.mono ?_
  rintro e w7 ⟨A7, c7, rfl, hr7, hb7⟩
  rw [← HIq.out] at hr7 ⊢
  have HR7 := Lib.hid hr7
  have HB7 := Lib.hid (HB6.out.trans (hb7.mono HB6.out.size))
  have HC7 := Lib.hid (clone_any A7 _ c7 I w7 hr7 (by omega))
  clear hr7 hb7
  go_wp2_with fail
  refine HC7.out.mono ?_
  rintro e w8 ⟨A8, c8, rfl, hr8, hb8⟩
  have HR78 := Lib.hid (HR7.out.next hb8)
  have HB8 := Lib.hid (HB7.out.trans (hb8.mono HB7.out.size))
  have HP8 := Lib.hid (HPO.out A8 c8 w8 hr8)
  clear hr8 hb8
  go_wp2_with fail
  refine HP8.out.mono ?_
  rintro e w9 ⟨A9, c9, rfl, hr9, hb9⟩
  have HR79 := Lib.hid (HR78.out.next hb9)
  have HR9 := Lib.hid hr9
  have HB9 := Lib.hid (HB8.out.trans (hb9.mono HB8.out.size))
  have HT9 := Lib.hid (HPT.out A7 _ c7 w9 HR79.out)
  clear hr9 hb9
  go_wp2_with fail
  refine HT9.out.mono ?_
  rintro e w10 ⟨s, rfl, hs10, hb10⟩
  have HR710 := Lib.hid (HR79.out.next hb10)
  have HR910 := Lib.hid (HR9.out.next hb10)
  have HB10 := Lib.hid (HB9.out.trans (hb10.mono HB9.out.size))
  have HD10 := Lib.hid (HPD.out s hs10 w10)
  clear hs10 hb10
  go_wp2_with fail
  refine HD10.out.mono ?_
  rintro e w11 ⟨A11, c11, rfl, hr11, hb11⟩
  have HR711 := Lib.hid (HR710.out.next hb11)
  have HR911 := Lib.hid (HR910.out.next hb11)
  have HR11 := Lib.hid hr11
  have HB11 := Lib.hid (HB10.out.trans (hb11.mono HB10.out.size))
  have HE1 := Lib.hid (equal_any A9 A7 _ c9 _ c7 I I w11 HR911.out HR711.out)
  have HE2 := Lib.hid (equal_any A11 A7 _ c11 _ c7 I I w11 HR11.out HR711.out)
  rw [beq_self_eq_true] at HE1 HE2
  clear hr11 hb11
  go_wp2_with fail
  refine HE1.out.mono ?_
  rintro e w12 ⟨rfl, rfl⟩
  go_wp2_with fail
  refine HE2.out.mono ?_
  rintro e w12 ⟨rfl, rfl⟩
  have HI11 := Lib.hid (HID.out w11 ((HR.out.below HB11.out).more HB11.out.size))
  go_wp2_with fail
  refine HI11.out.mono ?_
  rintro e w13 ⟨v13, rfl, ho13, hb13⟩
  obtain ⟨A13, c13, rfl⟩ := own_slice ho13
  have HB13 := Lib.hid (HB11.out.trans (hb13.mono HB11.out.size))
  have HE3 := Lib.hid (equal_any A7 A13 _ c7 _ c13 I I w13 (HR711.out.next hb13) (RB.of_own ho13))
  rw [beq_self_eq_true] at HE3
  clear ho13 hb13
  go_wp2_with fail
  refine HE3.out.mono ?_
  rintro e w14 ⟨rfl, rfl⟩
  go_wp2_with fail
  refine (HFIN.out _ HB13.out).mono ?_
  rintro e w15 ⟨rfl, hb15⟩
  have HB15 := Lib.hid hb15
  clear hb15
  go_wp2_with fail
  go_ret
  exact ⟨rfl, HB15.out⟩
end Go.Proofs.YtllofneeodnllaaGreatDoor
