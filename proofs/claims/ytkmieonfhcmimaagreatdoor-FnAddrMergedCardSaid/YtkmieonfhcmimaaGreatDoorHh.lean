/- Facts of types, and of a text turned to bytes. No condition. -/
import Derived.Test.YtkmieonfhcmimaaGreatDoorKb
import Derived.Test.YtkmieonfhcmimaaGreatDoorHg
namespace Go.Proofs.YtkmieonfhcmimaaGreatDoor
open Go.RowKit
theorem aslice_info : (Tryz.prog.info? 32).map (fun i => (i.zero, i.size, i.bytes)) = some (some (.slice none 0 0), 1, 24) := by kernel_rfl
theorem pinfo_size : (Tryz.prog.info? 66).map (·.size) = some 2 := by kernel_rfl
theorem conv_id_tb (w : World) (L : List UInt8) (h : L.length ≤ 1000000) : ∃ c w', (convert 64 32 (.string ⟨L.toArray⟩)).run Tryz.prog w = .ok (.slice (some ⟨w.heap.size, 0, none⟩) L.length c) w' ∧
    TB w' ⟨some ⟨w.heap.size, 0, none⟩, L.length, c, L⟩ ∧ Below w.heap.size w w' ∧ w.heap.size < w'.heap.size := by
  refine ⟨grownCap w L.length 0 5, Lib.bytesWorld w 5 ⟨L.toArray⟩, ?_, ⟨RB.of_bytesWorld w 5 L (by unfold maxLen; omega), fun ad e => by injection e with e; subst e; exact ⟨_, _, Lib.bytesWorld_at_new w 5 _⟩⟩, below_bytesWorld _ _ _, by rw [Lib.bytesWorld_size]; omega⟩
  exact Lib.run_convert_string_bytes (P := Tryz.prog) w 64 32 5 ⟨L.toArray⟩ Tryz.underlying64 Tryz.underlying32 Tryz.underlying5
theorem own_caps {w : World} {base : Nat} {e : TypeId} {size n c : Nat} {A : Option Addr} {xs : List Value} (h : w.ownsRow base e size (.slice A n c) n xs) : n ≤ c ∧ c ≤ maxLen := by
  rcases h.2 with ⟨hv, h0⟩ | ⟨g, cap, cur, hv, _, _, hle, hmx, _⟩
  · injection hv with _ h1 hc
    subst hc
    exact ⟨by omega, by simp [maxLen]⟩
  · injection hv with _ _ hc
    subst hc
    exact ⟨hle, hmx⟩
end Go.Proofs.YtkmieonfhcmimaaGreatDoor

/- bytes.Clone: a copy in memory of the call's own. No condition beyond. -/
namespace Go.Proofs.YtkmieonfhcmimaaGreatDoor
open Go.RowKit
attribute [local go_sem ↓] Go.wp_at_zero Go.wp_at_succ
/-- A copy of bytes in memory of the call's own. -/
def OutTB (l : List UInt8) (w : World) (e : Ending) (w' : World) : Prop := ∃ A c, e = .returned (.slice A l.length c) ∧ TB w' ⟨A, l.length, c, l⟩ ∧ Below w.heap.size w w'
set_option maxRecDepth 100000 in
set_option maxHeartbeats 1000000 in
theorem clone_tb (A : Option Addr) (n c : Nat) (l : List UInt8) (w : World) (h : RB w w.heap.size A n c l) (hn : n ≤ 140737488355328) :
    Calls Tryz.prog 44 #[.slice A n c] w (OutTB l w) := by
  obtain ⟨i0, hi0, hz0, hz1, hz2⟩ := info_parts u8_info
  have q : ∀ (w : World) (a : Option Addr) (n c n' c' : Nat), (binOp .eql 32 (.slice a n c) (.slice none n' c')).run Tryz.prog w = .ok (.bool a.isNone) w := fun w a n c n' c' => Lib.run_eql_slice_nil w _ _ a n c n' c' Tryz.underlying32
  have hlen := Lib.hid h.len
  rcases A with _ | a
  · have h0 : l = [] := by
      rcases Nat.eq_zero_or_pos n with h0 | h0
      · exact List.eq_nil_of_length_eq_zero (by rw [hlen.out, h0])
      · obtain ⟨ad, e1, _⟩ := h.reads.2 h0
        cases e1
    have H := Lib.hid h
    clear h
    go_enter Tryz.func44, Tryz.ntmps44
    go_wp2
    go_ret
    subst h0
    exact ⟨none, 0, rfl, ⟨RB.nil_ _ _, fun ad e => by cases e⟩, Below.refl _ _⟩
  · have H := Lib.hid h
    have hB := Lib.hid hn
    clear h hn
    go_enter Tryz.func44, Tryz.ntmps44
    go_wp2_with (at_builtin; refine wpList_append_any _ rfl (.tmp 5) (.tmp 6) _ rfl w.heap.size 5 i0 _ 1 1 Tryz.underlying32 hi0 hz0 hz1 hz2 rfl (by decide) _ _ _ rfl (World.ownsRow_made w #[] 0 (Nat.le_refl _) (Nat.zero_le _) rfl) w.heap.size (some a) n c (bv l) rfl (H.out.reads.alloc (Nat.le_refl _) _) (bv_one l) ?c1 ?c2 ?c3 ?_)
    case c1 => have := hB.out; unfold maxLen; omega
    case c2 => have := hB.out; omega
    case c3 => simp
    intro v' w1 hown hgrow _hat
    go_wp2
    go_ret
    have hown' : w1.ownsRow w.heap.size 5 1 v' l.length (bv l) := by rw [hlen.out]; exact hown
    obtain ⟨A1, c1, rfl⟩ := own_slice hown'
    exact ⟨A1, c1, rfl, TB.of_own hown', (((Below.refl _ w).alloc (Nat.le_refl _) _).grown hgrow (by simp) (by intro k hk; simp [Value.ownBlock] at hk; omega))⟩
end Go.Proofs.YtkmieonfhcmimaaGreatDoor

/- impl.plainInfo: the bytes of an ID and of its addresses. -/
namespace Go.Proofs.YtkmieonfhcmimaaGreatDoor
open Go.RowKit
attribute [local go_sem ↓] Go.wp_at_zero Go.wp_at_succ
theorem TB.set_ {w : World} {p : Part} (h : TB w p) {g : Nat} {t : TypeId} {cs : Array Value} (hb : Blk w g t cs) (hne : 5 ≠ t) (i : Nat) (u : Value) : TB (w.setCell ⟨g, i, none⟩ u) p :=
  h.kept (only_setCell (World.grownBy.refl w _) (.inl rfl) u) (fun ad e e2 => by
    obtain ⟨cs', fr, hc⟩ := h.ty ad e
    injection e2 with e2
    unfold Blk at hb
    rw [e2, hb] at hc
    injection hc with hc
    injection hc with _ ht
    exact hne ht.symm)
theorem iinf_size : (Tryz.prog.info? 44).map (·.size) = some 2 := by kernel_rfl
set_option maxRecDepth 100000 in
set_option maxHeartbeats 4000000 in
theorem plaininfo_x (L : List UInt8) (A : Option Addr) (n c base : Nat) (ts : List Tr) (w : World) (ho : w.ownsRow base 56 1 (.slice A n c) n (trCells ts)) (htr : ∀ t ∈ ts, TrOk w t) (hcs : ∀ t ∈ ts, t.cs.length ≤ 101) (hL : L.length ≤ 1000) (hn : n ≤ 1000) :
    Calls Tryz.prog 26 #[.agg #[.string ⟨L.toArray⟩, .slice A n c]] w fun e w' =>
    ∃ A1 c1 v qs, e = .returned (.agg #[.slice A1 L.length c1, v]) ∧ TB w' ⟨A1, L.length, c1, L⟩ ∧ w'.ownsRow w.heap.size 32 1 v n (partCells qs) ∧ TBs w' qs ∧ qs.map (·.l) = ts.map (fun t => compBytes t.cs) ∧ Below w.heap.size w w' := by
  obtain ⟨j0, hj0, jz0, jz1, jz2⟩ := info_parts aslice_info
  obtain ⟨w0, hw0⟩ : ∃ w0, w0 = (w.alloc (.cells #[.string ⟨L.toArray⟩, .slice A n c] 66)).alloc (.cells #[.slice none 0 0, .slice none 0 0] 44) := ⟨_, rfl⟩
  have hb0 : Below w.heap.size w w0 := by rw [hw0]; exact ((Below.refl _ w).alloc (Nat.le_refl _) _).alloc (by simp) _
  have hk0 : Blk w0 w.heap.size 66 #[.string ⟨L.toArray⟩, .slice A n c] := by rw [hw0]; exact (Blk.new w _ _).alloc _
  have hk1 : Blk w0 (w.heap.size + 1) 44 #[.slice none 0 0, .slice none 0 0] := by rw [hw0]; exact Blk.new_ (by simp) _ _
  obtain ⟨cc, w5, hcv, htb5, hb5, hlt5⟩ := conv_id_tb w0 L (by omega)
  have hs0 : w0.heap.size = w.heap.size + 1 + 1 := by rw [hw0]; simp
  rw [hs0] at hcv htb5
  rw [hw0] at hcv
  have c0 : w0.cell? ⟨w.heap.size, 0, none⟩ = some (.string ⟨L.toArray⟩) := hk0.cell 0
  have hb05 := hb0.trans (hb5.mono hb0.size)
  have hk15 := hk1.below hb5 hk1.lt
  obtain ⟨w6, hw6⟩ : ∃ w6, w6 = w5.alloc (.cells #[.slice (some ⟨w.heap.size + 1 + 1, 0, none⟩) L.length cc, .slice none 0 0] 44) := ⟨_, rfl⟩
  have hn6 : Blk w6 w5.heap.size 44 #[.slice (some ⟨w.heap.size + 1 + 1, 0, none⟩) L.length cc, .slice none 0 0] := by rw [hw6]; exact Blk.new _ _ _
  have hb6 : Below w5.heap.size w5 w6 := by rw [hw6]; exact (Below.refl _ w5).alloc (Nat.le_refl _) _
  have hb06 := hb05.trans (hb6.mono hb05.size)
  have c61 : w6.cell? ⟨w.heap.size, 1, none⟩ = some (.slice A n c) := (((hk0.below hb5 hk0.lt).below hb6 (Nat.lt_of_lt_of_le hk0.lt hb5.size))).cell 1
  have HB6 := Lib.hid hb06
  have HK6 := Lib.hid (hk15.below hb6 hk15.lt)
  have HN6 := Lib.hid hn6
  have HT6 := Lib.hid (htb5.below hb6)
  have HW6 := Lib.hid hw6
  have HW0 := Lib.hid hw0
  have HO := Lib.hid ho
  have HTR := Lib.hid htr
  have HCS := Lib.hid hcs
  have HG5 := Lib.hid (show w.heap.size + 1 < w5.heap.size from Nat.lt_of_lt_of_le hk1.lt hb5.size)
  have hln : ts.length = n := by have := (Reads.of_own ho).1; rw [trCells_length] at this; omega
  have HLN := Lib.hid hln
  rw [hw6] at c61
  have HG := Lib.hid (show ∃ g5, g5 = w5.heap.size from ⟨_, rfl⟩)
  clear hb0 hk0 hk1 hb05 hk15 hw6 hn6 hb6 hb06 htb5 hb5 hlt5 ho htr hcs hln hw0 hs0
  go_enter Tryz.func26, Tryz.ntmps26
  go_wp2_with fail
  rw [← HW6.out]
  obtain ⟨g5, hg5⟩ := HG.out
  have HG5' := Lib.hid hg5
  rw [← hg5] at HN6 HG5 ⊢
  clear hg5
  have HSZ := Lib.hid HB6.out.size
  go_loopw [13] (fun i wr => ∃ k : Nat, k ≤ n ∧ i = .int .i64 k ∧ Below w.heap.size w wr ∧ Blk wr (w.heap.size + 1) 44 #[.slice none 0 0, .slice none 0 0] ∧
    ∃ v qs, Blk wr g5 44 #[.slice (some ⟨w.heap.size + 1 + 1, 0, none⟩) L.length cc, v] ∧ wr.ownsRow w.heap.size 32 1 v k (partCells qs) ∧ TBs wr qs ∧ TB wr ⟨some ⟨w.heap.size + 1 + 1, 0, none⟩, L.length, cc, L⟩ ∧ qs.map (·.l) = (ts.take k).map (fun t => compBytes t.cs)) (fun i _ => n - (intOf i).toNat)
  case atStart => exact ⟨0, by omega, rfl, HB6.out, HK6.out, _, [], HN6.out, World.ownsRow_nil _ _ _ _, fun x hx => by simp at hx, HT6.out, rfl⟩
  case round =>
    obtain ⟨k, hk, rfl, hb, hkr, v, qs, hko, hown, htb, htl, hqs⟩ := hrel
    have HB := Lib.hid hb
    have HKR := Lib.hid hkr
    have HKO := Lib.hid hko
    have HOW := Lib.hid hown
    have HTB := Lib.hid htb
    have HTL := Lib.hid htl
    have HQS := Lib.hid hqs
    by_cases hlt : k < n
    · have hlt' : k < ts.length := by rw [HLN.out]; exact hlt
      obtain ⟨ad, eA, _, hcell⟩ := (Reads.of_own HO.out).2 (by omega)
      obtain rfl := eA
      have hck := hcell k (ts[k]).v (by simp [trCells, hlt'])
      have c5 : wr.cell? (ad.add k) = some (ts[k]).v := (HB.out.cell (World.block_lt_of_cell? _ _ hck)).trans hck
      have htk : ts.take (k + 1) = ts.take k ++ [ts[k]] := List.take_succ_eq_append_getElem hlt'
      have hto := (HTR.out _ (List.getElem_mem hlt')).below HB.out
      have hcl := HCS.out _ (List.getElem_mem hlt')
      generalize ts[k] = t at *
      obtain ⟨g, cg, cs⟩ := t
      have hcl' : cs.length ≤ 101 := hcl
      have HMS := Lib.hid (show MS wr g cs.length cg cs from hto.ms)
      have hM1 : (compBytes cs).length ≤ 10000 := by have := compBytes_le cs; omega
      have HTK := Lib.hid (show (ts.take (k + 1)).map (fun t => compBytes t.cs) = (ts.take k).map (fun t => compBytes t.cs) ++ [compBytes cs] by rw [htk, List.map_append]; rfl)
      have hby := fun w (h : MS w g cs.length cg cs) => bytes_any g cs.length cg cs w h (by omega)
      obtain ⟨M, hM⟩ : ∃ M, M = compBytes cs := ⟨_, rfl⟩
      rw [← hM] at HTK hM1 hby
      have HBY := Lib.hid hby
      unfold Tr.v at c5
      have c1 : wr.cell? ⟨g5, 1, none⟩ = some v := hko.cell 1
      clear hck hcell htk hto hcl hM hlt' hb hkr hko hown htb htl hqs hby
      go_wp2_with fail
      have c1d : wr.drew.cell? ⟨g5, 1, none⟩ = some v := c1
      go_region_law (first
          | (go_simp; go_at_call 45; refine (HBY.out _ (HMS.out.below ((Below.refl _ wr).drew))).mono ?_; rintro e w4 ⟨A4, c4, rfl, hr4, hb4⟩; have hW4 := ((Below.refl _ wr).drew).trans hb4; have c14 : w4.cell? ⟨g5, 1, none⟩ = some v := (hW4.cell HKO.out.lt).trans c1)
          | (go_simp; go_at_call 44; refine (clone_tb A4 _ c4 M _ hr4 (by omega)).mono ?_; rintro e w5 ⟨A5, c5', rfl, htb5, hb5⟩; have hW5 : Below wr.heap.size wr w5 := hW4.trans (hb5.mono hW4.size); have c15 : w5.cell? ⟨g5, 1, none⟩ = some v := (hW5.cell HKO.out.lt).trans c1
             have c16 : (w5.alloc (.cells #[.slice A5 M.length c5'] 32)).cell? ⟨g5, 1, none⟩ = some v := ((hW5.trans (((Below.refl _ w5).alloc (Nat.le_refl _) (.cells #[.slice A5 M.length c5'] 32)).mono hW5.size)).cell HKO.out.lt).trans c1)
          | (have hba := (Below.refl _ w5).alloc (Nat.le_refl _) (.cells #[.slice A5 M.length c5'] 32)
             have hWA := hW5.trans (hba.mono hW5.size)
             have hoa := own_below HOW.out hWA
             (refine step_append_any _ rfl _ _ _ rfl w.heap.size 32 j0 _ 1 24 Tryz.underlying29 hj0 jz0 jz1 jz2 rfl (by decide) _ _ _ rfl hoa _ _ 1 1 _ rfl (reads_new w5 #[.slice A5 M.length c5'] 32 1 1 rfl) (fun u hu => by simp at hu; subst hu; rfl) (by unfold maxLen; omega) (by omega) (Nat.le_trans HB.out.size hWA.size) ?_)
             intro v' w7 hown7 hgrow7 _hat
             obtain ⟨A7, c7, rfl⟩ := own_slice hown7
             have hko7 := (HKO.out.below hWA HKO.out.lt).grown hgrow7 (fun e => own_blk_ne hoa (HKO.out.below hWA HKO.out.lt) (by decide) e.symm)
             have e7 : w7.cell? ⟨g5, 1, none⟩ = some v := hko7.cell 1
             have f7 : w7.frozen? ⟨g5, 1, none⟩ = false := hko7.frozen 1))
      all_goals (
        have hkr7 := (HKR.out.below hWA HKR.out.lt).grown hgrow7 (fun e => own_blk_ne hoa (HKR.out.below hWA HKR.out.lt) (by decide) e.symm)
        have HB7 := Lib.hid ((HB.out.trans (hWA.mono HB.out.size)).grown hgrow7 (Nat.le_trans HB.out.size hWA.size) (fun q hq => (hoa.lt q hq).1))
        have hbs7 : TBs w7 (qs ++ [⟨A5, M.length, c5', M⟩]) := TBs.snoc (fun x hx => ((HTB.out x hx).below hWA).grown hoa (by decide) hgrow7) ((htb5.below hba).grown hoa (by decide) hgrow7)
        have hl7 := (HTL.out.below hWA).grown hoa (by decide) hgrow7
        have hof : w7.ownsRow w.heap.size 32 1 (.slice A7 (k + 1) c7) (k + 1) (partCells (qs ++ [⟨A5, M.length, c5', M⟩])) := by
          rw [partCells_snoc]
          exact hown7
        have HKO7 := Lib.hid hko7
        have HKR7 := Lib.hid hkr7
        have HBS7 := Lib.hid hbs7
        have HL7 := Lib.hid hl7
        have HOF := Lib.hid hof
        clear hown7 hgrow7 _hat hko7 hkr7 hbs7 hl7 hof e7 f7 hoa hWA hba htb5
        go_wp2_with fail
        go_roundw
        case rel =>
          refine ⟨k + 1, by omega, by go_num, HB7.out.setCell (p := ⟨g5, 1, none⟩) (by have := HG5.out; show w.heap.size ≤ g5; omega) _, HKR7.out.far (by have := HG5.out; show w.heap.size + 1 ≠ g5; omega) _, _, qs ++ [⟨A5, M.length, c5', M⟩], HKO7.out.set_ 1 _, own_set HOF.out HKO7.out (by decide) 1 _, fun x hx => (HBS7.out x hx).set_ HKO7.out (by decide) 1 _, HL7.out.set_ HKO7.out (by decide) 1 _, ?_⟩
          rw [List.map_append, HQS.out, HTK.out]; rfl
        case measure => simp [intOf]; omega)
    · obtain rfl : k = n := by omega
      have d0 := HKO.out.cell 0
      have d1 := HKO.out.cell 1
      have e0 := HKR.out.cell 0
      have e1 := HKR.out.cell 1
      have f0 := HKR.out.frozen 0
      have f1 := HKR.out.frozen 1
      have hts := HQS.out
      rw [List.take_of_length_le (by rw [HLN.out]; exact Nat.le_refl _)] at hts
      have HTS2 := Lib.hid hts
      clear hts hb hkr hko hown htb htl hqs
      obtain ⟨A0, c0', rfl⟩ := own_slice HOW.out
      go_wp2_with fail
      have hs1 := HKR.out.set_ 0 (.slice (some ⟨w.heap.size + 1 + 1, 0, none⟩) L.length cc)
      have hst := hs1.set_ 1 (.slice A0 k c0')
      refine bodyPost_ret (results_cell_row rfl _ _ (w.heap.size + 1) 44 #[.slice (some ⟨w.heap.size + 1 + 1, 0, none⟩) L.length cc, .slice A0 k c0'] (0, 0) _ rfl hst Tryz.underlying44 rfl (iinf_size.trans rfl)) rfl ?_
      exact ⟨_, cc, _, qs, rfl, (HTL.out.set_ HKR.out (by decide) 0 _).set_ hs1 (by decide) 1 _, own_set (own_set HOW.out HKR.out (by decide) 0 _) hs1 (by decide) 1 _, fun x hx => ((HTB.out x hx).set_ HKR.out (by decide) 0 _).set_ hs1 (by decide) 1 _, HTS2.out, (HB.out.setCell (p := ⟨w.heap.size + 1, 0, none⟩) (Nat.le_succ _) _).setCell (p := ⟨w.heap.size + 1, 1, none⟩) (Nat.le_succ _) _⟩
end Go.Proofs.YtkmieonfhcmimaaGreatDoor
