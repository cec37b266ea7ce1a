/- bytes.Clone: a copy in memory of the call's own. No condition beyond. -/
import Derived.Test.YthpcfnegfdcbjaaGreatDoorMk
import Derived.Test.YthpcfnegfdcbjaaGreatDoorHg
import Derived.Test.YthpcfnegfdcbjaaGreatDoorQm
import Derived.Test.YthpcfnegfdcbjaaGreatDoorXn
import Derived.ChangeSlices
import Derived.ChangeArms
namespace Go.Proofs.YthpcfnegfdcbjaaGreatDoor
open Go.RowKit
attribute [local go_sem ↓] Go.wp_at_zero Go.wp_at_succ
/-- A copy of bytes in memory of the call's own. -/
def OutTB (l : List UInt8) (w : World) (e : Ending) (w' : World) : Prop := ∃ A c, e = .returned (.slice A l.length c) ∧ TB w' ⟨A, l.length, c, l⟩ ∧ Below w.heap.size w w'
set_option maxRecDepth 100000 in
set_option maxHeartbeats 1000000 in
theorem clone_tb (A : Option Addr) (n c : Nat) (l : List UInt8) (w : World) (h : RB w w.heap.size A n c l) (hn : n ≤ 140737488355328) :
    Calls Tryz.prog 10 #[.slice A n c] w (OutTB l w) := by
  obtain ⟨i0, hi0, hz0, hz1, hz2⟩ := info_parts u8_info
  have q : ∀ (w : World) (a : Option Addr) (n c n' c' : Nat), (binOp .eql 26 (.slice a n c) (.slice none n' c')).run Tryz.prog w = .ok (.bool a.isNone) w := fun w a n c n' c' => Lib.run_eql_slice_nil w _ _ a n c n' c' Tryz.underlying26
  have hlen := Lib.hid h.len
  rcases A with _ | a
  · have h0 : l = [] := by
      rcases Nat.eq_zero_or_pos n with h0 | h0
      · exact List.eq_nil_of_length_eq_zero (by rw [hlen.out, h0])
      · obtain ⟨ad, e1, _⟩ := h.reads.2 h0
        cases e1
    have H := Lib.hid h
    clear h
    go_enter Tryz.func10, Tryz.ntmps10
    go_wp2
    go_ret
    subst h0
    exact ⟨none, 0, rfl, ⟨RB.nil_ _ _, fun ad e => by cases e⟩, Below.refl _ _⟩
  · have H := Lib.hid h
    have hB := Lib.hid hn
    clear h hn
    go_enter Tryz.func10, Tryz.ntmps10
    go_wp2_with (at_builtin; refine wpList_append_any _ rfl (.tmp 5) (.tmp 6) _ rfl w.heap.size 5 i0 _ 1 1 Tryz.underlying26 hi0 hz0 hz1 hz2 rfl (by decide) _ _ _ rfl (World.ownsRow_made w #[] 0 (Nat.le_refl _) (Nat.zero_le _) rfl) w.heap.size (some a) n c (bv l) rfl (H.out.reads.alloc (Nat.le_refl _) _) (bv_one l) ?c1 ?c2 ?c3 ?_)
    case c1 => have := hB.out; unfold maxLen; omega
    case c2 => have := hB.out; omega
    case c3 => simp
    intro v' w1 hown hgrow _hat
    go_wp2
    go_ret
    have hown' : w1.ownsRow w.heap.size 5 1 v' l.length (bv l) := by rw [hlen.out]; exact hown
    obtain ⟨A1, c1, rfl⟩ := own_slice hown'
    exact ⟨A1, c1, rfl, TB.of_own hown', (((Below.refl _ w).alloc (Nat.le_refl _) _).grown hgrow (by simp) (by intro k hk; simp [Value.ownBlock] at hk; omega))⟩
end Go.Proofs.YthpcfnegfdcbjaaGreatDoor

/- impl.plainInfo: the bytes of an ID and of its addresses. -/
namespace Go.Proofs.YthpcfnegfdcbjaaGreatDoor
open Go.RowKit
attribute [local go_sem ↓] Go.wp_at_zero Go.wp_at_succ
theorem TB.set_ {w : World} {p : Part} (h : TB w p) {g : Nat} {t : TypeId} {cs : Array Value} (hb : Blk w g t cs) (hne : 5 ≠ t) (i : Nat) (u : Value) : TB (w.setCell ⟨g, i, none⟩ u) p :=
  h.kept (only_setCell (World.grownBy.refl w _) (.inl rfl) u) (fun ad e e2 => by
    obtain ⟨cs', fr, hc⟩ := h.ty ad e
    injection e2 with e2
    unfold Blk at hb
    rw [e2, hb] at hc
    injection hc with hc
    injection hc with _ ht
    exact hne ht.symm)
theorem iinf_size : (Tryz.prog.info? 30).map (·.size) = some 2 := by kernel_rfl
set_option maxRecDepth 100000 in
set_option maxHeartbeats 4000000 in
theorem plaininfo_x (L : List UInt8) (A : Option Addr) (n c base : Nat) (ts : List Tr) (w : World) (ho : w.ownsRow base 51 1 (.slice A n c) n (trCells ts)) (htr : ∀ t ∈ ts, TrOk w t) (hcs : ∀ t ∈ ts, t.cs.length ≤ 101) (hL : L.length ≤ 1000) (hn : n ≤ 1000) :
    Calls Tryz.prog 23 #[.agg #[.string ⟨L.toArray⟩, .slice A n c]] w fun e w' =>
    ∃ A1 c1 v qs, e = .returned (.agg #[.slice A1 L.length c1, v]) ∧ TB w' ⟨A1, L.length, c1, L⟩ ∧ w'.ownsRow w.heap.size 26 1 v n (partCells qs) ∧ TBs w' qs ∧ qs.map (·.l) = ts.map (fun t => compBytes t.cs) ∧ Below w.heap.size w w' := by
  obtain ⟨j0, hj0, jz0, jz1, jz2⟩ := info_parts aslice_info
  obtain ⟨w0, hw0⟩ : ∃ w0, w0 = (w.alloc (.cells #[.string ⟨L.toArray⟩, .slice A n c] 63)).alloc (.cells #[.slice none 0 0, .slice none 0 0] 30) := ⟨_, rfl⟩
  have hb0 : Below w.heap.size w w0 := by rw [hw0]; exact ((Below.refl _ w).alloc (Nat.le_refl _) _).alloc (by simp) _
  have hk0 : Blk w0 w.heap.size 63 #[.string ⟨L.toArray⟩, .slice A n c] := by rw [hw0]; exact (Blk.new w _ _).alloc _
  have hk1 : Blk w0 (w.heap.size + 1) 30 #[.slice none 0 0, .slice none 0 0] := by rw [hw0]; exact Blk.new_ (by simp) _ _
  obtain ⟨cc, w5, hcv, htb5, hb5, hlt5⟩ := conv_id_tb w0 L (by omega)
  have hs0 : w0.heap.size = w.heap.size + 1 + 1 := by rw [hw0]; simp
  rw [hs0] at hcv htb5
  rw [hw0] at hcv
  have c0 : w0.cell? ⟨w.heap.size, 0, none⟩ = some (.string ⟨L.toArray⟩) := hk0.cell 0
  have hb05 := hb0.trans (hb5.mono hb0.size)
  have hk15 := hk1.below hb5 hk1.lt
  obtain ⟨w6, hw6⟩ : ∃ w6, w6 = w5.alloc (.cells #[.slice (some ⟨w.heap.size + 1 + 1, 0, none⟩) L.length cc, .slice none 0 0] 30) := ⟨_, rfl⟩
  have hn6 : Blk w6 w5.heap.size 30 #[.slice (some ⟨w.heap.size + 1 + 1, 0, none⟩) L.length cc, .slice none 0 0] := by rw [hw6]; exact Blk.new _ _ _
  have hb6 : Below w5.heap.size w5 w6 := by rw [hw6]; exact (Below.refl _ w5).alloc (Nat.le_refl _) _
  have hb06 := hb05.trans (hb6.mono hb05.size)
  have c61 : w6.cell? ⟨w.heap.size, 1, none⟩ = some (.slice A n c) := (((hk0.below hb5 hk0.lt).below hb6 (Nat.lt_of_lt_of_le hk0.lt hb5.size))).cell 1
  have HB6 := Lib.hid hb06
  have HK6 := Lib.hid (hk15.below hb6 hk15.lt)
  have HN6 := Lib.hid hn6
  have HT6 := Lib.hid (htb5.below hb6)
  have HW6 := Lib.hid hw6
  have HW0 := Lib.hid hw0
  have HO := Lib.hid ho
  have HTR := Lib.hid htr
  have HCS := Lib.hid hcs
  have HG5 := Lib.hid (show w.heap.size + 1 < w5.heap.size from Nat.lt_of_lt_of_le hk1.lt hb5.size)
  have hln : ts.length = n := by have := (Reads.of_own ho).1; rw [trCells_length] at this; omega
  have HLN := Lib.hid hln
  rw [hw6] at c61
  have HG := Lib.hid (show ∃ g5, g5 = w5.heap.size from ⟨_, rfl⟩)
  clear hb0 hk0 hk1 hb05 hk15 hw6 hn6 hb6 hb06 htb5 hb5 hlt5 ho htr hcs hln hw0 hs0
  go_enter Tryz.func23, Tryz.ntmps23
  go_wp2_with fail
  rw [← HW6.out]
  obtain ⟨g5, hg5⟩ := HG.out
  have HG5' := Lib.hid hg5
  rw [← hg5] at HN6 HG5 ⊢
  clear hg5
  have HSZ := Lib.hid HB6.out.size
  go_loopw [13] (fun i wr => ∃ k : Nat, k ≤ n ∧ i = .int .i64 k ∧ Below w.heap.size w wr ∧ Blk wr (w.heap.size + 1) 30 #[.slice none 0 0, .slice none 0 0] ∧
    ∃ v qs, Blk wr g5 30 #[.slice (some ⟨w.heap.size + 1 + 1, 0, none⟩) L.length cc, v] ∧ wr.ownsRow w.heap.size 26 1 v k (partCells qs) ∧ TBs wr qs ∧ TB wr ⟨some ⟨w.heap.size + 1 + 1, 0, none⟩, L.length, cc, L⟩ ∧ qs.map (·.l) = (ts.take k).map (fun t => compBytes t.cs)) (fun i _ => n - (intOf i).toNat)
  case atStart => exact ⟨0, by omega, rfl, HB6.out, HK6.out, _, [], HN6.out, World.ownsRow_nil _ _ _ _, fun x hx => by simp at hx, HT6.out, rfl⟩
  case round =>
    obtain ⟨k, hk, rfl, hb, hkr, v, qs, hko, hown, htb, htl, hqs⟩ := hrel
    have HB := Lib.hid hb
    have HKR := Lib.hid hkr
    have HKO := Lib.hid hko
    have HOW := Lib.hid hown
    have HTB := Lib.hid htb
    have HTL := Lib.hid htl
    have HQS := Lib.hid hqs
    by_cases hlt : k < n
    · have hlt' : k < ts.length := by rw [HLN.out]; exact hlt
      obtain ⟨ad, eA, _, hcell⟩ := (Reads.of_own HO.out).2 (by omega)
      obtain rfl := eA
      have hck := hcell k (ts[k]).v (by simp [trCells, hlt'])
      have c5 : wr.cell? (ad.add k) = some (ts[k]).v := (HB.out.cell (World.block_lt_of_cell? _ _ hck)).trans hck
      have htk : ts.take (k + 1) = ts.take k ++ [ts[k]] := List.take_succ_eq_append_getElem hlt'
      have hto := (HTR.out _ (List.getElem_mem hlt')).below HB.out
      have hcl := HCS.out _ (List.getElem_mem hlt')
      generalize ts[k] = t at *
      obtain ⟨g, cg, cs⟩ := t
      have hcl' : cs.length ≤ 101 := hcl
      have HMS := Lib.hid (show MS wr g cs.length cg cs from hto.ms)
      have hM1 : (compBytes cs).length ≤ 10000 := by have := compBytes_le cs; omega
      have HTK := Lib.hid (show (ts.take (k + 1)).map (fun t => compBytes t.cs) = (ts.take k).map (fun t => compBytes t.cs) ++ [compBytes cs] by rw [htk, List.map_append]; rfl)
      have hby := fun w (h : MS w g cs.length cg cs) => bytes_any g cs.length cg cs w h (by omega)
      obtain ⟨M, hM⟩ : ∃ M, M = compBytes cs := ⟨_, rfl⟩
      rw [← hM] at HTK hM1 hby
      have HBY := Lib.hid hby
      unfold Tr.v at c5
      have c1 : wr.cell? ⟨g5, 1, none⟩ = some v := hko.cell 1
      clear hck hcell htk hto hcl hM hlt' hb hkr hko hown htb htl hqs hby
      go_wp2_with fail
      have c1d : wr.drew.cell? ⟨g5, 1, none⟩ = some v := c1
      go_region_law (first
          | (go_simp; go_at_call 29; refine (HBY.out _ (HMS.out.below ((Below.refl _ wr).drew))).mono ?_; rintro e w4 ⟨A4, c4, rfl, hr4, hb4⟩; have hW4 := ((Below.refl _ wr).drew).trans hb4; have c14 : w4.cell? ⟨g5, 1, none⟩ = some v := (hW4.cell HKO.out.lt).trans c1)
          | (go_simp; go_at_call 10; refine (clone_tb A4 _ c4 M _ hr4 (by omega)).mono ?_; rintro e w5 ⟨A5, c5', rfl, htb5, hb5⟩; have hW5 : Below wr.heap.size wr w5 := hW4.trans (hb5.mono hW4.size); have c15 : w5.cell? ⟨g5, 1, none⟩ = some v := (hW5.cell HKO.out.lt).trans c1
             have c16 : (w5.alloc (.cells #[.slice A5 M.length c5'] 26)).cell? ⟨g5, 1, none⟩ = some v := ((hW5.trans (((Below.refl _ w5).alloc (Nat.le_refl _) (.cells #[.slice A5 M.length c5'] 26)).mono hW5.size)).cell HKO.out.lt).trans c1)
          | (have hba := (Below.refl _ w5).alloc (Nat.le_refl _) (.cells #[.slice A5 M.length c5'] 26)
             have hWA := hW5.trans (hba.mono hW5.size)
             have hoa := own_below HOW.out hWA
             (refine step_append_any _ rfl _ _ _ rfl w.heap.size 26 j0 _ 1 24 Tryz.underlying28 hj0 jz0 jz1 jz2 rfl (by decide) _ _ _ rfl hoa _ _ 1 1 _ rfl (reads_new w5 #[.slice A5 M.length c5'] 26 1 1 rfl) (fun u hu => by simp at hu; subst hu; rfl) (by unfold maxLen; omega) (by omega) (Nat.le_trans HB.out.size hWA.size) ?_)
             intro v' w7 hown7 hgrow7 _hat
             obtain ⟨A7, c7, rfl⟩ := own_slice hown7
             have hko7 := (HKO.out.below hWA HKO.out.lt).grown hgrow7 (fun e => own_blk_ne hoa (HKO.out.below hWA HKO.out.lt) (by decide) e.symm)
             have e7 : w7.cell? ⟨g5, 1, none⟩ = some v := hko7.cell 1
             have f7 : w7.frozen? ⟨g5, 1, none⟩ = false := hko7.frozen 1))
      all_goals (
        have hkr7 := (HKR.out.below hWA HKR.out.lt).grown hgrow7 (fun e => own_blk_ne hoa (HKR.out.below hWA HKR.out.lt) (by decide) e.symm)
        have HB7 := Lib.hid ((HB.out.trans (hWA.mono HB.out.size)).grown hgrow7 (Nat.le_trans HB.out.size hWA.size) (fun q hq => (hoa.lt q hq).1))
        have hbs7 : TBs w7 (qs ++ [⟨A5, M.length, c5', M⟩]) := TBs.snoc (fun x hx => ((HTB.out x hx).below hWA).grown hoa (by decide) hgrow7) ((htb5.below hba).grown hoa (by decide) hgrow7)
        have hl7 := (HTL.out.below hWA).grown hoa (by decide) hgrow7
        have hof : w7.ownsRow w.heap.size 26 1 (.slice A7 (k + 1) c7) (k + 1) (partCells (qs ++ [⟨A5, M.length, c5', M⟩])) := by
          rw [partCells_snoc]
          exact hown7
        have HKO7 := Lib.hid hko7
        have HKR7 := Lib.hid hkr7
        have HBS7 := Lib.hid hbs7
        have HL7 := Lib.hid hl7
        have HOF := Lib.hid hof
        clear hown7 hgrow7 _hat hko7 hkr7 hbs7 hl7 hof e7 f7 hoa hWA hba htb5
        go_wp2_with fail
        go_roundw
        case rel =>
          refine ⟨k + 1, by omega, by go_num, HB7.out.setCell (p := ⟨g5, 1, none⟩) (by have := HG5.out; show w.heap.size ≤ g5; omega) _, HKR7.out.far (by have := HG5.out; show w.heap.size + 1 ≠ g5; omega) _, _, qs ++ [⟨A5, M.length, c5', M⟩], HKO7.out.set_ 1 _, own_set HOF.out HKO7.out (by decide) 1 _, fun x hx => (HBS7.out x hx).set_ HKO7.out (by decide) 1 _, HL7.out.set_ HKO7.out (by decide) 1 _, ?_⟩
          rw [List.map_append, HQS.out, HTK.out]; rfl
        case measure => simp [intOf]; omega)
    · obtain rfl : k = n := by omega
      have d0 := HKO.out.cell 0
      have d1 := HKO.out.cell 1
      have e0 := HKR.out.cell 0
      have e1 := HKR.out.cell 1
      have f0 := HKR.out.frozen 0
      have f1 := HKR.out.frozen 1
      have hts := HQS.out
      rw [List.take_of_length_le (by rw [HLN.out]; exact Nat.le_refl _)] at hts
      have HTS2 := Lib.hid hts
      clear hts hb hkr hko hown htb htl hqs
      obtain ⟨A0, c0', rfl⟩ := own_slice HOW.out
      go_wp2_with fail
      have hs1 := HKR.out.set_ 0 (.slice (some ⟨w.heap.size + 1 + 1, 0, none⟩) L.length cc)
      have hst := hs1.set_ 1 (.slice A0 k c0')
      refine bodyPost_ret (results_cell_row rfl _ _ (w.heap.size + 1) 30 #[.slice (some ⟨w.heap.size + 1 + 1, 0, none⟩) L.length cc, .slice A0 k c0'] (0, 0) _ rfl hst Tryz.underlying30 rfl (iinf_size.trans rfl)) rfl ?_
      exact ⟨_, cc, _, qs, rfl, (HTL.out.set_ HKR.out (by decide) 0 _).set_ hs1 (by decide) 1 _, own_set (own_set HOW.out HKR.out (by decide) 0 _) hs1 (by decide) 1 _, fun x hx => ((HTB.out x hx).set_ HKR.out (by decide) 0 _).set_ hs1 (by decide) 1 _, HTS2.out, (HB.out.setCell (p := ⟨w.heap.size + 1, 0, none⟩) (Nat.le_succ _) _).setCell (p := ⟨w.heap.size + 1, 1, none⟩) (Nat.le_succ _) _⟩
end Go.Proofs.YthpcfnegfdcbjaaGreatDoor

/- impl.AddrInfoOf, impl.AddrInfoOfText: what an address, and its text, tell of a peer. No condition beyond. -/
namespace Go.Proofs.YthpcfnegfdcbjaaGreatDoor
open Go.RowKit
variable {K : Nat}
attribute [local go_sem ↓] Go.wp_at_zero Go.wp_at_succ
theorem pinf_size : (Tryz.prog.info? 63).map (·.size) = some 2 := by kernel_rfl
/-- A peer as data: its ID, and its one address, if there is one. -/
structure InfoIs (w : World) (A1 A2 : Option Addr) (n1 c1 n2 c2 base : Nat) (L : List UInt8) (R : List (List UInt8)) : Prop where
  tb : TB w ⟨A1, n1, c1, L⟩
  ls : ∃ qs, w.ownsRow base 26 1 (.slice A2 n2 c2) n2 (partCells qs) ∧ TBs w qs ∧ qs.map (·.l) = R
theorem InfoIs.below {w w' : World} {A1 A2 : Option Addr} {n1 c1 n2 c2 base : Nat} {L : List UInt8} {R : List (List UInt8)} (h : InfoIs w A1 A2 n1 c1 n2 c2 base L R) (hb : Below w.heap.size w w') : InfoIs w' A1 A2 n1 c1 n2 c2 base L R := by
  obtain ⟨h1, qs, h2, h3, h4⟩ := h
  exact ⟨h1.below hb, qs, own_below h2 hb, fun x hx => (h3 x hx).below hb, h4⟩
/-- What the two doors answer. -/
def OutInf (hs : List Hop) (w : World) (e : Ending) (w' : World) : Prop :=
  (∃ r h, hs = r ++ [h] ∧ h.kd % 8 = 6 ∧ ∃ (A1 A2 : Option Addr) (n1 c1 n2 c2 : Nat), e = .returned (.tuple #[.agg #[.slice A1 n1 c1, .slice A2 n2 c2], .bool true]) ∧ InfoIs w' A1 A2 n1 c1 n2 c2 w.heap.size (idOf h.l) (if r = [] then [] else [addrBytes r]) ∧ Below w.heap.size w w') ∨
  (∃ r h, hs = r ++ [h] ∧ h.kd % 8 ≠ 6 ∧ e = .returned (.tuple #[.agg #[.slice none 0 0, .slice none 0 0], .bool false]) ∧ Below w.heap.size w w')
set_option maxRecDepth 100000 in
set_option maxHeartbeats 4000000 in
theorem infoof_x (A : Option Addr) (n c : Nat) (hs : List Hop) (w : World) (ht : Tab K w) (hu : Inv w) (hok : ∀ x ∈ hs, HopOk K x.kd x.l) (h : RB w w.heap.size A n c (addrBytes hs)) (hn : hs.length ≤ 100) (hne : hs ≠ []) :
    Calls Tryz.prog 9 #[.slice A n c] w (OutInf hs w) := by
  have q0 : ∀ w : World, (binOp .neq 56 .nilIface .nilIface).run Tryz.prog w = .ok (.bool false) w := fun _ => by kernel_rfl
  have qn : ∀ (t : TypeId) (v : Value) (w : World), (binOp .neq 56 (.iface t v) .nilIface).run Tryz.prog w = .ok (.bool true) w := fun _ _ _ => by kernel_rfl
  obtain ⟨w0, hw0⟩ : ∃ w0, w0 = w.alloc (.cells #[.slice none 0 0, .slice none 0 0] 30) := ⟨_, rfl⟩
  have hb0 : Below w.heap.size w w0 := by rw [hw0]; exact (Below.refl _ w).alloc (Nat.le_refl _) _
  have hk0 : Blk w0 w.heap.size 30 #[.slice none 0 0, .slice none 0 0] := by rw [hw0]; exact Blk.new _ _ _
  have HA := Lib.hid (addrof_impl A n c hs w0 (ht.below hb0) hok ((h.below hb0).more hb0.size) hn hne)
  have HU := Lib.hid (hu.below hb0)
  have HB0 := Lib.hid hb0
  have HK0 := Lib.hid hk0
  have HW0 := Lib.hid hw0
  have hs0 : 0 < hs.length := by rcases hs with _ | ⟨x, hs⟩; exact absurd rfl hne; simp
  clear ht hok h hu hne hb0 hk0 hw0
  go_enter Tryz.func9, Tryz.ntmps9
  go_wp2_with fail
  rw [← HW0.out]
  refine HA.out.mono ?_
  rintro e w1 ⟨g, c1, cs, rfl, hcs, hpr, hms, hb⟩
  have hcl : cs.length = hs.length := by rw [← hcs, List.length_map]
  have HI := Lib.hid (infop2p_x g c1 cs w1 (HU.out.below hb) (by omega) (by omega) hpr hms)
  rw [hcs] at HI
  have HB := Lib.hid (HB0.out.trans (hb.mono HB0.out.size))
  have HK1 := Lib.hid (HK0.out.below hb HK0.out.lt)
  rw [hcl] at HI ⊢
  clear hpr hms hb hcs hcl
  go_wp2_with fail
  refine HI.out.mono ?_
  rintro e w2 (⟨r, x, hrx, hk, q, m, c2, A2, ts, rfl, hkq, hown, htr, hm, htb, hb2⟩ | ⟨r, x, hrx, hk, t, v, rfl, hb2⟩)
  · have HPL := Lib.hid (plaininfo_x (idOf x.l) A2 m c2 w1.heap.size ts w2 hown (fun t ht => (htr t ht).1) (fun t ht => (htr t ht).2) (by have := idOf_le x.l; omega) (by omega))
    have hq0 : w2.cell? ⟨q, 0, none⟩ = some (.string ⟨(idOf x.l).toArray⟩) := hkq.cell 0
    have hq1 : w2.cell? ⟨q, 1, none⟩ = some (.slice A2 m c2) := hkq.cell 1
    have hstar := run_loadVar_row (P := Tryz.prog) w2 q 63 63 _ (0, 0) _ hkq Tryz.underlying63 rfl (pinf_size.trans rfl)
    have HB2 := Lib.hid (HB.out.trans (hb2.mono HB.out.size))
    have HTB := Lib.hid htb
    have HRX := Lib.hid hrx
    have HKK := Lib.hid hk
    obtain ⟨L, hL⟩ : ∃ L, L = idOf x.l := ⟨_, rfl⟩
    rw [← hL] at HPL hq0 hstar
    have HL := Lib.hid hL
    have hsz2 := hb2.size
    have HK2 := Lib.hid (HK1.out.below hb2 HK1.out.lt)
    have HBO := Lib.hid (Nat.le_trans HB.out.size (Nat.le_refl _))
    clear hkq hown htr htb hb2 hrx hk hL HI HA
    go_wp2_with fail
    refine HPL.out.mono ?_
    rintro e w3 ⟨A3, c3, v3, qs, rfl, htb3, how3, htbs3, hqs, hb3⟩
    have hk3 := HK2.out.below hb3 HK2.out.lt
    have k0 : w3.cell? ⟨w.heap.size, 0, none⟩ = some (.slice none 0 0) := hk3.cell 0
    have k1 : w3.cell? ⟨w.heap.size, 1, none⟩ = some (.slice none 0 0) := hk3.cell 1
    have f0 := hk3.frozen 0
    have f1 := hk3.frozen 1
    obtain ⟨A4, c4, rfl⟩ := own_slice how3
    have HK3 := Lib.hid hk3
    have HT3 := Lib.hid htb3
    have HO3 := Lib.hid (own_base how3 HB2.out.size)
    have HS3 := Lib.hid htbs3
    have HB3 := Lib.hid (HB2.out.trans (hb3.mono HB2.out.size))
    have HQ3 := Lib.hid (hqs.trans HTB.out)
    clear hk3 htb3 how3 htbs3 hb3 hqs HPL hq0 hq1 hstar
    go_wp2_with fail
    have hs1 := HK3.out.set_ 0 (.slice A3 L.length c3)
    have hst := hs1.set_ 1 (.slice A4 m c4)
    refine bodyPost_ret (results_cell_tmp rfl _ _ w.heap.size 30 #[.slice A3 L.length c3, .slice A4 m c4] (0, 0) _ rfl hst Tryz.underlying30 rfl (iinf_size.trans rfl)) rfl ?_
    refine .inl ⟨r, x, HRX.out, HKK.out, A3, A4, L.length, c3, m, c4, rfl, ⟨?_, qs, own_set (own_set HO3.out HK3.out (by decide) 0 _) hs1 (by decide) 1 _, fun y hy => ((HS3.out y hy).set_ HK3.out (by decide) 0 _).set_ hs1 (by decide) 1 _, HQ3.out⟩, (HB3.out.setCell (p := ⟨w.heap.size, 0, none⟩) (Nat.le_refl _) _).setCell (p := ⟨w.heap.size, 1, none⟩) (Nat.le_refl _) _⟩
    rw [← HL.out]
    exact (HT3.out.set_ HK3.out (by decide) 0 _).set_ hs1 (by decide) 1 _
  · have HB2 := Lib.hid (HB.out.trans (hb2.mono HB.out.size))
    have HRX := Lib.hid hrx
    have HKK := Lib.hid hk
    have hk3 := HK1.out.below hb2 HK1.out.lt
    have k0 : w2.cell? ⟨w.heap.size, 0, none⟩ = some (.slice none 0 0) := hk3.cell 0
    have k1 : w2.cell? ⟨w.heap.size, 1, none⟩ = some (.slice none 0 0) := hk3.cell 1
    have f0 := hk3.frozen 0
    have f1 := hk3.frozen 1
    have HK3 := Lib.hid hk3
    clear hb2 hrx hk HI HA hk3
    go_wp2_with fail
    have hst := (HK3.out.set_ 0 (.slice none 0 0)).set_ 1 (.slice none 0 0)
    refine bodyPost_ret (results_cell_tmp rfl _ _ w.heap.size 30 #[.slice none 0 0, .slice none 0 0] (0, 0) _ rfl hst Tryz.underlying30 rfl (iinf_size.trans rfl)) rfl ?_
    exact .inr ⟨r, x, HRX.out, HKK.out, rfl, (HB2.out.setCell (p := ⟨w.heap.size, 0, none⟩) (Nat.le_refl _) _).setCell (p := ⟨w.heap.size, 1, none⟩) (Nat.le_refl _) _⟩
set_option maxRecDepth 100000 in
set_option maxHeartbeats 4000000 in
theorem infotext_x (A : Option Addr) (n c : Nat) (hs : List Hop) (w : World) (ht : Tab K w) (hu : Inv w) (hok : ∀ x ∈ hs, HopOk K x.kd x.l) (h : RB w w.heap.size A n c (addrBytes hs)) (hn : hs.length ≤ 100) (hne : hs ≠ []) :
    Calls Tryz.prog 11 #[.slice A n c] w (OutInf hs w) := by
  have q0 : ∀ w : World, (binOp .neq 56 .nilIface .nilIface).run Tryz.prog w = .ok (.bool false) w := fun _ => by kernel_rfl
  have qn : ∀ (t : TypeId) (v : Value) (w : World), (binOp .neq 56 (.iface t v) .nilIface).run Tryz.prog w = .ok (.bool true) w := fun _ _ _ => by kernel_rfl
  obtain ⟨w0, hw0⟩ : ∃ w0, w0 = w.alloc (.cells #[.slice none 0 0, .slice none 0 0] 30) := ⟨_, rfl⟩
  have hb0 : Below w.heap.size w w0 := by rw [hw0]; exact (Below.refl _ w).alloc (Nat.le_refl _) _
  have hk0 : Blk w0 w.heap.size 30 #[.slice none 0 0, .slice none 0 0] := by rw [hw0]; exact Blk.new _ _ _
  have HA := Lib.hid (addrof_impl A n c hs w0 (ht.below hb0) hok ((h.below hb0).more hb0.size) hn hne)
  have HU := Lib.hid (hu.below hb0)
  have HT := Lib.hid (ht.below hb0)
  have HOK := Lib.hid hok
  have HNE := Lib.hid hne
  have HB0 := Lib.hid hb0
  have HK0 := Lib.hid hk0
  have HW0 := Lib.hid hw0
  have hs0 : 0 < hs.length := by rcases hs with _ | ⟨x, hs⟩; exact absurd rfl hne; simp
  clear ht hok h hu hne hb0 hk0 hw0
  go_enter Tryz.func11, Tryz.ntmps11
  go_wp2_with fail
  rw [← HW0.out]
  refine HA.out.mono ?_
  rintro e w1 ⟨g, c1, cs, rfl, hcs, hpr, hms, hb⟩
  have hcl : cs.length = hs.length := by rw [← hcs, List.length_map]
  have HM := Lib.hid (mstr_x g cs.length c1 cs w1 (HT.out.below hb) (fun x hx => HOK.out x.1 (by rw [← hcs]; exact List.mem_map_of_mem hx)) hpr hms (by omega))
  have HSB := Lib.hid (fun ps (hp : Txts cs cs.length ps) (hl : (textOf ps).length ≤ 300 * cs.length) (W : World) => stbs_x cs ps W hp (by omega) (by omega) hl)
  have hcb : compBytes cs = addrBytes hs := by unfold compBytes; rw [hcs]
  rw [hcb] at HSB
  have HU1 := Lib.hid (HU.out.below hb)
  have HT1 := Lib.hid (HT.out.below hb)
  have HB := Lib.hid (HB0.out.trans (hb.mono HB0.out.size))
  have HK1 := Lib.hid (HK0.out.below hb HK0.out.lt)
  have HPC := Lib.hid (show Txts cs cs.length = Txts cs hs.length by rw [hcl])
  rw [hcl] at HM HSB ⊢
  clear hpr hms hb hcs hcl hcb
  go_wp2_with fail
  refine HM.out.mono ?_
  rintro e w1s ⟨ps, rfl, htx, hln, hbs⟩
  have HI := Lib.hid (infostr_x ⟨(textOf ps).toArray⟩ hs w1s (HT1.out.below hbs) (HU1.out.below hbs) HOK.out (HSB.out ps htx hln) hn HNE.out)
  have HBS := Lib.hid (HB.out.trans (hbs.mono HB.out.size))
  have HKS := Lib.hid (HK1.out.below hbs HK1.out.lt)
  clear htx hln hbs HM HSB
  go_wp2_with fail
  refine HI.out.mono ?_
  rintro e w2 (⟨r, x, hrx, hk, q, m, c2, A2, ts, rfl, hkq, hown, htr, hm, htb, hb2⟩ | ⟨r, x, hrx, hk, t, v, rfl, hb2⟩)
  · have HPL := Lib.hid (plaininfo_x (idOf x.l) A2 m c2 w1s.heap.size ts w2 hown (fun t ht => (htr t ht).1) (fun t ht => (htr t ht).2) (by have := idOf_le x.l; omega) (by omega))
    have hq0 : w2.cell? ⟨q, 0, none⟩ = some (.string ⟨(idOf x.l).toArray⟩) := hkq.cell 0
    have hq1 : w2.cell? ⟨q, 1, none⟩ = some (.slice A2 m c2) := hkq.cell 1
    have hstar := run_loadVar_row (P := Tryz.prog) w2 q 63 63 _ (0, 0) _ hkq Tryz.underlying63 rfl (pinf_size.trans rfl)
    have HB2 := Lib.hid (HBS.out.trans (hb2.mono HBS.out.size))
    have HTB := Lib.hid htb
    have HRX := Lib.hid hrx
    have HKK := Lib.hid hk
    obtain ⟨L, hL⟩ : ∃ L, L = idOf x.l := ⟨_, rfl⟩
    rw [← hL] at HPL hq0 hstar
    have HL := Lib.hid hL
    have hsz2 := hb2.size
    have HK2 := Lib.hid (HKS.out.below hb2 HKS.out.lt)
    have HBO := Lib.hid (Nat.le_trans HBS.out.size (Nat.le_refl _))
    clear hkq hown htr htb hb2 hrx hk hL HI HA
    go_wp2_with fail
    refine HPL.out.mono ?_
    rintro e w3 ⟨A3, c3, v3, qs, rfl, htb3, how3, htbs3, hqs, hb3⟩
    have hk3 := HK2.out.below hb3 HK2.out.lt
    have k0 : w3.cell? ⟨w.heap.size, 0, none⟩ = some (.slice none 0 0) := hk3.cell 0
    have k1 : w3.cell? ⟨w.heap.size, 1, none⟩ = some (.slice none 0 0) := hk3.cell 1
    have f0 := hk3.frozen 0
    have f1 := hk3.frozen 1
    obtain ⟨A4, c4, rfl⟩ := own_slice how3
    have HK3 := Lib.hid hk3
    have HT3 := Lib.hid htb3
    have HO3 := Lib.hid (own_base how3 HB2.out.size)
    have HS3 := Lib.hid htbs3
    have HB3 := Lib.hid (HB2.out.trans (hb3.mono HB2.out.size))
    have HQ3 := Lib.hid (hqs.trans HTB.out)
    clear hk3 htb3 how3 htbs3 hb3 hqs HPL hq0 hq1 hstar
    go_wp2_with fail
    have hs1 := HK3.out.set_ 0 (.slice A3 L.length c3)
    have hst := hs1.set_ 1 (.slice A4 m c4)
    refine bodyPost_ret (results_cell_tmp rfl _ _ w.heap.size 30 #[.slice A3 L.length c3, .slice A4 m c4] (0, 0) _ rfl hst Tryz.underlying30 rfl (iinf_size.trans rfl)) rfl ?_
    refine .inl ⟨r, x, HRX.out, HKK.out, A3, A4, L.length, c3, m, c4, rfl, ⟨?_, qs, own_set (own_set HO3.out HK3.out (by decide) 0 _) hs1 (by decide) 1 _, fun y hy => ((HS3.out y hy).set_ HK3.out (by decide) 0 _).set_ hs1 (by decide) 1 _, HQ3.out⟩, (HB3.out.setCell (p := ⟨w.heap.size, 0, none⟩) (Nat.le_refl _) _).setCell (p := ⟨w.heap.size, 1, none⟩) (Nat.le_refl _) _⟩
    rw [← HL.out]
    exact (HT3.out.set_ HK3.out (by decide) 0 _).set_ hs1 (by decide) 1 _
  · have HB2 := Lib.hid (HBS.out.trans (hb2.mono HBS.out.size))
    have HRX := Lib.hid hrx
    have HKK := Lib.hid hk
    have hk3 := HKS.out.below hb2 HKS.out.lt
    have k0 : w2.cell? ⟨w.heap.size, 0, none⟩ = some (.slice none 0 0) := hk3.cell 0
    have k1 : w2.cell? ⟨w.heap.size, 1, none⟩ = some (.slice none 0 0) := hk3.cell 1
    have f0 := hk3.frozen 0
    have f1 := hk3.frozen 1
    have HK3 := Lib.hid hk3
    clear hb2 hrx hk HI HA hk3
    go_wp2_with fail
    have hst := (HK3.out.set_ 0 (.slice none 0 0)).set_ 1 (.slice none 0 0)
    refine bodyPost_ret (results_cell_tmp rfl _ _ w.heap.size 30 #[.slice none 0 0, .slice none 0 0] (0, 0) _ rfl hst Tryz.underlying30 rfl (iinf_size.trans rfl)) rfl ?_
    exact .inr ⟨r, x, HRX.out, HKK.out, rfl, (HB2.out.setCell (p := ⟨w.heap.size, 0, none⟩) (Nat.le_refl _) _).setCell (p := ⟨w.heap.size, 1, none⟩) (Nat.le_refl _) _⟩
end Go.Proofs.YthpcfnegfdcbjaaGreatDoor

/- spec.AddrInfo, spec.AddrSame. No condition beyond. -/
namespace Go.Proofs.YthpcfnegfdcbjaaGreatDoor
open Go.RowKit
attribute [local go_sem ↓] Go.wp_at_zero Go.wp_at_succ
set_option maxRecDepth 100000 in
set_option maxHeartbeats 2000000 in
theorem ssplit_none (A : Option Addr) (c : Nat) (hs : List Hop) (h : Hop) (w : World) (hh : HS w w.heap.size A (hs.length + 1) c (hs ++ [h])) (hn : hs.length ≤ 900) (hd : ∀ i (hi : i < (hs ++ [h]).length), ((hs ++ [h])[i]).n ≤ 100000) (hk : h.kd % 8 ≠ 6) :
    Calls Tryz.prog 26 #[.slice A (hs.length + 1) c] w fun e w' => ∃ A1 n1 c1, e = .returned (.tuple #[.slice A1 n1 c1, .slice none 0 0]) ∧ Below w.heap.size w w' := by
  have HC := Lib.hid (addrof_any A _ c (hs ++ [h]) w hh (by omega) hd)
  obtain ⟨ad, rfl, hbk, c0, _, _⟩ := hh.at_ hs.length (by simp)
  have e1 : (hs ++ [h])[hs.length]'(by simp) = h := by simp
  rw [e1] at c0
  have k8 : ((h.kd : Int) % 8 == 6) = false := by simp; omega
  have k8' : ((h.kd : Int) % 8 != 6) = true := by simp; omega
  have k0 : (0 : Int) ≤ (hs.length : Int) := by omega
  have hz : IntKind.i64.wrap ((hs.length : Int) + 1 - 1) = (hs.length : Int) := by rw [show (hs.length : Int) + 1 - 1 = hs.length by omega]; exact IntWalk.i64_in _ (by omega)
  clear hh e1
  go_enter Tryz.func26, Tryz.ntmps26
  go_wp2_with fail
  refine HC.out.mono ?_
  rintro e w1 ⟨v, rfl, ho, hb⟩
  obtain ⟨A1, c1, rfl⟩ := own_slice ho
  have HB := Lib.hid hb
  clear ho hb
  go_wp2_with fail
  go_ret2
  exact ⟨A1, _, c1, rfl, HB.out⟩
theorem RB.apart {w : World} {B n c : Nat} {ad : Addr} {l : List UInt8} (h : RB w B (some ad) n c l) (hn : 0 < n) {g : Nat} {t : TypeId} {cs : Array Value} (hb : Blk w g t cs) (hc : ∀ u ∈ cs.toList, ∀ z, u ≠ .int .u8 z) : ad.block ≠ g := fun e => by
  have hl := h.len
  obtain ⟨ad', e', _, hx⟩ := h.at_ (k := 0) hn (by omega)
  injection e' with e'
  subst e'
  have hz : ad.add 0 = ad := by simp [Addr.add]
  rw [hz] at hx
  unfold Blk at hb
  rw [← e] at hb
  simp only [World.cell?, hb] at hx
  split at hx
  · cases hx
  · exact hc _ (by have := Array.mem_of_getElem? hx; simpa using this) _ rfl
theorem RB.far {w : World} {B n c : Nat} {ad p : Addr} {l : List UInt8} (h : RB w B (some ad) n c l) (hp : ad.block ≠ p.block) (u : Value) : RB (w.setCell p u) B (some ad) n c l :=
  ⟨⟨h.reads.1, fun hn => by
    obtain ⟨ad', e, hb, hc⟩ := h.reads.2 hn
    injection e with e
    subst e
    exact ⟨ad, rfl, hb, fun j x hj => (World.cell?_setCell_other w p _ u (fun e => hp (by have := congrArg Addr.block e; rw [block_of_add] at this; first | exact this | exact this.symm))).trans (hc j x hj)⟩⟩, h.cap, h.max⟩
theorem size_setCell (w : World) (p : Addr) (u : Value) : (w.setCell p u).heap.size = w.heap.size := by simp [World.setCell]
/-- What an address tells of a peer, as the rule has it. -/
def OutSI (hs : List Hop) (w : World) (e : Ending) (w' : World) : Prop :=
  (∃ r h, hs = r ++ [h] ∧ h.kd % 8 = 6 ∧ ∃ (A1 A2 : Option Addr) (n1 c1 n2 c2 : Nat) (ps : List Part), e = .returned (.tuple #[.agg #[.slice A1 n1 c1, .slice A2 n2 c2], .bool true]) ∧ RB w' w'.heap.size A1 n1 c1 (idOf h.l) ∧ LS w' w'.heap.size A2 n2 c2 ps ∧ ps.map (·.l) = (if r = [] then [] else [addrBytes r]) ∧ Below w.heap.size w w') ∨
  (∃ r h, hs = r ++ [h] ∧ h.kd % 8 ≠ 6 ∧ e = .returned (.tuple #[.agg #[.slice none 0 0, .slice none 0 0], .bool false]) ∧ Below w.heap.size w w')
theorem addr_empty (r : List Hop) : (addrBytes r).length = 0 ↔ r = [] := by
  rcases r with _ | ⟨x, r⟩
  · simp [addrBytes]
  · have := (hopBytes_le x.kd x.l).1
    rw [addrBytes_cons, List.length_append]
    unfold Hop.bytes
    constructor
    · intro h; omega
    · intro h; cases h
set_option maxRecDepth 100000 in
set_option maxHeartbeats 4000000 in
theorem sinfo_x (A : Option Addr) (n c : Nat) (hs : List Hop) (w : World) (hh : HS w w.heap.size A n c hs) (hn : hs.length ≤ 100) (hn0 : hs.length ≠ 0) (hd : ∀ i (hi : i < hs.length), (hs[i]).n ≤ 100000) :
    Calls Tryz.prog 12 #[.slice A n c] w (OutSI hs w) := by
  have q : ∀ (w : World) (a : Option Addr) (n c n' c' : Nat), (binOp .eql 26 (.slice a n c) (.slice none n' c')).run Tryz.prog w = .ok (.bool a.isNone) w := fun w a n c n' c' => Lib.run_eql_slice_nil w _ _ a n c n' c' Tryz.underlying26
  obtain ⟨r, x, rfl⟩ := last_of hs hn0
  have hl : (r ++ [x]).length = r.length + 1 := by simp
  obtain rfl : r.length + 1 = n := by rw [← hl]; exact hh.len
  obtain ⟨w0, hw0⟩ : ∃ w0, w0 = w.alloc (.cells #[.slice none 0 0, .slice none 0 0] 30) := ⟨_, rfl⟩
  have hb0 : Below w.heap.size w w0 := by rw [hw0]; exact (Below.refl _ w).alloc (Nat.le_refl _) _
  have hk0 : Blk w0 w.heap.size 30 #[.slice none 0 0, .slice none 0 0] := by rw [hw0]; exact Blk.new _ _ _
  have hh0 := (hh.below hb0).more hb0.size
  rw [hl] at hn
  by_cases hk : x.kd % 8 = 6
  · have HS0 := Lib.hid (ssplit_id A c r x w0 hh0 (by omega) hd hk)
    have HB0 := Lib.hid hb0
    have HK0 := Lib.hid hk0
    have HW0 := Lib.hid hw0
    have hI2 := idOf_two x.l
    have HK := Lib.hid hk
    clear hh hd hb0 hk0 hw0 hh0 hk
    go_enter Tryz.func12, Tryz.ntmps12
    go_wp2_with fail
    rw [← HW0.out]
    refine HS0.out.mono ?_
    rintro e w1 ⟨A1, c1, A2, c2, rfl, hr1, hr2, hb⟩
    obtain ⟨ad2, rfl, _⟩ := hr2.at_ (k := 0) (by omega) (by omega)
    have hk1 := HK0.out.below hb HK0.out.lt
    have HR1 := Lib.hid hr1
    have HR2 := Lib.hid hr2
    have HB1 := Lib.hid (HB0.out.trans (hb.mono HB0.out.size))
    have HK1 := Lib.hid hk1
    have ba : ∀ o, Blk (w1.alloc o) w.heap.size 30 #[.slice none 0 0, .slice none 0 0] := fun o => hk1.alloc o
    have bb : ∀ o o', Blk ((w1.alloc o).alloc o') w.heap.size 30 #[.slice none 0 0, .slice none 0 0] := fun o o' => (hk1.alloc o).alloc o'
    have ka0 : ∀ o, (w1.alloc o).cell? ⟨w.heap.size, 0, none⟩ = some (.slice none 0 0) := fun o => (ba o).cell 0
    have ka1 : ∀ o, (w1.alloc o).cell? ⟨w.heap.size, 1, none⟩ = some (.slice none 0 0) := fun o => (ba o).cell 1
    have kb0 : ∀ o o', ((w1.alloc o).alloc o').cell? ⟨w.heap.size, 0, none⟩ = some (.slice none 0 0) := fun o o' => (bb o o').cell 0
    have kb1 : ∀ o o', ((w1.alloc o).alloc o').cell? ⟨w.heap.size, 1, none⟩ = some (.slice none 0 0) := fun o o' => (bb o o').cell 1
    have fa0 : ∀ o, (w1.alloc o).frozen? ⟨w.heap.size, 0, none⟩ = false := fun o => (ba o).frozen 0
    have fa1 : ∀ o, (w1.alloc o).frozen? ⟨w.heap.size, 1, none⟩ = false := fun o => (ba o).frozen 1
    have fb0 : ∀ o o', ((w1.alloc o).alloc o').frozen? ⟨w.heap.size, 0, none⟩ = false := fun o o' => (bb o o').frozen 0
    have fb1 : ∀ o o', ((w1.alloc o).alloc o').frozen? ⟨w.heap.size, 1, none⟩ = false := fun o o' => (bb o o').frozen 1
    have HAP := Lib.hid (hr2.apart (by omega) hk1 (fun u hu z e => by simp at hu; subst hu; cases e))
    have BA := Lib.hid ba
    have BB := Lib.hid bb
    have hws := Lib.hid hk1.lt
    clear hr1 hr2 hb hk1 HS0 ba bb
    by_cases hr : r = []
    · have h0 : (addrBytes r).length = 0 := (addr_empty r).2 hr
      rw [h0] at HR1 ⊢
      go_wp2_with fail
      have hs1 := (BA.out (.cells #[.slice (some ad2) (idOf x.l).length c2, .slice none 0 0] 30)).set_ 0 (.slice (some ad2) (idOf x.l).length c2)
      have hst := hs1.set_ 1 (.slice none 0 0)
      refine bodyPost_ret (results_cell_tmp rfl _ _ w.heap.size 30 #[.slice (some ad2) (idOf x.l).length c2, .slice none 0 0] (0, 0) _ rfl hst Tryz.underlying30 rfl (iinf_size.trans rfl)) rfl ?_
      have hbn := (Below.refl _ w1).alloc (Nat.le_refl _) (.cells #[.slice (some ad2) (idOf x.l).length c2, .slice none 0 0] 30)
      have hra := HAP.out
      refine .inl ⟨r, x, rfl, HK.out, some ad2, none, (idOf x.l).length, c2, 0, 0, [], rfl, ?_, ⟨rfl, Nat.le_refl _, by simp [maxLen], fun i hi => by simp at hi⟩, by rw [if_pos hr]; rfl, ((HB1.out.trans (hbn.mono HB1.out.size)).setCell (p := ⟨w.heap.size, 0, none⟩) (Nat.le_refl _) _).setCell (p := ⟨w.heap.size, 1, none⟩) (Nat.le_refl _) _⟩
      rw [size_setCell, size_setCell]
      exact ((HR2.out.next hbn).far (p := ⟨w.heap.size, 0, none⟩) hra _).far (p := ⟨w.heap.size, 1, none⟩) hra _
    · have h0 : 0 < (addrBytes r).length := Nat.pos_of_ne_zero (fun e => hr ((addr_empty r).1 e))
      have hd0 : decide ((0 : Int) < ((addrBytes r).length : Int)) = true := by simp; omega
      obtain ⟨T, hT⟩ : ∃ T, T = addrBytes r := ⟨_, rfl⟩
      rw [← hT] at HR1 h0 hd0 ⊢
      have HTT := Lib.hid hT
      clear hT
      obtain ⟨ad1, rfl, _⟩ := HR1.out.at_ (k := 0) h0 (by rw [HR1.out.len]; exact h0)
      have HAP1 := Lib.hid (HR1.out.apart h0 HK1.out (fun u hu z e => by simp at hu; subst hu; cases e))
      go_wp2_with fail
      have hs1 := (BB.out (.cells #[.slice (some ad2) (idOf x.l).length c2, .slice (some ⟨w1.heap.size + 1, 0, none⟩) 1 1] 30) (.cells #[.slice (some ad1) T.length c1] 26)).set_ 0 (.slice (some ad2) (idOf x.l).length c2)
      have hst := hs1.set_ 1 (.slice (some ⟨w1.heap.size + 1, 0, none⟩) 1 1)
      refine bodyPost_ret (results_cell_tmp rfl _ _ w.heap.size 30 #[.slice (some ad2) (idOf x.l).length c2, .slice (some ⟨w1.heap.size + 1, 0, none⟩) 1 1] (0, 0) _ rfl hst Tryz.underlying30 rfl (iinf_size.trans rfl)) rfl ?_
      have hbn := ((Below.refl _ w1).alloc (Nat.le_refl _) (.cells #[.slice (some ad2) (idOf x.l).length c2, .slice (some ⟨w1.heap.size + 1, 0, none⟩) 1 1] 30)).alloc (by simp) (.cells #[.slice (some ad1) T.length c1] 26)
      have hra := HAP.out
      have hra1 := HAP1.out
      have hws' := hws.out
      refine .inl ⟨r, x, rfl, HK.out, some ad2, some ⟨w1.heap.size + 1, 0, none⟩, (idOf x.l).length, c2, 1, 1, [⟨some ad1, T.length, c1, T⟩], rfl, ?_, ⟨rfl, Nat.le_refl _, by simp [maxLen], fun i hi => ?_⟩, by rw [if_neg hr, ← HTT.out]; rfl, ((HB1.out.trans (hbn.mono HB1.out.size)).setCell (p := ⟨w.heap.size, 0, none⟩) (Nat.le_refl _) _).setCell (p := ⟨w.heap.size, 1, none⟩) (Nat.le_refl _) _⟩
      · rw [size_setCell, size_setCell]
        exact ((HR2.out.next hbn).far (p := ⟨w.heap.size, 0, none⟩) hra _).far (p := ⟨w.heap.size, 1, none⟩) hra _
      · obtain rfl : i = 0 := by simp at hi; omega
        have hbk := (((Blk.new_ (by simp : (w1.alloc (.cells #[.slice (some ad2) (idOf x.l).length c2, .slice (some ⟨w1.heap.size + 1, 0, none⟩) 1 1] 30)).heap.size = w1.heap.size + 1) 26 #[.slice (some ad1) T.length c1]).far (p := ⟨w.heap.size, 0, none⟩) (by show w1.heap.size + 1 ≠ w.heap.size; omega) (.slice (some ad2) (idOf x.l).length c2)).far (p := ⟨w.heap.size, 1, none⟩) (by show w1.heap.size + 1 ≠ w.heap.size; omega) (.slice (some ⟨w1.heap.size + 1, 0, none⟩) 1 1))
        refine ⟨_, rfl, hbk.lt, hbk.cell 0, ?_⟩
        rw [size_setCell, size_setCell]
        exact ((HR1.out.next hbn).far (p := ⟨w.heap.size, 0, none⟩) hra1 _).far (p := ⟨w.heap.size, 1, none⟩) hra1 _
  · have HS0 := Lib.hid (ssplit_none A c r x w0 hh0 (by omega) hd hk)
    have HB0 := Lib.hid hb0
    have HK0 := Lib.hid hk0
    have HW0 := Lib.hid hw0
    have HK := Lib.hid hk
    clear hh hd hb0 hk0 hw0 hh0 hk
    go_enter Tryz.func12, Tryz.ntmps12
    go_wp2_with fail
    rw [← HW0.out]
    refine HS0.out.mono ?_
    rintro e w1 ⟨A1, n1, c1, rfl, hb⟩
    have hk1 := HK0.out.below hb HK0.out.lt
    have k0 : w1.cell? ⟨w.heap.size, 0, none⟩ = some (.slice none 0 0) := hk1.cell 0
    have k1 : w1.cell? ⟨w.heap.size, 1, none⟩ = some (.slice none 0 0) := hk1.cell 1
    have f0 := hk1.frozen 0
    have f1 := hk1.frozen 1
    have HB1 := Lib.hid (HB0.out.trans (hb.mono HB0.out.size))
    have HK1 := Lib.hid hk1
    clear hb hk1 HS0
    go_wp2_with fail
    have hst := (HK1.out.set_ 0 (.slice none 0 0)).set_ 1 (.slice none 0 0)
    refine bodyPost_ret (results_cell_tmp rfl _ _ w.heap.size 30 #[.slice none 0 0, .slice none 0 0] (0, 0) _ rfl hst Tryz.underlying30 rfl (iinf_size.trans rfl)) rfl ?_
    exact .inr ⟨r, x, rfl, HK.out, rfl, (HB1.out.setCell (p := ⟨w.heap.size, 0, none⟩) (Nat.le_refl _) _).setCell (p := ⟨w.heap.size, 1, none⟩) (Nat.le_refl _) _⟩
set_option maxRecDepth 100000 in
set_option maxHeartbeats 2000000 in
theorem same_x (A1 A2 B1 B2 : Option Addr) (n1 c1 n2 c2 m1 d1 m2 d2 base : Nat) (L : List UInt8) (R : List (List UInt8)) (ps : List Part) (w : World) (h : InfoIs w A1 A2 n1 c1 n2 c2 base L R) (hr : RB w w.heap.size B1 m1 d1 L) (hl : LS w w.heap.size B2 m2 d2 ps) (hp : ps.map (·.l) = R) :
    Calls Tryz.prog 13 #[.agg #[.slice A1 n1 c1, .slice A2 n2 c2], .agg #[.slice B1 m1 d1, .slice B2 m2 d2]] w fun e w' => e = .returned (.bool true) ∧ Below w.heap.size w w' := by
  have hb := ((Below.refl _ w).alloc (Nat.le_refl _) (.cells #[.slice A1 n1 c1, .slice A2 n2 c2] 30)).alloc (by simp) (.cells #[.slice B1 m1 d1, .slice B2 m2 d2] 30)
  obtain ⟨htb, qs, ho, ht, hq⟩ := h
  have hls := LS.of_own ho ht
  have e2 : n2 = m2 := by
    have h1 := congrArg List.length (hq.trans hp.symm)
    rw [List.length_map, List.length_map] at h1
    have h2 := hls.len
    have h3 := hl.len
    omega
  subst e2
  have heq := equal_any A1 B1 n1 c1 m1 d1 L L _ ((htb.below hb).rb) (hr.next hb)
  rw [beq_self_eq_true] at heq
  have HEQ := Lib.hid heq
  have HEF := Lib.hid (eqfunc_any A2 B2 n2 c2 d2 qs ps _ ((hls.below hb).more hb.size) ((hl.below hb).more hb.size) (hq.trans hp.symm))
  have HB := Lib.hid hb
  clear hr hl hp hb htb ho ht hq hls heq
  go_enter Tryz.func13, Tryz.ntmps13
  go_wp2_with fail
  refine HEQ.out.mono ?_
  rintro e w3 ⟨rfl, rfl⟩
  go_wp2_with fail
  refine HEF.out.mono ?_
  rintro e w4 ⟨rfl, hb4⟩
  have HB4 := Lib.hid (HB.out.trans (hb4.mono HB.out.size))
  clear hb4
  go_wp2_with fail
  go_ret
  exact ⟨rfl, HB4.out⟩
end Go.Proofs.YthpcfnegfdcbjaaGreatDoor

/- FnAddrInfo: the walk. No condition beyond. -/
namespace Go.Proofs.YthpcfnegfdcbjaaGreatDoor
open Go.RowKit
theorem last_uniq {r r' : List Hop} {x x' : Hop} (e : r ++ [x] = r' ++ [x']) : r = r' ∧ x = x' := by
  obtain ⟨h1, h2⟩ := List.append_inj' e rfl
  exact ⟨h1, by simpa using h2⟩
theorem OutInf.yes {r : List Hop} {x : Hop} {w w' : World} {e : Ending} (h : OutInf (r ++ [x]) w e w') (hk : x.kd % 8 = 6) : ∃ (A1 A2 : Option Addr) (n1 c1 n2 c2 : Nat), e = .returned (.tuple #[.agg #[.slice A1 n1 c1, .slice A2 n2 c2], .bool true]) ∧ InfoIs w' A1 A2 n1 c1 n2 c2 w.heap.size (idOf x.l) (if r = [] then [] else [addrBytes r]) ∧ Below w.heap.size w w' := by
  rcases h with ⟨r', x', e1, _, h⟩ | ⟨r', x', e1, hk', _⟩
  · obtain ⟨rfl, rfl⟩ := last_uniq e1
    exact h
  · obtain ⟨rfl, rfl⟩ := last_uniq e1
    exact absurd hk hk'
theorem OutInf.no {r : List Hop} {x : Hop} {w w' : World} {e : Ending} (h : OutInf (r ++ [x]) w e w') (hk : x.kd % 8 ≠ 6) : e = .returned (.tuple #[.agg #[.slice none 0 0, .slice none 0 0], .bool false]) ∧ Below w.heap.size w w' := by
  rcases h with ⟨r', x', e1, hk', _⟩ | ⟨r', x', e1, _, h⟩
  · obtain ⟨rfl, rfl⟩ := last_uniq e1
    exact absurd hk' hk
  · exact h
theorem OutSI.yes {r : List Hop} {x : Hop} {w w' : World} {e : Ending} (h : OutSI (r ++ [x]) w e w') (hk : x.kd % 8 = 6) : ∃ (A1 A2 : Option Addr) (n1 c1 n2 c2 : Nat) (ps : List Part), e = .returned (.tuple #[.agg #[.slice A1 n1 c1, .slice A2 n2 c2], .bool true]) ∧ RB w' w'.heap.size A1 n1 c1 (idOf x.l) ∧ LS w' w'.heap.size A2 n2 c2 ps ∧ ps.map (·.l) = (if r = [] then [] else [addrBytes r]) ∧ Below w.heap.size w w' := by
  rcases h with ⟨r', x', e1, _, h⟩ | ⟨r', x', e1, hk', _⟩
  · obtain ⟨rfl, rfl⟩ := last_uniq e1
    exact h
  · obtain ⟨rfl, rfl⟩ := last_uniq e1
    exact absurd hk hk'
theorem OutSI.no {r : List Hop} {x : Hop} {w w' : World} {e : Ending} (h : OutSI (r ++ [x]) w e w') (hk : x.kd % 8 ≠ 6) : e = .returned (.tuple #[.agg #[.slice none 0 0, .slice none 0 0], .bool false]) ∧ Below w.heap.size w w' := by
  rcases h with ⟨r', x', e1, hk', _⟩ | ⟨r', x', e1, _, h⟩
  · obtain ⟨rfl, rfl⟩ := last_uniq e1
    exact absurd hk' hk
  · exact h
attribute [local go_sem ↓] Go.wp_at_zero Go.wp_at_succ
set_option maxRecDepth 100000 in
set_option maxHeartbeats 4000000 in
theorem law_info (A : Option Addr) (n c : Nat) (hs : List Hop) (w : World) (ht : Tab 65536 w) (hu : Inv w) (h : HS w w.heap.size A n c hs) :
    Calls Tryz.prog 3 #[.slice A n c] w fun e w' => e = .returned (.bool true) ∧ Below w.heap.size w w' := by
  have HF := Lib.hid (fits1_any A n c hs w h)
  have HH := Lib.hid h
  have HL := Lib.hid h.len
  have HT := Lib.hid ht
  have HU := Lib.hid hu
  clear h ht hu
  go_enter Tryz.func3, Tryz.ntmps3
  go_wp2_with fail
  refine HF.out.mono ?_
  rintro e w1 ⟨b, rfl, hb1⟩
  have HB1 := Lib.hid hb1
  clear hb1
  cases b
  · go_wp2_with fail
    go_ret
    exact ⟨rfl, HB1.out⟩
  have HBW := Lib.hid (HB1.out.alloc HB1.out.size (.cells #[.slice A n c] 22))
  have HS1 := Lib.hid (short_any A n c w1.heap.size hs (w1.alloc (.cells #[.slice A n c] 22)) ((HH.out.below HBW.out).more HBW.out.size) ((Blk.new w1 22 #[.slice A n c]).cell 0))
  go_wp2_with fail
  refine HS1.out.mono ?_
  rintro e w2 ⟨hor, hb2⟩
  have HB2 := Lib.hid (HBW.out.trans (hb2.mono HBW.out.size))
  clear hb2
  rcases hor with rfl | ⟨rfl, hn0, hn20, h100⟩
  · go_wp2_with fail
    refine (awake _ (by decide) (HT.out.below HB2.out)).mono ?_
    rintro e w3 ⟨rfl, hb3⟩
    have HB3 := Lib.hid (HB2.out.trans (hb3.mono HB2.out.size))
    clear hb3
    go_wp2_with fail
    go_ret
    exact ⟨rfl, HB3.out⟩
  have hlen := HL.out
  have hd : ∀ i (hi : i < hs.length), (hs[i]).n ≤ 100000 := fun i hi => Nat.le_trans (h100 i hi) (by decide)
  have hle := addrBytes_le hs
  have hne : hs ≠ [] := fun e => by subst e; simp at hlen; omega
  have HD := Lib.hid hd
  have HNE := Lib.hid hne
  have HAO := Lib.hid (addrof_any A n c hs w2 ((HH.out.below HB2.out).more HB2.out.size) (by omega) hd)
  clear h100 hd hne
  go_wp2_with fail
  refine HAO.out.mono ?_
  rintro e w3 ⟨v, rfl, ho, hb⟩
  obtain ⟨A3, c3, rfl⟩ := own_slice ho
  have HR3 := Lib.hid (RB.of_own ho)
  have HB3 := Lib.hid (HB2.out.trans (hb.mono HB2.out.size))
  have HC1 := Lib.hid (clone_any A3 _ c3 _ w3 (RB.of_own ho) (by omega))
  clear ho hb HAO
  go_wp2_with fail
  refine HC1.out.mono ?_
  rintro e w4 ⟨A4, c4, rfl, hr4, hb4⟩
  have HB4 := Lib.hid (HB3.out.trans (hb4.mono HB3.out.size))
  have HR4 := Lib.hid (HR3.out.next hb4)
  have HI1 := Lib.hid (infoof_x A4 _ c4 hs w4 (HT.out.below HB4.out) (HU.out.below HB4.out) (fun x _ => Or.inl (Nat.le_refl _)) hr4 (by omega) HNE.out)
  clear hr4 hb4
  obtain ⟨r, x, hrx⟩ := last_of hs (by omega)
  have HRX := Lib.hid hrx
  have hlen2 : (addrBytes hs).length ≤ 5000 := by omega
  clear hrx
  by_cases hk : x.kd % 8 = 6
  · have HK := Lib.hid hk
    clear hk
    go_wp2_with fail
    refine HI1.out.mono ?_
    rintro e w5 h5
    rw [HRX.out] at h5
    obtain ⟨X1, X2, x1, y1, x2, y2, rfl, hi5, hb5⟩ := h5.yes HK.out
    have hba5 := (Below.refl _ w5).alloc (Nat.le_refl _) (.cells #[.slice X1 x1 y1, .slice X2 x2 y2] 30)
    have hk5 := Blk.new w5 30 #[.slice X1 x1 y1, .slice X2 x2 y2]
    obtain ⟨W5, hW5⟩ : ∃ W5, W5 = w5.alloc (.cells #[.slice X1 x1 y1, .slice X2 x2 y2] 30) := ⟨_, rfl⟩
    obtain ⟨gx, hgx⟩ : ∃ gx, gx = w5.heap.size := ⟨_, rfl⟩
    rw [← hW5] at hba5 hk5
    have HB5 := Lib.hid ((HB4.out.trans (hb5.mono HB4.out.size)).trans (hba5.mono (HB4.out.trans (hb5.mono HB4.out.size)).size))
    have HI5 := Lib.hid (hi5.below hba5)
    have HR5 := Lib.hid ((HR4.out.next hb5).next hba5)
    have HK5 := Lib.hid hk5
    have HW5 := Lib.hid hW5
    have HC2 := Lib.hid (clone_any A3 _ c3 _ W5 HR5.out (by omega))
    clear h5 hi5 hb5 HI1 hba5 hk5 hW5 hgx
    go_wp2_with fail
    rw [← HW5.out]
    refine HC2.out.mono ?_
    rintro e w6 ⟨A6, c6, rfl, hr6, hb6⟩
    have HB6 := Lib.hid (HB5.out.trans (hb6.mono HB5.out.size))
    have HI6 := Lib.hid (HI5.out.below hb6)
    have HK6 := Lib.hid (HK5.out.below hb6 HK5.out.lt)
    have HI2 := Lib.hid (infotext_x A6 _ c6 hs w6 (HT.out.below HB6.out) (HU.out.below HB6.out) (fun x _ => Or.inl (Nat.le_refl _)) hr6 (by omega) HNE.out)
    clear hr6 hb6
    go_wp2_with fail
    refine HI2.out.mono ?_
    rintro e w7 h7
    rw [HRX.out] at h7
    obtain ⟨Y1, Y2, u1, v1, u2, v2, rfl, hi7, hb7⟩ := h7.yes HK.out
    have hba7 := (Below.refl _ w7).alloc (Nat.le_refl _) (.cells #[.slice Y1 u1 v1, .slice Y2 u2 v2] 30)
    have hk7 := Blk.new w7 30 #[.slice Y1 u1 v1, .slice Y2 u2 v2]
    obtain ⟨W7, hW7⟩ : ∃ W7, W7 = w7.alloc (.cells #[.slice Y1 u1 v1, .slice Y2 u2 v2] 30) := ⟨_, rfl⟩
    rw [← hW7] at hba7 hk7
    have hb67 := hb7.trans (hba7.mono hb7.size)
    have HB7 := Lib.hid (HB6.out.trans (hb67.mono HB6.out.size))
    have HI7 := Lib.hid (hi7.below hba7)
    have HJ7 := Lib.hid (HI6.out.below hb67)
    have HX7 := Lib.hid (HK6.out.below hb67 HK6.out.lt)
    have HY7 := Lib.hid hk7
    have HW7 := Lib.hid hW7
    have HSI := Lib.hid (sinfo_x A n c hs W7 ((HH.out.below HB7.out).more HB7.out.size) (by omega) (by omega) HD.out)
    clear h7 hi7 hb7 HI2 hba7 hk7 hW7 hb67
    go_wp2_with fail
    rw [← HW7.out]
    refine HSI.out.mono ?_
    rintro e w8 h8
    rw [HRX.out] at h8
    obtain ⟨Z1, Z2, s1, t1, s2, t2, ps, rfl, hr8, hl8, hp8, hb8⟩ := h8.yes HK.out
    have hba8 := (Below.refl _ w8).alloc (Nat.le_refl _) (.cells #[.slice Z1 s1 t1, .slice Z2 s2 t2] 30)
    have hk8 := Blk.new w8 30 #[.slice Z1 s1 t1, .slice Z2 s2 t2]
    obtain ⟨W8, hW8⟩ : ∃ W8, W8 = w8.alloc (.cells #[.slice Z1 s1 t1, .slice Z2 s2 t2] 30) := ⟨_, rfl⟩
    rw [← hW8] at hba8 hk8
    have hb78 := hb8.trans (hba8.mono hb8.size)
    have HB8 := Lib.hid (HB7.out.trans (hb78.mono HB7.out.size))
    have hX8 := HX7.out.below hb78 HX7.out.lt
    have hY8 := HY7.out.below hb78 HY7.out.lt
    have kx0 : W8.cell? ⟨w5.heap.size, 0, none⟩ = some (.slice X1 x1 y1) := hX8.cell 0
    have kx1 : W8.cell? ⟨w5.heap.size, 1, none⟩ = some (.slice X2 x2 y2) := hX8.cell 1
    have ky0 : W8.cell? ⟨w7.heap.size, 0, none⟩ = some (.slice Y1 u1 v1) := hY8.cell 0
    have ky1 : W8.cell? ⟨w7.heap.size, 1, none⟩ = some (.slice Y2 u2 v2) := hY8.cell 1
    have kz0 : W8.cell? ⟨w8.heap.size, 0, none⟩ = some (.slice Z1 s1 t1) := hk8.cell 0
    have kz1 : W8.cell? ⟨w8.heap.size, 1, none⟩ = some (.slice Z2 s2 t2) := hk8.cell 1
    rw [hW8] at kx0 kx1 ky0 ky1 kz0 kz1
    have HX8 := Lib.hid hX8
    have HY8 := Lib.hid hY8
    have HZ8 := Lib.hid hk8
    have HW8 := Lib.hid hW8
    have HE1 := Lib.hid (fun w' (hb : Below W8.heap.size W8 w') => same_x X1 X2 Z1 Z2 x1 y1 x2 y2 s1 t1 s2 t2 _ _ _ ps w' ((HJ7.out.below hb78).below hb) ((hr8.next hba8).next hb) (((hl8.below hba8).more hba8.size).below hb |>.more hb.size) hp8)
    have HE2 := Lib.hid (fun w' (hb : Below W8.heap.size W8 w') => same_x Y1 Y2 Z1 Z2 u1 v1 u2 v2 s1 t1 s2 t2 _ _ _ ps w' ((HI7.out.below hb78).below hb) ((hr8.next hba8).next hb) (((hl8.below hba8).more hba8.size).below hb |>.more hb.size) hp8)
    clear h8 hr8 hl8 hp8 hb8 HSI hba8 hb78 hk8 hW8 hX8 hY8
    go_wp2_with fail
    rw [← HW8.out]
    refine (HE1.out _ (Below.refl _ _)).mono ?_
    rintro e w9 ⟨rfl, hb9⟩
    have jx0 : w9.cell? ⟨w5.heap.size, 0, none⟩ = some (.slice X1 x1 y1) := (HX8.out.below hb9 HX8.out.lt).cell 0
    have jx1 : w9.cell? ⟨w5.heap.size, 1, none⟩ = some (.slice X2 x2 y2) := (HX8.out.below hb9 HX8.out.lt).cell 1
    have jy0 : w9.cell? ⟨w7.heap.size, 0, none⟩ = some (.slice Y1 u1 v1) := (HY8.out.below hb9 HY8.out.lt).cell 0
    have jy1 : w9.cell? ⟨w7.heap.size, 1, none⟩ = some (.slice Y2 u2 v2) := (HY8.out.below hb9 HY8.out.lt).cell 1
    have jz0 : w9.cell? ⟨w8.heap.size, 0, none⟩ = some (.slice Z1 s1 t1) := (HZ8.out.below hb9 HZ8.out.lt).cell 0
    have jz1 : w9.cell? ⟨w8.heap.size, 1, none⟩ = some (.slice Z2 s2 t2) := (HZ8.out.below hb9 HZ8.out.lt).cell 1
    have HB9 := Lib.hid (HB8.out.trans (hb9.mono HB8.out.size))
    have HE3 := Lib.hid (HE2.out _ hb9)
    clear hb9 HE1 HE2 kx0 kx1 ky0 ky1 kz0 kz1
    go_wp2_with fail
    refine HE3.out.mono ?_
    rintro e wa ⟨rfl, hba⟩
    have HBA := Lib.hid (HB9.out.trans (hba.mono HB9.out.size))
    clear hba jx0 jx1 jy0 jy1 jz0 jz1 HE3
    go_wp2_with fail
    refine (awake _ (by decide) (HT.out.below HBA.out)).mono ?_
    rintro e wb ⟨rfl, hbb⟩
    have HBB := Lib.hid (HBA.out.trans (hbb.mono HBA.out.size))
    clear hbb
    go_wp2_with fail
    go_ret
    exact ⟨rfl, HBB.out⟩
  · have HK := Lib.hid hk
    clear hk
    go_wp2_with fail
    refine HI1.out.mono ?_
    rintro e w5 h5
    rw [HRX.out] at h5
    obtain ⟨rfl, hb5⟩ := h5.no HK.out
    have hba5 := (Below.refl _ w5).alloc (Nat.le_refl _) (.cells #[.slice none 0 0, .slice none 0 0] 30)
    obtain ⟨W5, hW5⟩ : ∃ W5, W5 = w5.alloc (.cells #[.slice none 0 0, .slice none 0 0] 30) := ⟨_, rfl⟩
    rw [← hW5] at hba5
    have HB5 := Lib.hid ((HB4.out.trans (hb5.mono HB4.out.size)).trans (hba5.mono (HB4.out.trans (hb5.mono HB4.out.size)).size))
    have HR5 := Lib.hid ((HR4.out.next hb5).next hba5)
    have HW5 := Lib.hid hW5
    have HC2 := Lib.hid (clone_any A3 _ c3 _ W5 HR5.out (by omega))
    clear h5 hb5 HI1 hba5 hW5
    go_wp2_with fail
    rw [← HW5.out]
    refine HC2.out.mono ?_
    rintro e w6 ⟨A6, c6, rfl, hr6, hb6⟩
    have HB6 := Lib.hid (HB5.out.trans (hb6.mono HB5.out.size))
    have HI2 := Lib.hid (infotext_x A6 _ c6 hs w6 (HT.out.below HB6.out) (HU.out.below HB6.out) (fun x _ => Or.inl (Nat.le_refl _)) hr6 (by omega) HNE.out)
    clear hr6 hb6
    go_wp2_with fail
    refine HI2.out.mono ?_
    rintro e w7 h7
    rw [HRX.out] at h7
    obtain ⟨rfl, hb7⟩ := h7.no HK.out
    have hba7 := (Below.refl _ w7).alloc (Nat.le_refl _) (.cells #[.slice none 0 0, .slice none 0 0] 30)
    obtain ⟨W7, hW7⟩ : ∃ W7, W7 = w7.alloc (.cells #[.slice none 0 0, .slice none 0 0] 30) := ⟨_, rfl⟩
    rw [← hW7] at hba7
    have hb67 := hb7.trans (hba7.mono hb7.size)
    have HB7 := Lib.hid (HB6.out.trans (hb67.mono HB6.out.size))
    have HW7 := Lib.hid hW7
    have HSI := Lib.hid (sinfo_x A n c hs W7 ((HH.out.below HB7.out).more HB7.out.size) (by omega) (by omega) HD.out)
    clear h7 hb7 HI2 hba7 hW7 hb67
    go_wp2_with fail
    rw [← HW7.out]
    refine HSI.out.mono ?_
    rintro e w8 h8
    rw [HRX.out] at h8
    obtain ⟨rfl, hb8⟩ := h8.no HK.out
    have HB8 := Lib.hid ((HB7.out.trans (hb8.mono HB7.out.size)).alloc (HB7.out.trans (hb8.mono HB7.out.size)).size (.cells #[.slice none 0 0, .slice none 0 0] 30))
    clear h8 hb8 HSI
    go_wp2_with fail
    refine (awake _ (by decide) (HT.out.below HB8.out)).mono ?_
    rintro e wb ⟨rfl, hbb⟩
    have HBB := Lib.hid (HB8.out.trans (hbb.mono HB8.out.size))
    clear hbb
    go_wp2_with fail
    go_ret
    exact ⟨rfl, HBB.out⟩
end Go.Proofs.YthpcfnegfdcbjaaGreatDoor

/- The argument: a slice of parts, out of what the row says of it. -/
namespace Go.Proofs.YthpcfnegfdcbjaaGreatDoor
open Go.ChangeShapes Go.RowKit
theorem u8_of_wf {n : Int} (h : (Lit.int .u8 n).wf = true) : ∃ b : UInt8, n = b.toNat := by
  have h2 : 0 ≤ n ∧ n ≤ 255 := by
    unfold Lit.wf at h
    rw [Bool.and_eq_true] at h
    exact ⟨by have := of_decide_eq_true h.1; exact this, by have := of_decide_eq_true h.2; exact this⟩
  exact ⟨UInt8.ofNat n.toNat, by simp; omega⟩
section
variable {H : Type} {enc : TypeId × Value → H} {W : World} {base : Nat} {spare : Nat → Bool} {held : Bool}
theorem bytes_of {fuel : Nat} {v : Value} {x : DataW H × List MemPlace} (h : DataW.trod enc Tryz.prog W base spare held fuel 26 [v] = some x) : ∃ A n c l, v = .slice A n c ∧ RB W W.heap.size A n c l := by
  rcases open_ints Tryz.underlying26 Tryz.underlying5 (by kernel_rfl) h with ⟨hcs, _⟩ | ⟨a, len, cap, zs, hcs, _, hl, hm, hz, _, hcell, hwf⟩
  · injection hcs with hv _
    exact ⟨none, 0, 0, [], hv, RB.nil_ _ _⟩
  · injection hcs with hv _
    have hzl : len ≤ zs.length := by rw [hz]; split <;> omega
    have hf : ∀ i, i < len → ∃ b : UInt8, W.cell? (a.add i) = some (.int .u8 b.toNat) := fun i hi => by
      have hc := hcell i (by omega)
      have hmem : zs.getD i 0 ∈ zs := by simp [List.getD, List.getElem?_eq_getElem (show i < zs.length by omega)]
      obtain ⟨b, hb⟩ := u8_of_wf (hwf _ hmem)
      exact ⟨b, by rw [hc, hb]⟩
    refine ⟨some a, len, cap, (List.range len).map fun i => if h : i < len then Classical.choose (hf i h) else 0, hv, ⟨⟨by simp [bv], fun hn => ⟨a, rfl, ?_, fun j u hu => ?_⟩⟩, hl, hm⟩⟩
    · obtain ⟨b, hb⟩ := hf 0 hn
      have := World.block_lt_of_cell? _ _ hb
      rwa [block_of_add] at this
    · have hj : j < len := by
        have := (List.getElem?_eq_some_iff.1 hu).1
        simpa [bv] using this
      have : u = .int .u8 (Classical.choose (hf j hj)).toNat := by
        simp [bv, hj] at hu
        exact hu.symm
      rw [this]
      exact Classical.choose_spec (hf j hj)
theorem hops_of {fuel : Nat} {v : Value} {x : DataW H × List MemPlace} (h : DataW.trod enc Tryz.prog W base spare held fuel 22 [v] = some x) : ∃ A n c hs, v = .slice A n c ∧ HS W W.heap.size A n c hs := by
  rcases open_slice_fields Tryz.underlying22 Tryz.underlying45 (by kernel_rfl) (by kernel_rfl) h with ⟨hcs, _⟩ | ⟨a, len, cap, m, D, Pl, hcs, _, hl, hmx, hm, _, hel⟩
  · injection hcs with hv _
    exact ⟨none, 0, 0, [], hv, ⟨rfl, by decide, by simp [maxLen], fun i hi => absurd hi (by simp)⟩⟩
  · injection hcs with hv _
    have hml : len ≤ m := by rw [hm]; split <;> omega
    have hf : ∀ i, i < len → ∃ hp : Hop, W.cell? (a.add (i * 2)) = some (.int .u8 hp.kd) ∧ W.cell? (a.add (i * 2 + 1)) = some (.slice hp.A hp.n hp.c) ∧ RB W W.heap.size hp.A hp.n hp.c hp.l := fun i hi => by
      obtain ⟨ys, n, _, _, _, hfl⟩ := hel i (by omega)
      obtain ⟨v0, y0, c0, _, t0⟩ := hfl 0 _ rfl
      obtain ⟨v1, y1, c1, _, t1⟩ := hfl 1 _ rfl
      obtain ⟨k, e0, _, hwf⟩ := DataW.trod_int Tryz.underlying5 t0
      injection e0 with e0 _
      obtain ⟨b, rfl⟩ := u8_of_wf hwf
      obtain ⟨A, n1, c', l, rfl, hr⟩ := bytes_of t1
      refine ⟨⟨b.toNat, A, n1, c', l⟩, ?_, ?_, hr⟩
      · rw [e0] at c0
        exact c0
      · exact c1
    refine ⟨some a, len, cap, (List.range len).map fun i => if h : i < len then Classical.choose (hf i h) else ⟨0, none, 0, 0, []⟩, hv, ⟨by simp, hl, hmx, fun i hi => ?_⟩⟩
    have hil : i < len := by simpa using hi
    have hs := Classical.choose_spec (hf i hil)
    refine ⟨a, rfl, ?_, ?_⟩
    · have := World.block_lt_of_cell? _ _ hs.1
      rwa [block_of_add] at this
    · simp only [List.getElem_map, List.getElem_range, dif_pos hil]
      exact hs
end
end Go.Proofs.YthpcfnegfdcbjaaGreatDoor
