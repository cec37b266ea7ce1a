/- Facts of types, and of a text turned to bytes. No condition. -/
import Derived.Test.YtghddiboggdhcaaGreatDoorQe
import Derived.Test.YtghddiboggdhcaaGreatDoorYd
import Derived.Test.YtghddiboggdhcaaGreatDoorSh
import Derived.Test.YtghddiboggdhcaaGreatDoorPu
import Derived.Test.YtghddiboggdhcaaGreatDoorVi2
import Derived.ChangeSlices
import Derived.ChangeArms
set_option maxRecDepth 100000
set_option maxHeartbeats 4000000
namespace Go.Proofs.YtghddiboggdhcaaGreatDoor
open Go.RowKit
theorem aslice_info : (Tryz.prog.info? 22).map (fun i => (i.zero, i.size, i.bytes)) = some (some (.slice none 0 0), 1, 24) := by kernel_rfl
theorem conv_id_tb (w : World) (L : List UInt8) (h : L.length ≤ 1000000) : ∃ c w', (convert 47 22 (.string ⟨L.toArray⟩)).run Tryz.prog w = .ok (.slice (some ⟨w.heap.size, 0, none⟩) L.length c) w' ∧
    TB w' ⟨some ⟨w.heap.size, 0, none⟩, L.length, c, L⟩ ∧ Below w.heap.size w w' ∧ w.heap.size < w'.heap.size := by
  refine ⟨grownCap w L.length 0 5, Lib.bytesWorld w 5 ⟨L.toArray⟩, ?_, ⟨RB.of_bytesWorld w 5 L (by unfold maxLen; omega), fun ad e => by injection e with e; subst e; exact ⟨_, _, Lib.bytesWorld_at_new w 5 _⟩⟩, below_bytesWorld _ _ _, by rw [Lib.bytesWorld_size]; omega⟩
  exact Lib.run_convert_string_bytes (P := Tryz.prog) w 47 22 5 ⟨L.toArray⟩ Tryz.underlying47 Tryz.underlying22 Tryz.underlying5
end Go.Proofs.YtghddiboggdhcaaGreatDoor
/- bytes.Clone: a copy in memory of the call's own. No condition beyond. -/
namespace Go.Proofs.YtghddiboggdhcaaGreatDoor
open Go.RowKit
attribute [local go_sem ↓] Go.wp_at_zero Go.wp_at_succ
def OutTB (l : List UInt8) (w : World) (e : Ending) (w' : World) : Prop := ∃ A c, e = .returned (.slice A l.length c) ∧ TB w' ⟨A, l.length, c, l⟩ ∧ Below w.heap.size w w'
theorem clone_tb (A : Option Addr) (n c : Nat) (l : List UInt8) (w : World) (h : RB w w.heap.size A n c l) (hn : n ≤ 140737488355328) :
    Calls Tryz.prog 6 #[.slice A n c] w (OutTB l w) := by
  obtain ⟨i0, hi0, hz0, hz1, hz2⟩ := info_parts u8_info
  have q : ∀ (w : World) (a : Option Addr) (n c n' c' : Nat), (binOp .eql 22 (.slice a n c) (.slice none n' c')).run Tryz.prog w = .ok (.bool a.isNone) w := fun w a n c n' c' => Lib.run_eql_slice_nil w _ _ a n c n' c' Tryz.underlying22
  have hlen := Lib.hid h.len
  rcases A with _ | a
  · have h0 : l = [] := by
      rcases Nat.eq_zero_or_pos n with h0 | h0
      · exact List.eq_nil_of_length_eq_zero (by rw [hlen.out, h0])
      · obtain ⟨ad, e1, _⟩ := h.reads.2 h0
        cases e1
    have H := Lib.hid h
    clear h
    go_enter Tryz.func6, Tryz.ntmps6
    go_wp2
    go_ret
    subst h0
    exact ⟨none, 0, rfl, ⟨RB.nil_ _ _, fun ad e => by cases e⟩, Below.refl _ _⟩
  · have H := Lib.hid h
    have hB := Lib.hid hn
    clear h hn
    go_enter Tryz.func6, Tryz.ntmps6
    go_wp2_with (at_builtin; refine wpList_append_any _ rfl (.tmp 5) (.tmp 6) _ rfl w.heap.size 5 i0 _ 1 1 Tryz.underlying22 hi0 hz0 hz1 hz2 rfl (by decide) _ _ _ rfl (World.ownsRow_made w #[] 0 (Nat.le_refl _) (Nat.zero_le _) rfl) w.heap.size (some a) n c (bv l) rfl (H.out.reads.alloc (Nat.le_refl _) _) (bv_one l) ?c1 ?c2 ?c3 ?_)
    case c1 => have := hB.out; unfold maxLen; omega
    case c2 => have := hB.out; omega
    case c3 => simp
    intro v' w1 hown hgrow _hat
    go_wp2
    go_ret
    have hown' : w1.ownsRow w.heap.size 5 1 v' l.length (bv l) := by rw [hlen.out]; exact hown
    obtain ⟨A1, c1, rfl⟩ := own_slice hown'
    exact ⟨A1, c1, rfl, TB.of_own hown', (((Below.refl _ w).alloc (Nat.le_refl _) _).grown hgrow (by simp) (by intro k hk; simp [Value.ownBlock] at hk; omega))⟩
end Go.Proofs.YtghddiboggdhcaaGreatDoor
/- impl.plainInfo, peer.AddrInfoFromP2pAddr, impl.AddrInfoOf at any parts. Conditions: the package variables as laid, or typed. -/
namespace Go.Proofs.YtghddiboggdhcaaGreatDoor
open Go.RowKit
attribute [local go_sem ↓] Go.wp_at_zero Go.wp_at_succ
theorem TB.set_ {w : World} {p : Part} (h : TB w p) {g : Nat} {t : TypeId} {cs : Array Value} (hb : Blk w g t cs) (hne : 5 ≠ t) (i : Nat) (u : Value) : TB (w.setCell ⟨g, i, none⟩ u) p :=
  h.kept (only_setCell (World.grownBy.refl w _) (.inl rfl) u) (fun ad e e2 => by
    obtain ⟨cs', fr, hc⟩ := h.ty ad e
    injection e2 with e2
    unfold Blk at hb
    rw [e2, hb] at hc
    injection hc with hc
    injection hc with _ ht
    exact hne ht.symm)
theorem iinf_size : (Tryz.prog.info? 31).map (·.size) = some 2 := by kernel_rfl
namespace X
variable {K : Nat} {f : Nat → Int}
theorem pinf_size : (Tryz.prog.info? 61).map (·.size) = some 2 := by kernel_rfl
theorem plaininfo_x (L : List UInt8) (A : Option Addr) (n c base : Nat) (ts : List Tr) (w : World) (ho : w.ownsRow base 44 1 (.slice A n c) n (trCells ts)) (htr : ∀ t ∈ ts, TrOk w t) (hcs : ∀ t ∈ ts, t.cs.length ≤ 1000) (hL : L.length ≤ 1000) (hn : n ≤ 1000) :
    Calls Tryz.prog 18 #[.agg #[.string ⟨L.toArray⟩, .slice A n c]] w fun e w' =>
    ∃ A1 c1 v qs, e = .returned (.agg #[.slice A1 L.length c1, v]) ∧ TB w' ⟨A1, L.length, c1, L⟩ ∧ w'.ownsRow w.heap.size 22 1 v n (partCells qs) ∧ TBs w' qs ∧ qs.map (·.l) = ts.map (fun t => compBytes t.cs) ∧ Below w.heap.size w w' := by
  obtain ⟨j0, hj0, jz0, jz1, jz2⟩ := info_parts aslice_info
  obtain ⟨w0, hw0⟩ : ∃ w0, w0 = (w.alloc (.cells #[.string ⟨L.toArray⟩, .slice A n c] 61)).alloc (.cells #[.slice none 0 0, .slice none 0 0] 31) := ⟨_, rfl⟩
  have hb0 : Below w.heap.size w w0 := by rw [hw0]; exact ((Below.refl _ w).alloc (Nat.le_refl _) _).alloc (by simp) _
  have hk0 : Blk w0 w.heap.size 61 #[.string ⟨L.toArray⟩, .slice A n c] := by rw [hw0]; exact (Blk.new w _ _).alloc _
  have hk1 : Blk w0 (w.heap.size + 1) 31 #[.slice none 0 0, .slice none 0 0] := by rw [hw0]; exact Blk.new_ (by simp) _ _
  obtain ⟨cc, w5, hcv, htb5, hb5, hlt5⟩ := conv_id_tb w0 L (by omega)
  have hs0 : w0.heap.size = w.heap.size + 1 + 1 := by rw [hw0]; simp
  rw [hs0] at hcv htb5
  rw [hw0] at hcv
  have c0 : w0.cell? ⟨w.heap.size, 0, none⟩ = some (.string ⟨L.toArray⟩) := hk0.cell 0
  have hb05 := hb0.trans (hb5.mono hb0.size)
  have hk15 := hk1.below hb5 hk1.lt
  obtain ⟨w6, hw6⟩ : ∃ w6, w6 = w5.alloc (.cells #[.slice (some ⟨w.heap.size + 1 + 1, 0, none⟩) L.length cc, .slice none 0 0] 31) := ⟨_, rfl⟩
  have hn6 : Blk w6 w5.heap.size 31 #[.slice (some ⟨w.heap.size + 1 + 1, 0, none⟩) L.length cc, .slice none 0 0] := by rw [hw6]; exact Blk.new _ _ _
  have hb6 : Below w5.heap.size w5 w6 := by rw [hw6]; exact (Below.refl _ w5).alloc (Nat.le_refl _) _
  have hb06 := hb05.trans (hb6.mono hb05.size)
  have c61 : w6.cell? ⟨w.heap.size, 1, none⟩ = some (.slice A n c) := (((hk0.below hb5 hk0.lt).below hb6 (Nat.lt_of_lt_of_le hk0.lt hb5.size))).cell 1
  have HB6 := Lib.hid hb06
  have HK6 := Lib.hid (hk15.below hb6 hk15.lt)
  have HN6 := Lib.hid hn6
  have HT6 := Lib.hid (htb5.below hb6)
  have HW6 := Lib.hid hw6
  have HW0 := Lib.hid hw0
  have HO := Lib.hid ho
  have HTR := Lib.hid htr
  have HCS := Lib.hid hcs
  have HG5 := Lib.hid (show w.heap.size + 1 < w5.heap.size from Nat.lt_of_lt_of_le hk1.lt hb5.size)
  have hln : ts.length = n := by have := (Reads.of_own ho).1; rw [trCells_length] at this; omega
  have HLN := Lib.hid hln
  rw [hw6] at c61
  have HG := Lib.hid (show ∃ g5, g5 = w5.heap.size from ⟨_, rfl⟩)
  clear hb0 hk0 hk1 hb05 hk15 hw6 hn6 hb6 hb06 htb5 hb5 hlt5 ho htr hcs hln hw0 hs0
  go_enter Tryz.func18, Tryz.ntmps18
  go_wp2_with fail
  rw [← HW6.out]
  obtain ⟨g5, hg5⟩ := HG.out
  have HG5' := Lib.hid hg5
  rw [← hg5] at HN6 HG5 ⊢
  clear hg5
  have HSZ := Lib.hid HB6.out.size
  go_loopw [13] (fun i wr => ∃ k : Nat, k ≤ n ∧ i = .int .i64 k ∧ Below w.heap.size w wr ∧ Blk wr (w.heap.size + 1) 31 #[.slice none 0 0, .slice none 0 0] ∧
    ∃ v qs, Blk wr g5 31 #[.slice (some ⟨w.heap.size + 1 + 1, 0, none⟩) L.length cc, v] ∧ wr.ownsRow w.heap.size 22 1 v k (partCells qs) ∧ TBs wr qs ∧ TB wr ⟨some ⟨w.heap.size + 1 + 1, 0, none⟩, L.length, cc, L⟩ ∧ qs.map (·.l) = (ts.take k).map (fun t => compBytes t.cs)) (fun i _ => n - (intOf i).toNat)
  case atStart => exact ⟨0, by omega, rfl, HB6.out, HK6.out, _, [], HN6.out, World.ownsRow_nil _ _ _ _, fun x hx => by simp at hx, HT6.out, rfl⟩
  case round =>
    obtain ⟨k, hk, rfl, hb, hkr, v, qs, hko, hown, htb, htl, hqs⟩ := hrel
    have HB := Lib.hid hb
    have HKR := Lib.hid hkr
    have HKO := Lib.hid hko
    have HOW := Lib.hid hown
    have HTB := Lib.hid htb
    have HTL := Lib.hid htl
    have HQS := Lib.hid hqs
    by_cases hlt : k < n
    · have hlt' : k < ts.length := by rw [HLN.out]; exact hlt
      obtain ⟨ad, eA, _, hcell⟩ := (Reads.of_own HO.out).2 (by omega)
      obtain rfl := eA
      have hck := hcell k (ts[k]).v (by simp [trCells, hlt'])
      have c5 : wr.cell? (ad.add k) = some (ts[k]).v := (HB.out.cell (World.block_lt_of_cell? _ _ hck)).trans hck
      have htk : ts.take (k + 1) = ts.take k ++ [ts[k]] := List.take_succ_eq_append_getElem hlt'
      have hto := (HTR.out _ (List.getElem_mem hlt')).below HB.out
      have hcl := HCS.out _ (List.getElem_mem hlt')
      generalize ts[k] = t at *
      obtain ⟨g, cg, cs⟩ := t
      have hcl' : cs.length ≤ 1000 := hcl
      have HMS := Lib.hid (show MS wr g cs.length cg cs from hto.ms)
      have hM1 : (compBytes cs).length ≤ 10000 := by have := HMS.out.tot; omega
      have HTK := Lib.hid (show (ts.take (k + 1)).map (fun t => compBytes t.cs) = (ts.take k).map (fun t => compBytes t.cs) ++ [compBytes cs] by rw [htk, List.map_append]; rfl)
      have hby := fun w (h : MS w g cs.length cg cs) => bytes_any g cs.length cg cs w h (by omega)
      obtain ⟨M, hM⟩ : ∃ M, M = compBytes cs := ⟨_, rfl⟩
      rw [← hM] at HTK hM1 hby
      have HBY := Lib.hid hby
      unfold Tr.v at c5
      have c1 : wr.cell? ⟨g5, 1, none⟩ = some v := hko.cell 1
      clear hck hcell htk hto hcl hM hlt' hb hkr hko hown htb htl hqs hby
      go_wp2_with fail
      have c1d : wr.drew.cell? ⟨g5, 1, none⟩ = some v := c1
      go_region_law (first
          | (go_simp; go_at_call 15; refine (HBY.out _ (HMS.out.below ((Below.refl _ wr).drew))).mono ?_; rintro e w4 ⟨A4, c4, rfl, hr4, hb4⟩; have hW4 := ((Below.refl _ wr).drew).trans hb4; have c14 : w4.cell? ⟨g5, 1, none⟩ = some v := (hW4.cell HKO.out.lt).trans c1)
          | (go_simp; go_at_call 6; refine (clone_tb A4 _ c4 M _ hr4 (by omega)).mono ?_; rintro e w5 ⟨A5, c5', rfl, htb5, hb5⟩; have hW5 : Below wr.heap.size wr w5 := hW4.trans (hb5.mono hW4.size); have c15 : w5.cell? ⟨g5, 1, none⟩ = some v := (hW5.cell HKO.out.lt).trans c1
             have c16 : (w5.alloc (.cells #[.slice A5 M.length c5'] 22)).cell? ⟨g5, 1, none⟩ = some v := ((hW5.trans (((Below.refl _ w5).alloc (Nat.le_refl _) (.cells #[.slice A5 M.length c5'] 22)).mono hW5.size)).cell HKO.out.lt).trans c1)
          | (have hba := (Below.refl _ w5).alloc (Nat.le_refl _) (.cells #[.slice A5 M.length c5'] 22)
             have hWA := hW5.trans (hba.mono hW5.size)
             have hoa := own_below HOW.out hWA
             (refine step_append_any _ rfl _ _ _ rfl w.heap.size 22 j0 _ 1 24 Tryz.underlying29 hj0 jz0 jz1 jz2 rfl (by decide) _ _ _ rfl hoa _ _ 1 1 _ rfl (reads_new w5 #[.slice A5 M.length c5'] 22 1 1 rfl) (fun u hu => by simp at hu; subst hu; rfl) (by unfold maxLen; omega) (by omega) (Nat.le_trans HB.out.size hWA.size) ?_)
             intro v' w7 hown7 hgrow7 _hat
             obtain ⟨A7, c7, rfl⟩ := own_slice hown7
             have hko7 := (HKO.out.below hWA HKO.out.lt).grown hgrow7 (fun e => own_blk_ne hoa (HKO.out.below hWA HKO.out.lt) (by decide) e.symm)
             have e7 : w7.cell? ⟨g5, 1, none⟩ = some v := hko7.cell 1
             have f7 : w7.frozen? ⟨g5, 1, none⟩ = false := hko7.frozen 1))
      all_goals (
        have hkr7 := (HKR.out.below hWA HKR.out.lt).grown hgrow7 (fun e => own_blk_ne hoa (HKR.out.below hWA HKR.out.lt) (by decide) e.symm)
        have HB7 := Lib.hid ((HB.out.trans (hWA.mono HB.out.size)).grown hgrow7 (Nat.le_trans HB.out.size hWA.size) (fun q hq => (hoa.lt q hq).1))
        have hbs7 : TBs w7 (qs ++ [⟨A5, M.length, c5', M⟩]) := TBs.snoc (fun x hx => ((HTB.out x hx).below hWA).grown hoa (by decide) hgrow7) ((htb5.below hba).grown hoa (by decide) hgrow7)
        have hl7 := (HTL.out.below hWA).grown hoa (by decide) hgrow7
        have hof : w7.ownsRow w.heap.size 22 1 (.slice A7 (k + 1) c7) (k + 1) (partCells (qs ++ [⟨A5, M.length, c5', M⟩])) := by
          rw [partCells_snoc]
          exact hown7
        have HKO7 := Lib.hid hko7
        have HKR7 := Lib.hid hkr7
        have HBS7 := Lib.hid hbs7
        have HL7 := Lib.hid hl7
        have HOF := Lib.hid hof
        clear hown7 hgrow7 _hat hko7 hkr7 hbs7 hl7 hof e7 f7 hoa hWA hba htb5
        go_wp2_with fail
        go_roundw
        case rel =>
          refine ⟨k + 1, by omega, by go_num, HB7.out.setCell (p := ⟨g5, 1, none⟩) (by have := HG5.out; show w.heap.size ≤ g5; omega) _, HKR7.out.far (by have := HG5.out; show w.heap.size + 1 ≠ g5; omega) _, _, qs ++ [⟨A5, M.length, c5', M⟩], HKO7.out.set_ 1 _, own_set HOF.out HKO7.out (by decide) 1 _, fun x hx => (HBS7.out x hx).set_ HKO7.out (by decide) 1 _, HL7.out.set_ HKO7.out (by decide) 1 _, ?_⟩
          rw [List.map_append, HQS.out, HTK.out]; rfl
        case measure => simp [intOf]; omega)
    · obtain rfl : k = n := by omega
      have d0 := HKO.out.cell 0
      have d1 := HKO.out.cell 1
      have e0 := HKR.out.cell 0
      have e1 := HKR.out.cell 1
      have f0 := HKR.out.frozen 0
      have f1 := HKR.out.frozen 1
      have hts := HQS.out
      rw [List.take_of_length_le (by rw [HLN.out]; exact Nat.le_refl _)] at hts
      have HTS2 := Lib.hid hts
      clear hts hb hkr hko hown htb htl hqs
      obtain ⟨A0, c0', rfl⟩ := own_slice HOW.out
      go_wp2_with fail
      have hs1 := HKR.out.set_ 0 (.slice (some ⟨w.heap.size + 1 + 1, 0, none⟩) L.length cc)
      have hst := hs1.set_ 1 (.slice A0 k c0')
      refine bodyPost_ret (results_cell_row rfl _ _ (w.heap.size + 1) 31 #[.slice (some ⟨w.heap.size + 1 + 1, 0, none⟩) L.length cc, .slice A0 k c0'] (0, 0) _ rfl hst Tryz.underlying31 rfl (iinf_size.trans rfl)) rfl ?_
      exact ⟨_, cc, _, qs, rfl, (HTL.out.set_ HKR.out (by decide) 0 _).set_ hs1 (by decide) 1 _, own_set (own_set HOW.out HKR.out (by decide) 0 _) hs1 (by decide) 1 _, fun x hx => ((HTB.out x hx).set_ HKR.out (by decide) 0 _).set_ hs1 (by decide) 1 _, HTS2.out, (HB.out.setCell (p := ⟨w.heap.size + 1, 0, none⟩) (Nat.le_succ _) _).setCell (p := ⟨w.heap.size + 1, 1, none⟩) (Nat.le_succ _) _⟩
def OutPI (cs : List (Cp × Nat)) (L : List UInt8) (w : World) (e : Ending) (w' : World) : Prop :=
  ∃ (q n c : Nat) (A : Option Addr) (ts : List Tr), e = .returned (.tuple #[.pointer (some ⟨q, 0, none⟩), .nilIface]) ∧ Blk w' q 61 #[.string ⟨L.toArray⟩, .slice A n c] ∧
    w'.ownsRow w.heap.size 44 1 (.slice A n c) n (trCells ts) ∧ (∀ t ∈ ts, TrOk w' t) ∧ ts.map (·.cs) = (if cs = [] then [] else [cs]) ∧ Below w.heap.size w w'
theorem infop2p_id (g c : Nat) (cs : List (Cp × Nat)) (x : Cp × Nat) (w : World) (hn1 : cs.length ≤ 1000) (hk : x.1.k = 421) (hp : PRX w (cs ++ [x])) (h : MS w g (cs.length + 1) c (cs ++ [x])) :
    Calls Tryz.prog 17 #[.slice (some ⟨g, 0, none⟩) (cs.length + 1) c] w (OutPI cs (idX x.1) w) := by
  have q : ∀ (w : World) (a : Option Addr) (n c n' c' : Nat), (binOp .neq 44 (.slice a n c) (.slice none n' c')).run Tryz.prog w = .ok (.bool (!a.isNone)) w := fun w a n c n' c' => run_neq_slice_nil_any w _ _ a n c n' c' Tryz.underlying44
  have HS := Lib.hid (splitaddr_id g c cs x w hn1 hk hp h)
  have HP := Lib.hid hp
  have hne : (idX x.1).isEmpty = false := by
    have := idX_one h hk
    obtain ⟨I, hI⟩ : ∃ I, I = idX x.1 := ⟨_, rfl⟩
    rw [← hI] at this ⊢
    rcases I with _ | ⟨a, I⟩
    · simp at this
    · rfl
  obtain ⟨L, hL⟩ : ∃ L, L = idX x.1 := ⟨_, rfl⟩
  rw [← hL] at hne ⊢
  clear hp h hk
  go_enter Tryz.func17, Tryz.ntmps17
  go_wp2_with fail
  refine HS.out.mono ?_
  rintro e w1 ⟨T, rfl, hT, hb⟩
  rw [← hL]
  have HB := Lib.hid hb
  clear hb hL HS
  rcases hT with ⟨rfl, rfl⟩ | ⟨hpos, b, rfl, hms⟩
  · go_wp2_with fail
    go_ret2
    exact ⟨w1.heap.size, 0, 0, none, [], rfl, Blk.new _ _ _, World.ownsRow_nil _ _ _ _, fun t ht => by simp at ht, rfl, HB.out.alloc HB.out.size _⟩
  · have HMS := Lib.hid hms
    clear hms
    go_wp2_with fail
    go_ret2
    have hb2 := (Below.refl _ w1).alloc (Nat.le_refl _) (.cells #[.string ⟨L.toArray⟩, .slice (some ⟨w1.heap.size + 1, 0, none⟩) 1 1] 61)
    obtain ⟨w2, hw2⟩ : ∃ w2, w2 = w1.alloc (.cells #[.string ⟨L.toArray⟩, .slice (some ⟨w1.heap.size + 1, 0, none⟩) 1 1] 61) := ⟨_, rfl⟩
    have hk2 : Blk w2 w1.heap.size 61 #[.string ⟨L.toArray⟩, .slice (some ⟨w1.heap.size + 1, 0, none⟩) 1 1] := by rw [hw2]; exact Blk.new _ _ _
    rw [← hw2] at hb2 ⊢
    have hs2 : w2.heap.size = w1.heap.size + 1 := by rw [hw2]; simp
    have hsz := HB.out.size
    have hB2 := HB.out.trans (hb2.mono hsz)
    have ho := World.ownsRow_lit (base := w.heap.size) (e := 44) (size := 1) w2 #[Value.slice (some ⟨b, 0, none⟩) cs.length cs.length] 1 (by omega) (by simp [maxLen]) rfl
    rw [hs2] at ho
    have hb3 := (Below.refl _ w2).alloc (Nat.le_refl _) (.cells #[.slice (some ⟨b, 0, none⟩) cs.length cs.length] 44)
    refine ⟨w1.heap.size, 1, 1, some ⟨w1.heap.size + 1, 0, none⟩, [⟨b, cs.length, cs⟩], rfl, hk2.alloc _, ho, fun t ht => ?_, by rw [if_neg (fun e => by subst e; simp at hpos)]; rfl, hB2.alloc (by omega) _⟩
    rw [List.mem_singleton] at ht
    subst ht
    exact ⟨(HMS.out.below hb2).below hb3, (show PRX w cs from fun y hy => HP.out y (List.mem_append_left _ hy)).below (hB2.alloc (by omega) _), hpos⟩
theorem infop2p_other (g c : Nat) (cs : List (Cp × Nat)) (x : Cp × Nat) (w : World) (hu : Inv w) (hn1 : cs.length ≤ 1000) (hk : x.1.k ≠ 421) (hp : PRX w (cs ++ [x])) (h : MS w g (cs.length + 1) c (cs ++ [x])) :
    Calls Tryz.prog 17 #[.slice (some ⟨g, 0, none⟩) (cs.length + 1) c] w fun e w' => ∃ t v, e = .returned (.tuple #[.pointer none, .iface t v]) ∧ Below w.heap.size w w' := by
  have HS := Lib.hid (splitaddr_other g c cs x w hn1 hk hp h)
  have HU := Lib.hid hu
  clear hp h hk hu
  go_enter Tryz.func17, Tryz.ntmps17
  go_wp2_with fail
  refine HS.out.mono ?_
  rintro e w1 ⟨rfl, hb⟩
  obtain ⟨t, v, hv⟩ := (HU.out.below hb).held
  have HB := Lib.hid hb
  clear hb
  go_wp2_with fail
  go_quiet (fail)
  go_wp2_with fail
  go_ret2
  exact ⟨t, v, rfl, below_drewN HB.out _⟩
end X
end Go.Proofs.YtghddiboggdhcaaGreatDoor
/- impl.AddrInfoOf at any bytes. Conditions: the package variables as laid, or typed. -/
namespace Go.Proofs.YtghddiboggdhcaaGreatDoor
open Go.RowKit
attribute [local go_sem ↓] Go.wp_at_zero Go.wp_at_succ
namespace X
variable {K : Nat} {f : Nat → Int}
theorem infoof_x (hK : 18446744073709551616 ≤ K) (A : Option Addr) (c : Nat) (d : List UInt8) (w : World) (hE : EnvX K f w) (hu : Inv w) (h : RB w w.heap.size A d.length c d) (hn : d.length ≤ 1000) (hn0 : 0 < d.length) :
    Calls Tryz.prog 8 #[.slice A d.length c] w fun e w' => ∃ (A1 A2 : Option Addr) (n1 c1 n2 c2 : Nat), e = .returned (.tuple #[.agg #[.slice A1 n1 c1, .slice A2 n2 c2], .bool (isId (parse d))]) ∧ Below w.heap.size w w' := by
  have q0 : ∀ w : World, (binOp .neq 52 .nilIface .nilIface).run Tryz.prog w = .ok (.bool false) w := fun _ => by kernel_rfl
  have qn : ∀ (t : TypeId) (v : Value) (w : World), (binOp .neq 52 (.iface t v) .nilIface).run Tryz.prog w = .ok (.bool true) w := fun _ _ _ => by kernel_rfl
  obtain ⟨w0, hw0⟩ : ∃ w0, w0 = w.alloc (.cells #[.slice none 0 0, .slice none 0 0] 31) := ⟨_, rfl⟩
  have hb0 : Below w.heap.size w w0 := by rw [hw0]; exact (Below.refl _ w).alloc (Nat.le_refl _) _
  have hk0 : Blk w0 w.heap.size 31 #[.slice none 0 0, .slice none 0 0] := by rw [hw0]; exact Blk.new _ _ _
  have HA := Lib.hid (addrof_x hK A c d w0 (hE.below hb0) ((h.below hb0).more hb0.size) hn hn0)
  have HU := Lib.hid (hu.below hb0)
  have HB0 := Lib.hid hb0
  have HK0 := Lib.hid hk0
  have HW0 := Lib.hid hw0
  clear hE h hu hb0 hk0 hw0
  generalize d.length = LL at *
  generalize parse d = o at *
  obtain ⟨ii, hii⟩ : ∃ ii, ii = isId o := ⟨_, rfl⟩
  have HII := Lib.hid hii
  rw [← hii]
  clear hii
  go_enter Tryz.func8, Tryz.ntmps8
  go_wp2_with fail
  rw [← HW0.out]
  refine HA.out.mono ?_
  intro e w1 hout
  cases o with
  | none =>
    obtain ⟨v, rfl, hb2⟩ := hout
    have HI := Lib.hid (show ii = false from HII.out)
    have HB2 := Lib.hid (HB0.out.trans (hb2.mono HB0.out.size))
    have hk3 := HK0.out.below hb2 HK0.out.lt
    have k0 : w1.cell? ⟨w.heap.size, 0, none⟩ = some (.slice none 0 0) := hk3.cell 0
    have k1 : w1.cell? ⟨w.heap.size, 1, none⟩ = some (.slice none 0 0) := hk3.cell 1
    have f0 := hk3.frozen 0
    have f1 := hk3.frozen 1
    have HK3 := Lib.hid hk3
    clear hb2 HA hk3
    go_wp2_with fail
    have hst := (HK3.out.set_ 0 (.slice none 0 0)).set_ 1 (.slice none 0 0)
    refine bodyPost_ret (results_cell_tmp rfl _ _ w.heap.size 31 #[.slice none 0 0, .slice none 0 0] (0, 0) _ rfl hst Tryz.underlying31 rfl (iinf_size.trans rfl)) rfl ?_
    rw [HI.out]
    exact ⟨none, none, 0, 0, 0, 0, rfl, (HB2.out.setCell (p := ⟨w.heap.size, 0, none⟩) (Nat.le_refl _) _).setCell (p := ⟨w.heap.size, 1, none⟩) (Nat.le_refl _) _⟩
  | some ps =>
    obtain ⟨g, c1, cs1, rfl, hcs, hp0, hp1, hpr, hms, hb⟩ := hout
    obtain ⟨cs, x, rfl⟩ := snoc_of cs1 hp0
    rw [List.length_append, List.length_singleton] at hms hp1 ⊢
    have hi : ii = (x.1.k == 421) := by rw [HII.out, ← hcs, List.map_append]; exact isId_snoc _ _
    have HB := Lib.hid (HB0.out.trans (hb.mono HB0.out.size))
    have HK1 := Lib.hid (HK0.out.below hb HK0.out.lt)
    by_cases hk : x.1.k = 421
    · have HI := Lib.hid (infop2p_id g c1 cs x w1 (by omega) hk hpr hms)
      have HT := Lib.hid (show ii = true by rw [hi, hk]; rfl)
      have hIl := idX_le hms
      clear hpr hms hb hcs hi HA
      go_wp2_with fail
      refine HI.out.mono ?_
      rintro e w2 ⟨q, m, c2, A2, ts, rfl, hkq, hown, htr, hts, hb2⟩
      have hln : ts.length = m := by have := (Reads.of_own hown).1; rw [trCells_length] at this; omega
      have hm1 : m ≤ 1 ∧ ∀ t ∈ ts, t.cs.length ≤ 1000 := by
        have hl := congrArg List.length hts
        rw [List.length_map] at hl
        refine ⟨by split at hl <;> simp only [List.length_nil, List.length_singleton] at hl <;> omega, fun t ht => ?_⟩
        have hmem : t.cs ∈ ts.map (·.cs) := List.mem_map_of_mem ht
        rw [hts] at hmem
        split at hmem
        · simp at hmem
        · rw [List.mem_singleton] at hmem
          rw [hmem]
          omega
      have HPL := Lib.hid (plaininfo_x (idX x.1) A2 m c2 w1.heap.size ts w2 hown htr hm1.2 hIl (by omega))
      have hq0 : w2.cell? ⟨q, 0, none⟩ = some (.string ⟨(idX x.1).toArray⟩) := hkq.cell 0
      have hq1 : w2.cell? ⟨q, 1, none⟩ = some (.slice A2 m c2) := hkq.cell 1
      have hstar := run_loadVar_row (P := Tryz.prog) w2 q 61 61 _ (0, 0) _ hkq Tryz.underlying61 rfl (pinf_size.trans rfl)
      have HB2 := Lib.hid (HB.out.trans (hb2.mono HB.out.size))
      obtain ⟨L, hL⟩ : ∃ L, L = idX x.1 := ⟨_, rfl⟩
      rw [← hL] at HPL hq0 hstar
      have HK2 := Lib.hid (HK1.out.below hb2 HK1.out.lt)
      clear hkq hown htr hb2 hL HI hts hln hm1
      go_wp2_with fail
      refine HPL.out.mono ?_
      rintro e w3 ⟨A3, c3, v3, qs, rfl, htb3, how3, htbs3, hqs, hb3⟩
      have hk3 := HK2.out.below hb3 HK2.out.lt
      have k0 : w3.cell? ⟨w.heap.size, 0, none⟩ = some (.slice none 0 0) := hk3.cell 0
      have k1 : w3.cell? ⟨w.heap.size, 1, none⟩ = some (.slice none 0 0) := hk3.cell 1
      have f0 := hk3.frozen 0
      have f1 := hk3.frozen 1
      obtain ⟨A4, c4, rfl⟩ := own_slice how3
      have HK3 := Lib.hid hk3
      have HB3 := Lib.hid (HB2.out.trans (hb3.mono HB2.out.size))
      clear hk3 htb3 how3 htbs3 hb3 hqs HPL hq0 hq1 hstar
      go_wp2_with fail
      have hst := (HK3.out.set_ 0 (.slice A3 L.length c3)).set_ 1 (.slice A4 m c4)
      refine bodyPost_ret (results_cell_tmp rfl _ _ w.heap.size 31 #[.slice A3 L.length c3, .slice A4 m c4] (0, 0) _ rfl hst Tryz.underlying31 rfl (iinf_size.trans rfl)) rfl ?_
      rw [HT.out]
      exact ⟨A3, A4, L.length, c3, m, c4, rfl, (HB3.out.setCell (p := ⟨w.heap.size, 0, none⟩) (Nat.le_refl _) _).setCell (p := ⟨w.heap.size, 1, none⟩) (Nat.le_refl _) _⟩
    · have HI := Lib.hid (infop2p_other g c1 cs x w1 (HU.out.below hb) (by omega) hk hpr hms)
      have HT := Lib.hid (show ii = false by rw [hi]; simp [hk])
      clear hpr hms hb hcs hi HA
      go_wp2_with fail
      refine HI.out.mono ?_
      rintro e w2 ⟨t, v, rfl, hb2⟩
      have HB2 := Lib.hid (HB.out.trans (hb2.mono HB.out.size))
      have hk3 := HK1.out.below hb2 HK1.out.lt
      have k0 : w2.cell? ⟨w.heap.size, 0, none⟩ = some (.slice none 0 0) := hk3.cell 0
      have k1 : w2.cell? ⟨w.heap.size, 1, none⟩ = some (.slice none 0 0) := hk3.cell 1
      have f0 := hk3.frozen 0
      have f1 := hk3.frozen 1
      have HK3 := Lib.hid hk3
      clear hb2 HI hk3
      go_wp2_with fail
      have hst := (HK3.out.set_ 0 (.slice none 0 0)).set_ 1 (.slice none 0 0)
      refine bodyPost_ret (results_cell_tmp rfl _ _ w.heap.size 31 #[.slice none 0 0, .slice none 0 0] (0, 0) _ rfl hst Tryz.underlying31 rfl (iinf_size.trans rfl)) rfl ?_
      rw [HT.out]
      exact ⟨none, none, 0, 0, 0, 0, rfl, (HB2.out.setCell (p := ⟨w.heap.size, 0, none⟩) (Nat.le_refl _) _).setCell (p := ⟨w.heap.size, 1, none⟩) (Nat.le_refl _) _⟩
end X
end Go.Proofs.YtghddiboggdhcaaGreatDoor
/- impl.AddrInfos at one address of any bytes. Conditions: the package variables as laid, or typed. -/
namespace Go.Proofs.YtghddiboggdhcaaGreatDoor
open Go.RowKit
attribute [local go_sem ↓] Go.wp_at_zero Go.wp_at_succ
namespace X
variable {K : Nat} {f : Nat → Int}
theorem iinfo_info : (Tryz.prog.info? 31).map (fun i => (i.zero, i.size, i.bytes)) = some (some (.agg #[.slice none 0 0, .slice none 0 0]), 2, 48) := by kernel_rfl
theorem peerRow_get (val : List UInt8 → Value) (ks : List (List UInt8)) : ∀ i (hi : i < ks.length), (peerRow val ks)[i * 2]? = some (.string ⟨(ks[i]).toArray⟩) ∧ (peerRow val ks)[i * 2 + 1]? = some (val ks[i]) := by
  induction ks with
  | nil => intro i hi; simp at hi
  | cons q ks ih =>
    intro i hi
    rcases i with _ | i
    · simp [peerRow]
    · have := ih i (by simpa using hi)
      rw [show peerRow val (q :: ks) = .string ⟨q.toArray⟩ :: val q :: peerRow val ks from rfl, show (i + 1) * 2 = i * 2 + 1 + 1 by omega]
      simpa using this
section Srt
open Go.Sort
theorem len_small (n : Nat) (hn : n ≤ 1) (w : World) : Calls Tryz.prog 31 #[.int .u64 n] w fun e w' => (∃ l : Nat, e = .returned (.int .i64 l)) ∧ w' = w := by
  have h0 := Tryz.bits_Len64 n w (by omega) (by omega)
  have hw : IntKind.u64.wrap (n : Int) = (n : Int) := by simp [IntKind.wrap, IntKind.bits, IntKind.signed]; omega
  go_enter Tryz.func31, Tryz.ntmps31
  go_wp2_with fail
  refine h0.mono ?_
  rintro e w' ⟨rfl, rfl⟩
  go_wp2_with fail
  go_ret
  exact ⟨⟨_, rfl⟩, rfl⟩
theorem insertion_one (p : Option Addr) (n cap : Nat) (hn : n ≤ 1) (fv : Value) (w : World) : Calls Tryz.prog 41 #[.slice p n cap, .int .i64 0, .int .i64 n, fv] w fun e w' => e = .returned (.tuple #[]) ∧ w' = w := by
  have e1 : decide ((1 : Int) < (n : Int)) = false := by simp; omega
  go_enter Tryz.func41, Tryz.ntmps41
  go_wp2
  refine wp_loop_rounds 1 ?_
  rw [rounds_succ]
  go_wp2
  go_end0
  exact ⟨rfl, rfl⟩
theorem pdq_one (p : Option Addr) (n cap : Nat) (hn : n ≤ 1) (lim : Int) (fv : Value) (w : World) : Calls Tryz.prog 30 #[.slice p n cap, .int .i64 0, .int .i64 n, .int .i64 lim, fv] w fun e w' => e = .returned (.tuple #[]) ∧ w' = w := by
  have hi := fun W => insertion_one p n cap hn fv W
  have e1 : decide ((n : Int) ≤ 12) = true := by simp; omega
  have e2 : IntKind.i64.wrap (n : Int) = (n : Int) := IntWalk.i64_in _ (by omega)
  go_enter Tryz.func30, Tryz.ntmps30
  go_wp2
  refine wp_loop_rounds 1 ?_
  rw [rounds_succ]
  go_wp2_with fail
  refine (hi _).mono ?_
  rintro e w' ⟨rfl, rfl⟩
  go_wp2_with fail
  (try simp only [Exit.inBlock, Exit.then]); refine bodyPost_ret (results_none rfl _ _ _) rfl ?_
  exact ⟨rfl, rfl⟩
theorem sort_one (p : Option Addr) (n cap : Nat) (hn : n ≤ 1) (fv : Value) (w : World) : Calls Tryz.prog 20 #[.slice p n cap, fv] w fun e w' => e = .returned (.tuple #[]) ∧ w' = w := by
  have hp := fun lim W => pdq_one p n cap hn lim fv W
  have hl := len_small n hn
  have hw : IntKind.u64.wrap (n : Int) = (n : Int) := by simp [IntKind.wrap, IntKind.bits, IntKind.signed]; omega
  go_enter Tryz.func20, Tryz.ntmps20
  go_wp2_with fail
  refine (hl _).mono ?_
  rintro e w' ⟨⟨l, rfl⟩, rfl⟩
  go_wp2_with fail
  refine (hp _ _).mono ?_
  rintro e w' ⟨rfl, rfl⟩
  go_wp2_with fail
  go_end0
  exact ⟨rfl, rfl⟩
end Srt
theorem nodup_one {α : Type} {l : List α} {a : α} (h : l.Nodup) (hx : ∀ x ∈ l, x = a) : l.length ≤ 1 := by
  rcases l with _ | ⟨x, _ | ⟨y, l⟩⟩
  · simp
  · simp
  · have h1 := hx x (by simp)
    have h2 := hx y (by simp)
    rw [h1, h2] at h
    simp at h
theorem grp_in {l : List (List UInt8 × Option Tr)} {k : List UInt8} {t : Tr} (h : t ∈ (grp l k).getD []) : ∃ p ∈ l, p.2 = some t := by
  unfold grp at h
  split at h
  · simp only [Option.getD_some, List.mem_filterMap] at h
    obtain ⟨p, hp, h1⟩ := h
    split at h1
    · exact ⟨p, hp, h1⟩
    · cases h1
  · simp at h
theorem grp_key {p : List UInt8 × Option Tr} {k : List UInt8} (h : (grp [p] k).isSome = true) : k = p.1 := by
  unfold grp at h
  split at h
  · rename_i h1
    simp at h1
    exact h1.symm
  · cases h
theorem infos_x (hK : 18446744073709551616 ≤ K) (A : Option Addr) (c b0 : Nat) (d : List UInt8) (w : World) (hE : EnvX K f w) (hu : Inv w) (h : RB w w.heap.size A d.length c d) (hn : d.length ≤ 1000) (hn0 : 0 < d.length) (hcell : w.cell? ⟨b0, 0, none⟩ = some (.slice A d.length c)) :
    Calls Tryz.prog 9 #[.slice (some ⟨b0, 0, none⟩) 1 1] w fun e w' => ∃ a, e = .returned (.tuple #[a, .bool (isId (parse d))]) ∧ Below w.heap.size w w' := by
  obtain ⟨i0, hi0, hz0, hz1, hz2⟩ := info_parts mad_info
  obtain ⟨j0, hj0, jz0, jz1, jz2⟩ := info_parts iinfo_info
  have qn : ∀ (t : TypeId) (v : Value) (w : World), (binOp .neq 52 (.iface t v) .nilIface).run Tryz.prog w = .ok (.bool true) w := fun _ _ _ => by kernel_rfl
  have q0 : ∀ (w : World), (binOp .neq 52 .nilIface .nilIface).run Tryz.prog w = .ok (.bool false) w := fun _ => by kernel_rfl
  have HA := Lib.hid (fun (wr : World) (hb : Below w.heap.size w wr) => addrof_x hK A c d wr (hE.below hb) ((h.below hb).more hb.size) hn hn0)
  have HU := Lib.hid hu
  have HCL := Lib.hid hcell
  have HLT := Lib.hid (World.block_lt_of_cell? _ _ hcell)
  clear h hE hu hcell
  generalize d.length = LL at *
  generalize parse d = o at *
  obtain ⟨ii, hii⟩ : ∃ ii, ii = isId o := ⟨_, rfl⟩
  have HII := Lib.hid hii
  rw [← hii]
  clear hii
  go_enter Tryz.func9, Tryz.ntmps9
  go_wp2_with fail
  go_loopw [4, 16] (fun v i wr => ∃ k : Nat, k ≤ 1 ∧ i = .int .i64 k ∧ Below w.heap.size w wr ∧
    ((k = 0 ∧ v = .slice none 0 0) ∨ (k = 1 ∧ ∃ t : Tr, wr.ownsRow w.heap.size 44 1 v 1 (trCells [t]) ∧ TrOk wr t ∧ t.cs.length ≤ 1000 ∧ o = some (t.cs.map (·.1))))) (fun _ i _ => 1 - (intOf i).toNat)
  case atStart => exact ⟨0, by omega, rfl, Below.refl _ _, .inl ⟨rfl, rfl⟩⟩
  case round =>
    obtain ⟨k, hk, rfl, hb, ⟨rfl, rfl⟩ | ⟨rfl, t, hown, htr, htl, hot⟩⟩ := hrel
    · have HB := Lib.hid hb
      have hc := (hb.cell (p := ⟨b0, 0, none⟩) HLT.out).trans HCL.out
      have HAr := Lib.hid (HA.out wr hb)
      clear hb HA
      rw [show ((0 : Nat) : Int) = 0 from rfl]
      go_wp2_with fail
      refine HAr.out.mono ?_
      intro e w3 hout
      cases o with
      | none =>
        obtain ⟨v, rfl, hb2⟩ := hout
        have HI := Lib.hid (show ii = false from HII.out)
        have HB2 := Lib.hid (HB.out.trans (hb2.mono HB.out.size))
        clear hb2
        go_wp2_with fail
        go_ret2
        rw [HI.out]
        exact ⟨_, rfl, HB2.out⟩
      | some ps =>
        obtain ⟨g, c3, cs, rfl, hcs, hp0, hp1, hpr, hms, hb3⟩ := hout
        have hbq := (Below.refl _ w3).alloc (Nat.le_refl _) (.cells #[.slice (some ⟨g, 0, none⟩) cs.length c3] 44)
        have hbw := hb3.trans (hbq.mono hb3.size)
        have HBW := Lib.hid hbw
        have HOO := Lib.hid (show (w3.alloc (.cells #[.slice (some ⟨g, 0, none⟩) cs.length c3] 44)).ownsRow w.heap.size 44 1 (.slice none 0 0) 0 (trCells []) from World.ownsRow_nil _ _ _ _)
        have HRN := Lib.hid (reads_new w3 #[.slice (some ⟨g, 0, none⟩) cs.length c3] 44 1 1 rfl)
        have HTN := Lib.hid ((⟨hms, hpr, hp0⟩ : TrOk w3 ⟨g, c3, cs⟩).below hbq)
        have HCS := Lib.hid hcs
        have HP1 := Lib.hid hp1
        clear hcs hpr hms hb3 hbq hbw hp0 hp1
        go_wp2_with (at_builtin; go_loud (refine wpList_append_any _ rfl _ _ _ rfl w.heap.size 44 i0 _ 1 24 Tryz.underlying59 hi0 hz0 hz1 hz2 rfl (by decide) _ _ _ rfl HOO.out _ _ 1 1 _ rfl HRN.out ?c0 ?c1 ?c2 ?c3 ?_))
        case c0 => intro u hu; simp at hu; subst hu; rfl
        case c1 => unfold maxLen; omega
        case c2 => omega
        case c3 => exact Nat.le_trans HB.out.size HBW.out.size
        intro v' w5 hown hgrow _hat
        have HB5 := Lib.hid ((HB.out.trans (HBW.out.mono HB.out.size)).grown hgrow (Nat.le_trans HB.out.size HBW.out.size) (fun g hg => (HOO.out.lt g hg).1))
        have HT5 := Lib.hid (TrOk.grown_row (ts := []) HTN.out HOO.out (fun _ => rfl) hgrow)
        have HOF := Lib.hid (show w5.ownsRow w.heap.size 44 1 v' 1 (trCells [⟨g, c3, cs⟩]) from hown)
        clear hown hgrow _hat
        go_wp2_with fail
        go_roundw
        case rel => exact ⟨1, by omega, by go_num, HB5.out, .inr ⟨rfl, ⟨g, c3, cs⟩, HOF.out, HT5.out, HP1.out, by rw [HCS.out]⟩⟩
        case measure => simp [intOf]
    · have HB := Lib.hid hb
      obtain ⟨tg, tc, tcs⟩ := t
      obtain ⟨cs, x, rfl⟩ := snoc_of tcs htr.pos
      have hi : ii = (x.1.k == 421) := by rw [HII.out, hot, List.map_append]; exact isId_snoc _ _
      have HIX := Lib.hid (show (idX x.1).length ≤ 1000 from idX_le (w := wr) (g := tg) (n := (cs ++ [x]).length) (c := tc) htr.ms)
      obtain ⟨A0, c0', hu4⟩ := own_slice hown
      have ho := hown
      rw [hu4] at ho
      have HU4 := Lib.hid hu4
      have HTL := Lib.hid htl
      clear hu4 HA hb
      rw [show ((1 : Nat) : Int) = 1 from rfl]
      by_cases hk4 : x.1.k = 421
      · have HI := Lib.hid (show ii = true by rw [hi, hk4]; rfl)
        have HF := Lib.hid (infos_good A0 1 c0' w.heap.size [⟨tg, tc, cs ++ [x]⟩] wr ho (fun t ht => by rw [List.mem_singleton] at ht; subst ht; exact htr) (fun t ht => by rw [List.mem_singleton] at ht; subst ht; exact htl) (by omega) (fun i hi => by
          have : i = 0 := by simp at hi; exact hi
          subst this
          exact ⟨cs, x, rfl, hk4⟩))
        have HO1 := Lib.hid hown
        clear ho hi hot hown htr htl
        go_wp2_with fail
        rw [HU4.out]
        refine HF.out.mono ?_
        rintro e w2 ⟨v2, ks, gl, D, val, rfl, how2, hnd, hin, hgl, hgm, hb2⟩
        have hg1 : ∃ p0, gl = [p0] := by
          have := congrArg List.length hgl
          rw [List.length_map, List.length_map] at this
          rcases gl with _ | ⟨p0, _ | ⟨p1, gl⟩⟩
          · simp at this
          · exact ⟨p0, rfl⟩
          · simp at this
        obtain ⟨p0, rfl⟩ := hg1
        have hkl : ks.length ≤ 1 := nodup_one hnd (a := p0.1) (fun k hk => grp_key ((hin k).1 hk))
        have hgr : ∀ L, ∀ t ∈ (grp [p0] L).getD [], t.cs.length ≤ 1000 := fun L t ht => by
          obtain ⟨p, hp, h1⟩ := grp_in ht
          rw [List.mem_singleton] at hp
          subst hp
          rw [List.map_singleton, List.map_singleton, told_snoc] at hgl
          injection hgl with hgl
          have h2 := congrArg Prod.snd hgl
          simp only [said, h1, Option.map_some] at h2
          split at h2
          · cases h2
          · injection h2 with h2
            have h3 := congrArg List.length h2
            rw [List.length_map, List.length_map] at h3
            have := HTL.out
            simp at this
            omega
        have HGR := Lib.hid hgr
        have HGM := Lib.hid hgm
        have HGL := Lib.hid (fun L => grp_len [p0] L)
        have HW2 := Lib.hid (HB.out.trans (hb2.mono HB.out.size))
        obtain ⟨A2, c2, rfl⟩ := own_slice how2
        have HO2 := Lib.hid (Reads.of_own how2)
        obtain ⟨m, hm⟩ : ∃ m, m = ks.length := ⟨_, rfl⟩
        have HKEY := Lib.hid (fun k (hk : k ∈ ks) => grp_key ((hin k).1 hk))
        have HPL := Lib.hid (show p0.1.length ≤ 1000 by
          rw [List.map_singleton, List.map_singleton, told_snoc] at hgl
          injection hgl with hgl
          have h2 := congrArg Prod.fst hgl
          have : p0.1 = idX x.1 := h2
          rw [this]
          exact HIX.out)
        rw [← hm] at HO2 hkl ⊢
        have HM := Lib.hid hm
        clear how2 hnd hin hgl hgm hb2 hgr hm
        go_wp2_with fail
        go_loopw [11, 41] (fun v i wq => ∃ j : Nat, j ≤ m ∧ i = .int .i64 j ∧ Below w2.heap.size w2 wq ∧ ∃ cells : List Value, wq.ownsRow w2.heap.size 31 2 v j cells) (fun _ i _ => m - (intOf i).toNat)
        case atStart => exact ⟨0, by omega, rfl, Below.refl _ _, [], World.ownsRow_nil _ _ _ _⟩
        case round =>
          obtain ⟨j, hj, rfl, hb, cells, hown⟩ := hrel
          have HBj := Lib.hid hb
          have HOj := Lib.hid hown
          clear hb hown
          by_cases hjm : j < m
          · have hj' : j < ks.length := by rw [← HM.out]; exact hjm
            obtain ⟨ad, rfl, hbk, hcell⟩ := (HO2.out.below HBj.out).2 (by omega)
            have hg := peerRow_get val ks j hj'
            have hLk := HKEY.out _ (List.getElem_mem hj')
            generalize ks[j] = L at *
            have hL44 : L.length ≤ 1000 := by rw [hLk]; exact HPL.out
            obtain ⟨Av, cv, hval⟩ := HGM.out.slice L
            rw [hval] at hg
            have c0 := hcell _ _ hg.1
            have c1 := hcell _ _ hg.2
            rw [add_succ _ _ 1 (by decide)] at c1
            have hba := (Below.refl _ wr).alloc (Nat.le_refl _) (.cells #[.string ⟨L.toArray⟩, .slice Av ((grp [p0] L).getD []).length cv] 61)
            have hgm2 := (HGM.out.below HBj.out).below hba
            have hrow := hgm2.row L
            rw [hval] at hrow
            have hln : ((grp [p0] L).getD []).length ≤ 1 := HGL.out L
            have HPI := Lib.hid (plaininfo_x L Av ((grp [p0] L).getD []).length cv _ ((grp [p0] L).getD []) _ hrow (hgm2.oks L) (HGR.out L) (by omega) (by omega))
            have HLN := Lib.hid hln
            have HBA := Lib.hid (HBj.out.trans (hba.mono HBj.out.size))
            have HBw := Lib.hid hba
            generalize (grp [p0] L).getD [] = tl at *
            clear hg hcell hval hba hgm2 hrow hln hLk
            go_wp2_with fail
            refine HPI.out.mono ?_
            rintro e w3 ⟨A1, c1', v3, qs, rfl, htb, ho3, htb3, hqs, hb3⟩
            obtain ⟨A3, c3, rfl⟩ := own_slice ho3
            have hbq := ((Below.refl _ w3).alloc (Nat.le_refl _) (.cells #[.slice A1 L.length c1', .slice A3 tl.length c3] 31))
            have hbw3 := HBw.out.trans (hb3.mono HBw.out.size)
            have hbw4 := hbw3.trans (hbq.mono hbw3.size)
            have HB4 := Lib.hid (HBj.out.trans (hbw4.mono HBj.out.size))
            have HOO := Lib.hid (own_below HOj.out hbw4)
            have HRN := Lib.hid (reads_new w3 #[.slice A1 L.length c1', .slice A3 tl.length c3] 31 2 1 rfl)
            clear htb ho3 htb3 hqs hb3 hbq hbw3 hbw4
            go_wp2_with (at_builtin; refine wpList_append_any _ rfl (.tmp 45) (.tmp 48) _ rfl w2.heap.size 31 j0 _ 2 48 Tryz.underlying34 hj0 jz0 jz1 jz2 rfl (by decide) _ _ _ rfl HOO.out _ _ 1 1 _ rfl HRN.out ?c0 ?c1 ?c2 ?c3 ?_)
            case c0 => intro u hu; simp at hu; rcases hu with rfl | rfl <;> rfl
            case c1 => unfold maxLen; omega
            case c2 => omega
            case c3 => exact HB4.out.size
            intro v' w5 hown hgrow _hat
            have HB5 := Lib.hid (HB4.out.grown hgrow HB4.out.size (fun g hg => (HOO.out.lt g hg).1))
            have HOF := Lib.hid hown
            clear hown hgrow _hat
            go_wp2_with fail
            go_roundw
            case rel => exact ⟨j + 1, by omega, by go_num, HB5.out, _, HOF.out⟩
            case measure => simp [intOf]; omega
          · obtain rfl : j = m := by omega
            have HBF := Lib.hid (HW2.out.trans (HBj.out.mono HW2.out.size))
            obtain ⟨A5, c5, rfl⟩ := own_slice HOj.out
            have HS := Lib.hid (fun fv => sort_one A5 j c5 hkl fv wr)
            go_wp2_with fail
            refine (HS.out _).mono ?_
            rintro e w6 ⟨rfl, rfl⟩
            go_wp2_with fail
            go_ret2
            rw [HI.out]
            exact ⟨_, rfl, HBF.out⟩
      · have HI := Lib.hid (show ii = false by rw [hi]; simp [hk4])
        have HF := Lib.hid (infos_bad A0 1 c0' w.heap.size [⟨tg, tc, cs ++ [x]⟩] wr ho (fun t ht => by rw [List.mem_singleton] at ht; subst ht; exact htr) (fun t ht => by rw [List.mem_singleton] at ht; subst ht; exact htl) (HU.out.below HB.out) (by omega) ⟨0, by simp, cs, x, rfl, hk4⟩)
        clear ho hi hot hown htr htl
        go_wp2_with fail
        rw [HU4.out]
        refine HF.out.mono ?_
        rintro e w2 ⟨ti, vi, rfl, hb2⟩
        have HB2 := Lib.hid (HB.out.trans (hb2.mono HB.out.size))
        clear hb2
        go_wp2_with fail
        go_ret2
        rw [HI.out]
        exact ⟨_, rfl, HB2.out⟩
end X
end Go.Proofs.YtghddiboggdhcaaGreatDoor
/- FnAddrWrong: the walk. Conditions: the package variables as laid, or typed. -/
namespace Go.Proofs.YtghddiboggdhcaaGreatDoor
open Go.RowKit
attribute [local go_sem ↓] Go.wp_at_zero Go.wp_at_succ
namespace X
variable {K : Nat} {f : Nat → Int}
theorem law_wrong (hK : 18446744073709551616 ≤ K) (A : Option Addr) (n c : Nat) (d : List UInt8) (w : World) (hE : EnvX K f w) (hu : Inv w) (h : RB w w.heap.size A n c d) :
    Calls Tryz.prog 3 #[.slice A n c] w fun e w' => e = .returned (.bool true) ∧ Below w.heap.size w w' := by
  obtain rfl := h.len
  by_cases h1 : 2147483647 < d.length
  · have e1 : decide ((2147483647 : Int) < (d.length : Int)) = true := by simp; omega
    clear h hE hu
    go_enter Tryz.func3, Tryz.ntmps3
    go_wp2_with fail
    go_ret
    exact ⟨rfl, Below.refl _ _⟩
  have e1 : decide ((2147483647 : Int) < (d.length : Int)) = false := by simp; omega
  have HAW := Lib.hid (fun (w1 : World) (hb : Below w.heap.size w w1) => awake w1 (K := K) (by omega) (hE.below hb).tab)
  by_cases h2 : 1000 < d.length
  · have e2 : decide ((1000 : Int) < (d.length : Int)) = true := by simp; omega
    clear h hE hu
    go_enter Tryz.func3, Tryz.ntmps3
    go_wp2_with fail
    refine (HAW.out w (Below.refl _ _)).mono ?_
    rintro e w1 ⟨rfl, hb⟩
    have HB := Lib.hid hb
    clear hb
    go_wp2_with fail
    go_ret
    exact ⟨rfl, HB.out⟩
  have e2 : decide ((1000 : Int) < (d.length : Int)) = false := by simp; omega
  by_cases h3 : d.length = 0
  · have e3 : ((d.length : Int) == 0) = true := by rw [h3]; rfl
    clear h hE hu
    go_enter Tryz.func3, Tryz.ntmps3
    go_wp2_with fail
    refine (HAW.out w (Below.refl _ _)).mono ?_
    rintro e w1 ⟨rfl, hb⟩
    have HB := Lib.hid hb
    clear hb
    go_wp2_with fail
    go_ret
    exact ⟨rfl, HB.out⟩
  have e3 : ((d.length : Int) == 0) = false := by rw [beq_eq_false_iff_ne]; omega
  have hSI : isId (parse d) = true → (parse d).isSome = true := by
    cases parse d <;> simp [isId]
  have HCL := Lib.hid (fun (w1 : World) (hb : Below w.heap.size w w1) => clone_any A _ c d w1 ((h.below hb).more hb.size) (by omega))
  have H1 := Lib.hid (fun (w1 : World) (hb : Below w.heap.size w w1) (A1 : Option Addr) (c1 : Nat) (hr : RB w1 w1.heap.size A1 d.length c1 d) => isplit_x hK A1 c1 d w1 (hE.below hb) hr (by omega) (by omega))
  have H2 := Lib.hid (fun (w1 : World) (hb : Below w.heap.size w w1) (A1 : Option Addr) (c1 : Nat) (hr : RB w1 w1.heap.size A1 d.length c1 d) => peer_x hK A1 c1 d w1 (hE.below hb) (hu.below hb) hr (by omega) (by omega))
  have H3 := Lib.hid (fun (w1 : World) (hb : Below w.heap.size w w1) (A1 : Option Addr) (c1 : Nat) (hr : RB w1 w1.heap.size A1 d.length c1 d) => infoof_x hK A1 c1 d w1 (hE.below hb) (hu.below hb) hr (by omega) (by omega))
  have H4 := Lib.hid (fun (w1 : World) (hb : Below w.heap.size w w1) => infos_x hK A c w1.heap.size d (w1.alloc (.cells #[.slice A d.length c] 22)) (hE.below (hb.alloc hb.size _)) (hu.below (hb.alloc hb.size _)) ((h.below (hb.alloc hb.size _)).more (hb.alloc hb.size _).size) (by omega) (by omega) ((Blk.new w1 22 #[.slice A d.length c]).cell 0))
  have H5 := Lib.hid (fun (w1 : World) (hb : Below w.heap.size w w1) (A1 : Option Addr) (c1 : Nat) (hr : RB w1 w1.heap.size A1 d.length c1 d) => right_x hK A1 c1 d w1 (hE.below hb) hr (by omega) (by omega))
  clear h hE hu h1 h2 h3
  obtain ⟨L, hL⟩ : ∃ L, L = d.length := ⟨_, rfl⟩
  have HL := Lib.hid hL
  rw [← hL] at H1 H2 H3 H4 H5 e1 e2 e3 HCL ⊢
  generalize (parse d).isSome = S at *
  generalize isId (parse d) = I at *
  clear hL
  go_enter Tryz.func3, Tryz.ntmps3
  go_wp2_with fail
  refine (HCL.out w (Below.refl _ _)).mono ?_
  rintro e w1 ⟨A1, c1, rfl, hr1, hb1⟩
  rw [← HL.out] at hr1 ⊢
  have HD1 := Lib.hid (H1.out w1 hb1 A1 c1 hr1)
  have HB1 := Lib.hid hb1
  clear hb1 hr1
  go_wp2_with fail
  refine HD1.out.mono ?_
  rintro e w2 ⟨x1, x2, rfl, hb2⟩
  have HB2 := Lib.hid (HB1.out.trans (hb2.mono HB1.out.size))
  clear hb2 HD1
  go_wp2_with fail
  refine (HCL.out w2 HB2.out).mono ?_
  rintro e w3 ⟨A3, c3, rfl, hr3, hb3⟩
  rw [← HL.out] at hr3 ⊢
  have HB3 := Lib.hid (HB2.out.trans (hb3.mono HB2.out.size))
  have HD2 := Lib.hid (H2.out w3 HB3.out A3 c3 hr3)
  clear hb3 hr3
  go_wp2_with fail
  refine HD2.out.mono ?_
  rintro e w4 ⟨x3, rfl, hb4⟩
  have HB4 := Lib.hid (HB3.out.trans (hb4.mono HB3.out.size))
  clear hb4 HD2
  go_wp2_with fail
  refine (HCL.out w4 HB4.out).mono ?_
  rintro e w5 ⟨A5, c5, rfl, hr5, hb5⟩
  rw [← HL.out] at hr5 ⊢
  have HB5 := Lib.hid (HB4.out.trans (hb5.mono HB4.out.size))
  have HD3 := Lib.hid (H3.out w5 HB5.out A5 c5 hr5)
  clear hb5 hr5
  go_wp2_with fail
  refine HD3.out.mono ?_
  rintro e w6 ⟨x4, x5, x6, x7, x8, x9, rfl, hb6⟩
  have HB6 := Lib.hid (HB5.out.trans (hb6.mono HB5.out.size))
  have hb6b := HB6.out.alloc HB6.out.size (.cells #[.slice x4 x6 x7, .slice x5 x8 x9] 31)
  have hd4 := H4.out _ hb6b
  rw [show (w6.alloc (.cells #[.slice x4 x6 x7, .slice x5 x8 x9] 31)).heap.size = w6.heap.size + 1 by simp] at hd4
  have HD4 := Lib.hid hd4
  have HB6A := Lib.hid (hb6b.alloc hb6b.size (.cells #[.slice A L c] 22))
  clear hb6 HD3 hb6b hd4
  go_wp2_with fail
  refine HD4.out.mono ?_
  rintro e w7 ⟨x10, rfl, hb7⟩
  have HB7 := Lib.hid (HB6A.out.trans (hb7.mono HB6A.out.size))
  clear hb7 HD4
  go_wp2_with fail
  refine (HCL.out w7 HB7.out).mono ?_
  rintro e w8 ⟨A8, c8, rfl, hr8, hb8⟩
  rw [← HL.out] at hr8 ⊢
  have HB8 := Lib.hid (HB7.out.trans (hb8.mono HB7.out.size))
  have HD5 := Lib.hid (H5.out w8 HB8.out A8 c8 hr8)
  clear hb8 hr8
  go_wp2_with fail
  refine HD5.out.mono ?_
  rintro e w9 ⟨rfl, hb9⟩
  have HB9 := Lib.hid (HB8.out.trans (hb9.mono HB8.out.size))
  clear hb9 HD5
  have HA9 := Lib.hid (HAW.out w9 HB9.out)
  cases S with
  | true =>
    cases I with
    | true =>
      go_wp2_with fail
      refine HA9.out.mono ?_
      rintro e w10 ⟨rfl, hb⟩
      have HB := Lib.hid (HB9.out.trans (hb.mono HB9.out.size))
      clear hb
      go_wp2_with fail
      go_ret
      exact ⟨rfl, HB.out⟩
    | false =>
      go_wp2_with fail
      refine HA9.out.mono ?_
      rintro e w10 ⟨rfl, hb⟩
      have HB := Lib.hid (HB9.out.trans (hb.mono HB9.out.size))
      clear hb
      go_wp2_with fail
      go_ret
      exact ⟨rfl, HB.out⟩
  | false =>
    obtain rfl : I = false := by cases I <;> simp_all
    go_wp2_with fail
    refine HA9.out.mono ?_
    rintro e w10 ⟨rfl, hb⟩
    have HB := Lib.hid (HB9.out.trans (hb.mono HB9.out.size))
    clear hb
    go_wp2_with fail
    go_ret
    exact ⟨rfl, HB.out⟩
end X
end Go.Proofs.YtghddiboggdhcaaGreatDoor
/- The argument: a slice of parts, out of what the row says of it. -/
namespace Go.Proofs.YtghddiboggdhcaaGreatDoor
open Go.ChangeShapes Go.RowKit
theorem u8_of_wf {n : Int} (h : (Lit.int .u8 n).wf = true) : ∃ b : UInt8, n = b.toNat := by
  have h2 : 0 ≤ n ∧ n ≤ 255 := by
    unfold Lit.wf at h
    rw [Bool.and_eq_true] at h
    exact ⟨by have := of_decide_eq_true h.1; exact this, by have := of_decide_eq_true h.2; exact this⟩
  exact ⟨UInt8.ofNat n.toNat, by simp; omega⟩
section
variable {H : Type} {enc : TypeId × Value → H} {W : World} {base : Nat} {spare : Nat → Bool} {held : Bool}
theorem bytes_of {fuel : Nat} {v : Value} {x : DataW H × List MemPlace} (h : DataW.trod enc Tryz.prog W base spare held fuel 22 [v] = some x) : ∃ A n c l, v = .slice A n c ∧ RB W W.heap.size A n c l := by
  rcases open_ints Tryz.underlying22 Tryz.underlying5 (by kernel_rfl) h with ⟨hcs, _⟩ | ⟨a, len, cap, zs, hcs, _, hl, hm, hz, _, hcell, hwf⟩
  · injection hcs with hv _
    exact ⟨none, 0, 0, [], hv, RB.nil_ _ _⟩
  · injection hcs with hv _
    have hzl : len ≤ zs.length := by rw [hz]; split <;> omega
    have hf : ∀ i, i < len → ∃ b : UInt8, W.cell? (a.add i) = some (.int .u8 b.toNat) := fun i hi => by
      have hc := hcell i (by omega)
      have hmem : zs.getD i 0 ∈ zs := by simp [List.getD, List.getElem?_eq_getElem (show i < zs.length by omega)]
      obtain ⟨b, hb⟩ := u8_of_wf (hwf _ hmem)
      exact ⟨b, by rw [hc, hb]⟩
    refine ⟨some a, len, cap, (List.range len).map fun i => if h : i < len then Classical.choose (hf i h) else 0, hv, ⟨⟨by simp [bv], fun hn => ⟨a, rfl, ?_, fun j u hu => ?_⟩⟩, hl, hm⟩⟩
    · obtain ⟨b, hb⟩ := hf 0 hn
      have := World.block_lt_of_cell? _ _ hb
      rwa [block_of_add] at this
    · have hj : j < len := by
        have := (List.getElem?_eq_some_iff.1 hu).1
        simpa [bv] using this
      have : u = .int .u8 (Classical.choose (hf j hj)).toNat := by
        simp [bv, hj] at hu
        exact hu.symm
      rw [this]
      exact Classical.choose_spec (hf j hj)
end
end Go.Proofs.YtghddiboggdhcaaGreatDoor
