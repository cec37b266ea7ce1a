/- peer.AddrInfosFromP2pAddrs where an address has no ID: an error. -/
import Derived.Test.YtimakhadabenbaaGreatDoorGa
import Derived.Test.YtimakhadabenbaaGreatDoorQm
namespace Go.Proofs.YtimakhadabenbaaGreatDoor
open Go.RowKit
attribute [local go_sem ↓] Go.wp_at_zero Go.wp_at_succ
/-- The package variable that says that an address has no ID holds an error. -/
structure Inv (w : World) : Prop where
  held : ∃ t v, w.cell? ⟨0, 0, none⟩ = some (.iface t v)
theorem Inv.below {w w' : World} (h : Inv w) (hb : Below w.heap.size w w') : Inv w' := by
  obtain ⟨t, v, h⟩ := h.held
  exact ⟨t, v, (hb.cell (World.block_lt_of_cell? _ _ h)).trans h⟩
/-- No answer, but an error. -/
def OutErr (w : World) (e : Ending) (w' : World) : Prop := ∃ t v, e = .returned (.tuple #[.slice none 0 0, .iface t v]) ∧ Below w.heap.size w w'
set_option maxRecDepth 100000 in
set_option maxHeartbeats 4000000 in
theorem infos_bad (A : Option Addr) (n c base : Nat) (ts : List Tr) (w : World) (ho : w.ownsRow base 46 1 (.slice A n c) n (trCells ts)) (hts : ∀ t ∈ ts, TrOk w t) (hl : ∀ t ∈ ts, t.cs.length ≤ 101) (hu : Inv w) (hn : n ≤ 1000)
    (hbad : ∃ i, ∃ hi : i < ts.length, ∃ cs x, (ts[i]).cs = cs ++ [x] ∧ x.1.kd % 8 ≠ 6) : Calls Tryz.prog 17 #[.slice A n c] w (OutErr w) := by
  obtain ⟨i0, hi0, hz0, hz1, hz2⟩ := info_parts mad_info
  have q : ∀ (w : World) (a : Option Addr) (n c n' c' : Nat), (binOp .eql 46 (.slice a n c) (.slice none n' c')).run Tryz.prog w = .ok (.bool a.isNone) w := fun w a n c n' c' => Lib.run_eql_slice_nil w _ _ a n c n' c' Tryz.underlying46
  have hln : ts.length = n := by have := (Reads.of_own ho).1; rw [trCells_length] at this; omega
  have hmm := @run_makeMap Tryz.prog
  have HO := Lib.hid ho
  have HTS := Lib.hid hts
  have HL := Lib.hid hl
  have HU := Lib.hid hu
  have HLN := Lib.hid hln
  have HBAD := Lib.hid hbad
  have hb0 := (Below.refl _ w).alloc (Nat.le_refl _) (.map #[] 0)
  have HGM := Lib.hid (GM.made w)
  have HB0 := Lib.hid hb0
  clear ho hts hl hu hln hbad hb0
  go_enter Tryz.func17, Tryz.ntmps17
  go_wp2_with fail
  go_loopw [17] (fun i wr => ∃ k : Nat, k ≤ n ∧ i = .int .i64 k ∧ Below w.heap.size w wr ∧ (∀ i (hi : i < ts.length), i < k → ∃ cs x, (ts[i]).cs = cs ++ [x] ∧ x.1.kd % 8 = 6) ∧
    ∃ gl D val, gl.length = k ∧ GM wr (w.heap.size + 1) w.heap.size k (grp gl) D val) (fun i _ => n - (intOf i).toNat)
  case atStart => exact ⟨0, by omega, rfl, HB0.out, fun _ _ h => absurd h (by omega), [], _, _, rfl, HGM.out⟩
  case round =>
    obtain ⟨k, hk, rfl, hb, hall, gl, D, val, hgl, hgm⟩ := hrel
    have HGL := Lib.hid hgl
    have HB := Lib.hid hb
    have HALL := Lib.hid hall
    have HM := Lib.hid hgm
    clear hb hall hgm hgl
    by_cases hlt : k < n
    · have hlt' : k < ts.length := by rw [HLN.out]; exact hlt
      obtain ⟨ad, eA, _, hcell⟩ := (Reads.of_own HO.out).2 (by omega)
      obtain rfl := eA
      have hck := hcell k (ts[k]).v (by simp [trCells, hlt'])
      have hto := (HTS.out _ (List.getElem_mem hlt')).below HB.out
      have hcl := HL.out _ (List.getElem_mem hlt')
      obtain ⟨cs, x, hcs⟩ : ∃ cs x, (ts[k]).cs = cs ++ [x] := by
        have hne : (ts[k]).cs ≠ [] := fun e => by have hpos := hto.pos; rw [e] at hpos; simp at hpos
        exact ⟨_, _, (List.dropLast_concat_getLast hne).symm⟩
      have hnx : x.1.kd % 8 = 6 → ∀ i (hi : i < ts.length), i < k + 1 → ∃ cs x, (ts[i]).cs = cs ++ [x] ∧ x.1.kd % 8 = 6 := fun h6 i hi hik => by
        rcases Nat.lt_or_ge i k with h1 | h1
        · exact HALL.out i hi h1
        · obtain rfl : i = k := by omega
          exact ⟨cs, x, hcs, h6⟩
      have HNX := Lib.hid hnx
      clear hnx
      generalize ts[k] = t at *
      obtain ⟨g, cg, tcs⟩ := t
      obtain rfl : tcs = cs ++ [x] := hcs
      have hcl' : cs.length ≤ 100 := by have : (cs ++ [x]).length ≤ 101 := hcl; simp at this; omega
      have c5 : wr.cell? (ad.add k) = some (.slice (some ⟨g, 0, none⟩) (cs.length + 1) cg) := ((HB.out.cell (World.block_lt_of_cell? _ _ hck)).trans hck).trans (by simp [Tr.v])
      have hms : MS wr g (cs.length + 1) cg (cs ++ [x]) := by have := hto.ms; simpa using this
      have hpr : PR wr (cs ++ [x]) := hto.pr
      clear hck hcell hto hcl
      by_cases h6 : x.1.kd % 8 = 6
      · have HS := Lib.hid (splitaddr_id g cg cs x wr (by omega) h6 hpr hms)
        have HPR := Lib.hid (show PR wr cs from fun y hy => hpr y (by simp [hy]))
        have hI2 := idOf_two x.1.l
        have hIl := idOf_le x.1.l
        have HN6 := Lib.hid (HNX.out h6)
        obtain ⟨I, hI⟩ : ∃ I, I = idOf x.1.l := ⟨_, rfl⟩
        rw [← hI] at hI2 hIl
        have hIm : I.length ≤ maxLen := by unfold maxLen; omega
        have hemp : I.isEmpty = false := by rcases I with _ | ⟨_, _⟩; · simp at hI2
                                            · rfl
        have HIq := Lib.hid hI
        clear hms hpr hI HNX
        go_wp2_with fail
        refine HS.out.mono ?_
        rintro e w1 ⟨T, rfl, hT, hb1⟩
        rw [← HIq.out]
        have HB1 := Lib.hid (HB.out.trans (hb1.mono HB.out.size))
        have HM1 := Lib.hid (HM.out.below hb1)
        have HP1 := Lib.hid (HPR.out.below hb1)
        clear hb1 HS
        have hgs := fun o => grp_snoc gl I o
        have HGS := Lib.hid hgs
        clear hgs
        rcases hT with ⟨h0, rfl⟩ | ⟨h0, b, rfl, hmb⟩
        · clear h0
          have hlk := HM1.out.look_ok I hIm
          rcases hg : grp gl I with _ | y
          · rw [hg] at hlk
            have HG := Lib.hid hg
            clear hg
            go_wp2_with (at_mapUpdate; go_loud (refine wpList_mapUpdate_own _ rfl _ _ _ 72 rfl 54 44 key_law Tryz.underlying72 rawR _ k D rfl HM1.out.own (by unfold maxLen; omega) _ _ (.string I) rfl rfl (key_of I hIm) _ [] (rawR_slice none 0 0) ?_))
            intro w2 hown2 hgrow2
            have hm2 := HM1.out.putNil I hIm HG.out hown2 hgrow2
            have hge : grp (gl ++ [(I, none)]) = upd (grp gl) I (some ((grp gl I).getD [])) := by
              rw [HGS.out none]
              simp
            rw [← hge] at hm2
            have HM3 := Lib.hid hm2
            have HB3 := Lib.hid (HB1.out.grown hgrow2 HB1.out.size (fun g hg => by injection hg with hg; omega))
            clear hown2 hgrow2 hm2 hge
            go_wp2_with fail
            go_roundw
            case rel => exact ⟨k + 1, by omega, by go_num, HB3.out, HN6.out, gl ++ [(I, none)], _, _, by rw [List.length_append, HGL.out]; rfl, HM3.out⟩
            case measure => simp [intOf]; omega
          · rw [hg] at hlk
            have HG := Lib.hid hg
            clear hg
            have HM3 := Lib.hid (show GM w1 (w.heap.size + 1) w.heap.size (k + 1) (grp (gl ++ [(I, none)])) D val by
              have e : grp (gl ++ [(I, none)]) = grp gl := by
                rw [HGS.out none]
                have h1 := upd_id (grp gl) I
                rw [HG.out] at h1
                rw [HG.out]
                simpa using h1
              rw [e]
              exact HM1.out.more (by omega))
            go_wp2_with fail
            go_roundw
            case rel => exact ⟨k + 1, by omega, by go_num, HB1.out, HN6.out, gl ++ [(I, none)], _, _, by rw [List.length_append, HGL.out]; rfl, HM3.out⟩
            case measure => simp [intOf]; omega
        · have hlk := HM1.out.look I hIm
          obtain ⟨Av, cv, hval⟩ := HM1.out.slice I
          rw [hval] at hlk
          have hba := (Below.refl _ w1).alloc (Nat.le_refl _) (.cells #[.slice (some ⟨b, 0, none⟩) cs.length cs.length] 46)
          have HM2 := Lib.hid (HM1.out.below hba)
          have HROW := Lib.hid (HM2.out.row I)
          rw [hval] at HROW
          have HRN := Lib.hid (reads_new w1 #[.slice (some ⟨b, 0, none⟩) cs.length cs.length] 46 1 1 rfl)
          have HB2 := Lib.hid (HB1.out.trans (hba.mono HB1.out.size))
          have HT2 := Lib.hid ((⟨hmb, HP1.out, h0⟩ : TrOk w1 ⟨b, cs.length, cs⟩).below hba)
          have HVAL := Lib.hid hval
          clear hval hba hmb h0
          go_wp2_with (at_builtin; go_loud (refine wpList_append_any _ rfl _ _ _ rfl (w.heap.size + 1) 46 i0 _ 1 24 Tryz.underlying44 hi0 hz0 hz1 hz2 rfl (by decide) _ _ _ rfl HROW.out _ _ 1 1 _ rfl HRN.out ?c0 ?c1 ?c2 ?c3 ?_))
          case c0 => intro u hu; simp at hu; subst hu; rfl
          case c1 => have := grp_len gl I; have := HGL.out; unfold maxLen; omega
          case c2 => have := grp_len gl I; have := HGL.out; omega
          case c3 => have := HB2.out.size; have := HM2.out.lt; omega
          intro v3 w3 hown3 hgrow3 hat3
          obtain ⟨A3, c3, rfl⟩ := own_slice hown3
          have hnb : some w.heap.size ≠ (Value.slice Av ((grp gl I).getD []).length cv).ownBlock := fun e => by
            have := (HROW.out.lt _ e.symm).1
            omega
          have HOM := Lib.hid (HM2.out.own.kept hgrow3 hnb)
          have HOW3 := Lib.hid hown3
          have HGR3 := Lib.hid hgrow3
          have HAT3 := Lib.hid hat3
          have hoff := HT2.out.off_row (HVAL.out ▸ HM2.out.row I) (fun e => by have := HM2.out.nil_ I e; rw [HVAL.out] at this; rw [this]; rfl)
          have HT3 := Lib.hid (HT2.out.kept hgrow3 hoff.1 hoff.2)
          clear hown3 hgrow3 hat3 hoff hnb
          go_wp2_with (at_mapUpdate; go_loud (refine wpList_mapUpdate_own _ rfl _ _ _ 72 rfl 54 44 key_law Tryz.underlying72 rawR _ k D rfl HOM.out (by unfold maxLen; omega) _ _ (.string I) rfl rfl (key_of I hIm) _ [] (rawR_slice _ _ _) ?_))
          intro w4 hown4 hgrow4
          have hm4 := HM2.out.put I hIm ⟨b, cs.length, cs⟩ (by rw [HVAL.out]; exact HGR3.out) HOW3.out (by rw [HVAL.out]; exact HAT3.out.imp id (fun h => ⟨_, h, by rw [World.size_alloc]; exact Nat.le_refl _⟩)) HT3.out hown4 hgrow4
          have hge : grp (gl ++ [(I, some ⟨b, cs.length, cs⟩)]) = upd (grp gl) I (some ((grp gl I).getD [] ++ [⟨b, cs.length, cs⟩])) := by
            rw [HGS.out (some ⟨b, cs.length, cs⟩)]
            rfl
          rw [← hge] at hm4
          have HM4 := Lib.hid hm4
          have HB4 := Lib.hid ((HB2.out.grown HGR3.out HB2.out.size (fun g hg => by have := (HROW.out.lt g hg).1; omega)).grown hgrow4 (Nat.le_trans HB2.out.size HGR3.out.size) (fun g hg => by injection hg with hg; omega))
          clear hown4 hgrow4 hm4 hge
          go_wp2_with fail
          go_roundw
          case rel => exact ⟨k + 1, by omega, by go_num, HB4.out, HN6.out, gl ++ [(I, some ⟨b, cs.length, cs⟩)], _, _, by rw [List.length_append, HGL.out]; rfl, HM4.out⟩
          case measure => simp [intOf]; omega
      · have HS := Lib.hid (splitaddr_other g cg cs x wr (by omega) h6 hpr hms)
        obtain ⟨ti, vi, hc⟩ := (HU.out.below HB.out).held
        have HC := Lib.hid hc
        clear hms hpr HNX hc
        go_wp2_with fail
        refine HS.out.mono ?_
        rintro e w1 ⟨rfl, hb1⟩
        have HB1 := Lib.hid (HB.out.trans (hb1.mono HB.out.size))
        have hc1 : w1.cell? ⟨0, 0, none⟩ = some (.iface ti vi) := (hb1.cell (World.block_lt_of_cell? _ _ HC.out)).trans HC.out
        clear hb1 HS
        go_wp2_with fail
        go_quiet (fail)
        go_wp2_with fail
        go_ret2
        exact ⟨ti, vi, rfl, below_drewN HB1.out _⟩
    · obtain rfl : k = n := by omega
      obtain ⟨i, hi, cs, x, hcs, h6⟩ := HBAD.out
      obtain ⟨cs', x', hcs', h6'⟩ := HALL.out i hi (by rw [← HLN.out]; exact hi)
      rw [hcs] at hcs'
      have := (List.append_inj' hcs' rfl).2
      injection this with hx
      exact absurd (by rw [hx]; exact h6') h6
end Go.Proofs.YtimakhadabenbaaGreatDoor
