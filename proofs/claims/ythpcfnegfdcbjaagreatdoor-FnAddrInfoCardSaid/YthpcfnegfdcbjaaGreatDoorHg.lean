/- peer.AddrInfosFromP2pAddrs where an address has no ID: an error. -/
import Derived.Test.YthpcfnegfdcbjaaGreatDoorGa
import Derived.Test.YthpcfnegfdcbjaaGreatDoorQm
namespace Go.Proofs.YthpcfnegfdcbjaaGreatDoor
open Go.RowKit
attribute [local go_sem ↓] Go.wp_at_zero Go.wp_at_succ
/-- The package variable that says that an address has no ID holds an error. -/
structure Inv (w : World) : Prop where
  held : ∃ t v, w.cell? ⟨0, 0, none⟩ = some (.iface t v)
theorem Inv.below {w w' : World} (h : Inv w) (hb : Below w.heap.size w w') : Inv w' := by
  obtain ⟨t, v, h⟩ := h.held
  exact ⟨t, v, (hb.cell (World.block_lt_of_cell? _ _ h)).trans h⟩
/-- No answer, but an error. -/
def OutErr (w : World) (e : Ending) (w' : World) : Prop := ∃ t v, e = .returned (.tuple #[.slice none 0 0, .iface t v]) ∧ Below w.heap.size w w'
set_option maxRecDepth 100000 in
set_option maxHeartbeats 4000000 in
theorem infos_bad (A : Option Addr) (n c base : Nat) (ts : List Tr) (w : World) (ho : w.ownsRow base 51 1 (.slice A n c) n (trCells ts)) (hts : ∀ t ∈ ts, TrOk w t) (hl : ∀ t ∈ ts, t.cs.length ≤ 101) (hu : Inv w) (hn : n ≤ 1000)
    (hbad : ∃ i, ∃ hi : i < ts.length, ∃ cs x, (ts[i]).cs = cs ++ [x] ∧ x.1.kd % 8 ≠ 6) : Calls Tryz.prog 31 #[.slice A n c] w (OutErr w) := by
  obtain ⟨i0, hi0, hz0, hz1, hz2⟩ := info_parts mad_info
  have q : ∀ (w : World) (a : Option Addr) (n c n' c' : Nat), (binOp .eql 51 (.slice a n c) (.slice none n' c')).run Tryz.prog w = .ok (.bool a.isNone) w := fun w a n c n' c' => Lib.run_eql_slice_nil w _ _ a n c n' c' Tryz.underlying51
  have hln : ts.length = n := by have := (Reads.of_own ho).1; rw [trCells_length] at this; omega
  have hmm := @run_makeMap Tryz.prog
  have HO := Lib.hid ho
  have HTS := Lib.hid hts
  have HL := Lib.hid hl
  have HU := Lib.hid hu
  have HLN := Lib.hid hln
  have HBAD := Lib.hid hbad
  have hb0 := (Below.refl _ w).alloc (Nat.le_refl _) (.map #[] 0)
  have HGM := Lib.hid (GM.made w)
  have HB0 := Lib.hid hb0
  clear ho hts hl hu hln hbad hb0
  go_enter Tryz.func31, Tryz.ntmps31
  go_wp2_with fail
  go_loopw [17] (fun i wr => ∃ k : Nat, k ≤ n ∧ i = .int .i64 k ∧ Below w.heap.size w wr ∧ (∀ i (hi : i < ts.length), i < k → ∃ cs x, (ts[i]).cs = cs ++ [x] ∧ x.1.kd % 8 = 6) ∧
    ∃ gl D val, gl.length = k ∧ GM wr (w.heap.size + 1) w.heap.size k (grp gl) D val) (fun i _ => n - (intOf i).toNat)
  case atStart => exact ⟨0, by omega, rfl, HB0.out, fun _ _ h => absurd h (by omega), [], _, _, rfl, HGM.out⟩
  case round =>
    obtain ⟨k, hk, rfl, hb, hall, gl, D, val, hgl, hgm⟩ := hrel
    have HGL := Lib.hid hgl
    have HB := Lib.hid hb
    have HALL := Lib.hid hall
    have HM := Lib.hid hgm
    clear hb hall hgm hgl
    by_cases hlt : k < n
    · have hlt' : k < ts.length := by rw [HLN.out]; exact hlt
      obtain ⟨ad, eA, _, hcell⟩ := (Reads.of_own HO.out).2 (by omega)
      obtain rfl := eA
      have hck := hcell k (ts[k]).v (by simp [trCells, hlt'])
      have hto := (HTS.out _ (List.getElem_mem hlt')).below HB.out
      have hcl := HL.out _ (List.getElem_mem hlt')
      obtain ⟨cs, x, hcs⟩ : ∃ cs x, (ts[k]).cs = cs ++ [x] := by
        have hne : (ts[k]).cs ≠ [] := fun e => by have hpos := hto.pos; rw [e] at hpos; simp at hpos
        exact ⟨_, _, (List.dropLast_concat_getLast hne).symm⟩
      have hnx : x.1.kd % 8 = 6 → ∀ i (hi : i < ts.length), i < k + 1 → ∃ cs x, (ts[i]).cs = cs ++ [x] ∧ x.1.kd % 8 = 6 := fun h6 i hi hik => by
        rcases Nat.lt_or_ge i k with h1 | h1
        · exact HALL.out i hi h1
        · obtain rfl : i = k := by omega
          exact ⟨cs, x, hcs, h6⟩
      have HNX := Lib.hid hnx
      clear hnx
      generalize ts[k] = t at *
      obtain ⟨g, cg, tcs⟩ := t
      obtain rfl : tcs = cs ++ [x] := hcs
      have hcl' : cs.length ≤ 100 := by have : (cs ++ [x]).length ≤ 101 := hcl; simp at this; omega
      have c5 : wr.cell? (ad.add k) = some (.slice (some ⟨g, 0, none⟩) (cs.length + 1) cg) := ((HB.out.cell (World.block_lt_of_cell? _ _ hck)).trans hck).trans (by simp [Tr.v])
      have hms : MS wr g (cs.length + 1) cg (cs ++ [x]) := by have := hto.ms; simpa using this
      have hpr : PR wr (cs ++ [x]) := hto.pr
      clear hck hcell hto hcl
      by_cases h6 : x.1.kd % 8 = 6
      · have HS := Lib.hid (splitaddr_id g cg cs x wr (by omega) h6 hpr hms)
        have HPR := Lib.hid (show PR wr cs from fun y hy => hpr y (by simp [hy]))
        have hI2 := idOf_two x.1.l
        have hIl := idOf_le x.1.l
        have HN6 := Lib.hid (HNX.out h6)
        obtain ⟨I, hI⟩ : ∃ I, I = idOf x.1.l := ⟨_, rfl⟩
        rw [← hI] at hI2 hIl
        have hIm : I.length ≤ maxLen := by unfold maxLen; omega
        have hemp : I.isEmpty = false := by rcases I with _ | ⟨_, _⟩; · simp at hI2
                                            · rfl
        have HIq := Lib.hid hI
        clear hms hpr hI HNX
        go_wp2_with fail
        refine HS.out.mono ?_
        rintro e w1 ⟨T, rfl, hT, hb1⟩
        rw [← HIq.out]
        have HB1 := Lib.hid (HB.out.trans (hb1.mono HB.out.size))
        have HM1 := Lib.hid (HM.out.below hb1)
        have HP1 := Lib.hid (HPR.out.below hb1)
        clear hb1 HS
        have hgs := fun o => grp_snoc gl I o
        have HGS := Lib.hid hgs
        clear hgs
        rcases hT with ⟨h0, rfl⟩ | ⟨h0, b, rfl, hmb⟩
        · clear h0
          have hlk := HM1.out.look_ok I hIm
          rcases hg : grp gl I with _ | y
          · rw [hg] at hlk
            have HG := Lib.hid hg
            clear hg
            go_wp2_with (at_mapUpdate; go_loud (refine wpList_mapUpdate_own _ rfl _ _ _ 104 rfl 60 61 key_law Tryz.underlying104 rawR _ k D rfl HM1.out.own (by unfold maxLen; omega) _ _ (.string I) rfl rfl (key_of I hIm) _ [] (rawR_slice none 0 0) ?_))
            intro w2 hown2 hgrow2
            have hm2 := HM1.out.putNil I hIm HG.out hown2 hgrow2
            have hge : grp (gl ++ [(I, none)]) = upd (grp gl) I (some ((grp gl I).getD [])) := by
              rw [HGS.out none]
              simp
            rw [← hge] at hm2
            have HM3 := Lib.hid hm2
            have HB3 := Lib.hid (HB1.out.grown hgrow2 HB1.out.size (fun g hg => by injection hg with hg; omega))
            clear hown2 hgrow2 hm2 hge
            go_wp2_with fail
            go_roundw
            case rel => exact ⟨k + 1, by omega, by go_num, HB3.out, HN6.out, gl ++ [(I, none)], _, _, by rw [List.length_append, HGL.out]; rfl, HM3.out⟩
            case measure => simp [intOf]; omega
          · rw [hg] at hlk
            have HG := Lib.hid hg
            clear hg
            have HM3 := Lib.hid (show GM w1 (w.heap.size + 1) w.heap.size (k + 1) (grp (gl ++ [(I, none)])) D val by
              have e : grp (gl ++ [(I, none)]) = grp gl := by
                rw [HGS.out none]
                have h1 := upd_id (grp gl) I
                rw [HG.out] at h1
                rw [HG.out]
                simpa using h1
              rw [e]
              exact HM1.out.more (by omega))
            go_wp2_with fail
            go_roundw
            case rel => exact ⟨k + 1, by omega, by go_num, HB1.out, HN6.out, gl ++ [(I, none)], _, _, by rw [List.length_append, HGL.out]; rfl, HM3.out⟩
            case measure => simp [intOf]; omega
        · have hlk := HM1.out.look I hIm
          obtain ⟨Av, cv, hval⟩ := HM1.out.slice I
          rw [hval] at hlk
          have hba := (Below.refl _ w1).alloc (Nat.le_refl _) (.cells #[.slice (some ⟨b, 0, none⟩) cs.length cs.length] 51)
          have HM2 := Lib.hid (HM1.out.below hba)
          have HROW := Lib.hid (HM2.out.row I)
          rw [hval] at HROW
          have HRN := Lib.hid (reads_new w1 #[.slice (some ⟨b, 0, none⟩) cs.length cs.length] 51 1 1 rfl)
          have HB2 := Lib.hid (HB1.out.trans (hba.mono HB1.out.size))
          have HT2 := Lib.hid ((⟨hmb, HP1.out, h0⟩ : TrOk w1 ⟨b, cs.length, cs⟩).below hba)
          have HVAL := Lib.hid hval
          clear hval hba hmb h0
          go_wp2_with (at_builtin; go_loud (refine wpList_append_any _ rfl _ _ _ rfl (w.heap.size + 1) 51 i0 _ 1 24 Tryz.underlying61 hi0 hz0 hz1 hz2 rfl (by decide) _ _ _ rfl HROW.out _ _ 1 1 _ rfl HRN.out ?c0 ?c1 ?c2 ?c3 ?_))
          case c0 => intro u hu; simp at hu; subst hu; rfl
          case c1 => have := grp_len gl I; have := HGL.out; unfold maxLen; omega
          case c2 => have := grp_len gl I; have := HGL.out; omega
          case c3 => have := HB2.out.size; have := HM2.out.lt; omega
          intro v3 w3 hown3 hgrow3 hat3
          obtain ⟨A3, c3, rfl⟩ := own_slice hown3
          have hnb : some w.heap.size ≠ (Value.slice Av ((grp gl I).getD []).length cv).ownBlock := fun e => by
            have := (HROW.out.lt _ e.symm).1
            omega
          have HOM := Lib.hid (HM2.out.own.kept hgrow3 hnb)
          have HOW3 := Lib.hid hown3
          have HGR3 := Lib.hid hgrow3
          have HAT3 := Lib.hid hat3
          have hoff := HT2.out.off_row (HVAL.out ▸ HM2.out.row I) (fun e => by have := HM2.out.nil_ I e; rw [HVAL.out] at this; rw [this]; rfl)
          have HT3 := Lib.hid (HT2.out.kept hgrow3 hoff.1 hoff.2)
          clear hown3 hgrow3 hat3 hoff hnb
          go_wp2_with (at_mapUpdate; go_loud (refine wpList_mapUpdate_own _ rfl _ _ _ 104 rfl 60 61 key_law Tryz.underlying104 rawR _ k D rfl HOM.out (by unfold maxLen; omega) _ _ (.string I) rfl rfl (key_of I hIm) _ [] (rawR_slice _ _ _) ?_))
          intro w4 hown4 hgrow4
          have hm4 := HM2.out.put I hIm ⟨b, cs.length, cs⟩ (by rw [HVAL.out]; exact HGR3.out) HOW3.out (by rw [HVAL.out]; exact HAT3.out.imp id (fun h => ⟨_, h, by rw [World.size_alloc]; exact Nat.le_refl _⟩)) HT3.out hown4 hgrow4
          have hge : grp (gl ++ [(I, some ⟨b, cs.length, cs⟩)]) = upd (grp gl) I (some ((grp gl I).getD [] ++ [⟨b, cs.length, cs⟩])) := by
            rw [HGS.out (some ⟨b, cs.length, cs⟩)]
            rfl
          rw [← hge] at hm4
          have HM4 := Lib.hid hm4
          have HB4 := Lib.hid ((HB2.out.grown HGR3.out HB2.out.size (fun g hg => by have := (HROW.out.lt g hg).1; omega)).grown hgrow4 (Nat.le_trans HB2.out.size HGR3.out.size) (fun g hg => by injection hg with hg; omega))
          clear hown4 hgrow4 hm4 hge
          go_wp2_with fail
          go_roundw
          case rel => exact ⟨k + 1, by omega, by go_num, HB4.out, HN6.out, gl ++ [(I, some ⟨b, cs.length, cs⟩)], _, _, by rw [List.length_append, HGL.out]; rfl, HM4.out⟩
          case measure => simp [intOf]; omega
      · have HS := Lib.hid (splitaddr_other g cg cs x wr (by omega) h6 hpr hms)
        obtain ⟨ti, vi, hc⟩ := (HU.out.below HB.out).held
        have HC := Lib.hid hc
        clear hms hpr HNX hc
        go_wp2_with fail
        refine HS.out.mono ?_
        rintro e w1 ⟨rfl, hb1⟩
        have HB1 := Lib.hid (HB.out.trans (hb1.mono HB.out.size))
        have hc1 : w1.cell? ⟨0, 0, none⟩ = some (.iface ti vi) := (hb1.cell (World.block_lt_of_cell? _ _ HC.out)).trans HC.out
        clear hb1 HS
        go_wp2_with fail
        go_quiet (fail)
        go_wp2_with fail
        go_ret2
        exact ⟨ti, vi, rfl, below_drewN HB1.out _⟩
    · obtain rfl : k = n := by omega
      obtain ⟨i, hi, cs, x, hcs, h6⟩ := HBAD.out
      obtain ⟨cs', x', hcs', h6'⟩ := HALL.out i hi (by rw [← HLN.out]; exact hi)
      rw [hcs] at hcs'
      have := (List.append_inj' hcs' rfl).2
      injection this with hx
      exact absurd (by rw [hx]; exact h6') h6
end Go.Proofs.YthpcfnegfdcbjaaGreatDoor

/- peer.AddrInfoFromP2pAddr, AddrInfoFromString: what an address tells of a peer. No condition beyond. -/
namespace Go.Proofs.YthpcfnegfdcbjaaGreatDoor
open Go.RowKit
variable {K : Nat}
attribute [local go_sem ↓] Go.wp_at_zero Go.wp_at_succ
theorem pai_info : (Tryz.prog.info? 63).map (fun i => (i.zero, i.size, i.bytes)) = some (some (.agg #[.string ⟨#[]⟩, .slice none 0 0]), 2, 40) := by kernel_rfl
/-- A peer told by an address: its ID, and its one address, if there is one. -/
def OutPI (cs : List (Hop × Nat)) (L : List UInt8) (w : World) (e : Ending) (w' : World) : Prop :=
  ∃ (q n c : Nat) (A : Option Addr) (ts : List Tr), e = .returned (.tuple #[.pointer (some ⟨q, 0, none⟩), .nilIface]) ∧ Blk w' q 63 #[.string ⟨L.toArray⟩, .slice A n c] ∧
    w'.ownsRow w.heap.size 51 1 (.slice A n c) n (trCells ts) ∧ (∀ t ∈ ts, TrOk w' t) ∧ ts.map (·.cs) = (if cs = [] then [] else [cs]) ∧ Below w.heap.size w w'
set_option maxRecDepth 100000 in
set_option maxHeartbeats 4000000 in
theorem infop2p_id (g c : Nat) (cs : List (Hop × Nat)) (x : Hop × Nat) (w : World) (hn1 : cs.length ≤ 1000) (hk : x.1.kd % 8 = 6) (hp : PR w (cs ++ [x])) (h : MS w g (cs.length + 1) c (cs ++ [x])) :
    Calls Tryz.prog 22 #[.slice (some ⟨g, 0, none⟩) (cs.length + 1) c] w (OutPI cs (idOf x.1.l) w) := by
  have q : ∀ (w : World) (a : Option Addr) (n c n' c' : Nat), (binOp .neq 51 (.slice a n c) (.slice none n' c')).run Tryz.prog w = .ok (.bool (!a.isNone)) w := fun w a n c n' c' => run_neq_slice_nil_any w _ _ a n c n' c' Tryz.underlying51
  have HS := Lib.hid (splitaddr_id g c cs x w hn1 hk hp h)
  have HP := Lib.hid hp
  have hne : (idOf x.1.l).isEmpty = false := by
    have := idOf_two x.1.l
    obtain ⟨I, hI⟩ : ∃ I, I = idOf x.1.l := ⟨_, rfl⟩
    rw [← hI] at this ⊢
    rcases I with _ | ⟨a, I⟩
    · simp at this
    · rfl
  obtain ⟨L, hL⟩ : ∃ L, L = idOf x.1.l := ⟨_, rfl⟩
  rw [← hL] at hne ⊢
  clear hp h hk
  go_enter Tryz.func22, Tryz.ntmps22
  go_wp2_with fail
  refine HS.out.mono ?_
  rintro e w1 ⟨T, rfl, hT, hb⟩
  rw [← hL]
  have HB := Lib.hid hb
  clear hb hL HS
  rcases hT with ⟨rfl, rfl⟩ | ⟨hpos, b, rfl, hms⟩
  · go_wp2_with fail
    go_ret2
    exact ⟨w1.heap.size, 0, 0, none, [], rfl, Blk.new _ _ _, World.ownsRow_nil _ _ _ _, fun t ht => by simp at ht, rfl, HB.out.alloc HB.out.size _⟩
  · have HMS := Lib.hid hms
    clear hms
    go_wp2_with fail
    go_ret2
    have hb2 := (Below.refl _ w1).alloc (Nat.le_refl _) (.cells #[.string ⟨L.toArray⟩, .slice (some ⟨w1.heap.size + 1, 0, none⟩) 1 1] 63)
    obtain ⟨w2, hw2⟩ : ∃ w2, w2 = w1.alloc (.cells #[.string ⟨L.toArray⟩, .slice (some ⟨w1.heap.size + 1, 0, none⟩) 1 1] 63) := ⟨_, rfl⟩
    have hk2 : Blk w2 w1.heap.size 63 #[.string ⟨L.toArray⟩, .slice (some ⟨w1.heap.size + 1, 0, none⟩) 1 1] := by rw [hw2]; exact Blk.new _ _ _
    rw [← hw2] at hb2 ⊢
    have hs2 : w2.heap.size = w1.heap.size + 1 := by rw [hw2]; simp
    have hsz := HB.out.size
    have hB2 := HB.out.trans (hb2.mono hsz)
    have ho := World.ownsRow_lit (base := w.heap.size) (e := 51) (size := 1) w2 #[Value.slice (some ⟨b, 0, none⟩) cs.length cs.length] 1 (by omega) (by simp [maxLen]) rfl
    rw [hs2] at ho
    have hb3 := (Below.refl _ w2).alloc (Nat.le_refl _) (.cells #[.slice (some ⟨b, 0, none⟩) cs.length cs.length] 51)
    refine ⟨w1.heap.size, 1, 1, some ⟨w1.heap.size + 1, 0, none⟩, [⟨b, cs.length, cs⟩], rfl, hk2.alloc _, ho, fun t ht => ?_, by rw [if_neg (fun e => by subst e; simp at hpos)]; rfl, hB2.alloc (by omega) _⟩
    rw [List.mem_singleton] at ht
    subst ht
    exact ⟨(HMS.out.below hb2).below hb3, (show PR w cs from fun y hy => HP.out y (List.mem_append_left _ hy)).below (hB2.alloc (by omega) _), hpos⟩
set_option maxRecDepth 100000 in
set_option maxHeartbeats 4000000 in
theorem infop2p_other (g c : Nat) (cs : List (Hop × Nat)) (x : Hop × Nat) (w : World) (hu : Inv w) (hn1 : cs.length ≤ 1000) (hk : x.1.kd % 8 ≠ 6) (hp : PR w (cs ++ [x])) (h : MS w g (cs.length + 1) c (cs ++ [x])) :
    Calls Tryz.prog 22 #[.slice (some ⟨g, 0, none⟩) (cs.length + 1) c] w fun e w' => ∃ t v, e = .returned (.tuple #[.pointer none, .iface t v]) ∧ Below w.heap.size w w' := by
  have HS := Lib.hid (splitaddr_other g c cs x w hn1 hk hp h)
  have HU := Lib.hid hu
  clear hp h hk hu
  go_enter Tryz.func22, Tryz.ntmps22
  go_wp2_with fail
  refine HS.out.mono ?_
  rintro e w1 ⟨rfl, hb⟩
  obtain ⟨t, v, hv⟩ := (HU.out.below hb).held
  have HB := Lib.hid hb
  clear hb
  go_wp2_with fail
  go_quiet (fail)
  go_wp2_with fail
  go_ret2
  exact ⟨t, v, rfl, below_drewN HB.out _⟩
/-- What an address tells of a peer, whatever stands last. -/
def OutP2 (hs : List Hop) (w : World) (e : Ending) (w' : World) : Prop :=
  (∃ r h, hs = r ++ [h] ∧ h.kd % 8 = 6 ∧ ∃ (q n c : Nat) (A : Option Addr) (ts : List Tr), e = .returned (.tuple #[.pointer (some ⟨q, 0, none⟩), .nilIface]) ∧ Blk w' q 63 #[.string ⟨(idOf h.l).toArray⟩, .slice A n c] ∧
    w'.ownsRow w.heap.size 51 1 (.slice A n c) n (trCells ts) ∧ (∀ t ∈ ts, TrOk w' t ∧ t.cs.length ≤ 101) ∧ n ≤ 1 ∧ ts.map (fun t => compBytes t.cs) = (if r = [] then [] else [addrBytes r]) ∧ Below w.heap.size w w') ∨
  (∃ r h, hs = r ++ [h] ∧ h.kd % 8 ≠ 6 ∧ ∃ t v, e = .returned (.tuple #[.pointer none, .iface t v]) ∧ Below w.heap.size w w')
theorem infop2p_x (g c : Nat) (cs : List (Hop × Nat)) (w : World) (hu : Inv w) (hn : 0 < cs.length) (hn1 : cs.length ≤ 100) (hp : PR w cs) (h : MS w g cs.length c cs) :
    Calls Tryz.prog 22 #[.slice (some ⟨g, 0, none⟩) cs.length c] w (OutP2 (cs.map (·.1)) w) := by
  obtain ⟨cs, x, rfl⟩ : ∃ cs' x, cs = cs' ++ [x] := ⟨cs.dropLast, cs.getLast (fun e => by subst e; simp at hn), (List.dropLast_concat_getLast _).symm⟩
  have hl : (cs ++ [x]).length = cs.length + 1 := by simp
  rw [hl] at h hn1 ⊢
  have hm : (cs ++ [x]).map (·.1) = cs.map (·.1) ++ [x.1] := by simp
  by_cases hk : x.1.kd % 8 = 6
  · refine (infop2p_id g c cs x w (by omega) hk hp h).mono ?_
    rintro e w' ⟨q, n, c2, A, ts, rfl, hb, ho, ht, hts, hbe⟩
    have hln : ts.length = n := by have := (Reads.of_own ho).1; rw [trCells_length] at this; omega
    have hn1 : n ≤ 1 ∧ (∀ t ∈ ts, t.cs.length ≤ 101) ∧ ts.map (fun t => compBytes t.cs) = (if cs.map (·.1) = [] then [] else [addrBytes (cs.map (·.1))]) := by
      by_cases e : cs = []
      · rw [if_pos e] at hts
        have : ts = [] := by simpa using hts
        subst this
        exact ⟨by simp at hln; omega, fun t ht => by simp at ht, by subst e; rfl⟩
      · rw [if_neg e] at hts
        obtain ⟨t, rfl, htc⟩ : ∃ t, ts = [t] ∧ t.cs = cs := by
          rcases ts with _ | ⟨t, _ | ⟨t2, ts⟩⟩
          · simp at hts
          · exact ⟨t, rfl, by simpa using hts⟩
          · simp at hts
        refine ⟨by simp at hln; omega, fun t' ht' => ?_, ?_⟩
        · rw [List.mem_singleton] at ht'
          subst ht'
          rw [htc]; omega
        · rw [if_neg (by simpa using e), List.map_singleton, htc]
          rfl
    exact .inl ⟨_, _, hm, hk, q, n, c2, A, ts, rfl, hb, ho, fun t h => ⟨ht t h, hn1.2.1 t h⟩, hn1.1, hn1.2.2, hbe⟩
  · refine (infop2p_other g c cs x w hu (by omega) hk hp h).mono ?_
    rintro e w' ⟨t, v, rfl, hb⟩
    exact .inr ⟨_, _, hm, hk, t, v, rfl, hb⟩
theorem OutP2.from {hs : List Hop} {w w1 w' : World} {e : Ending} (h : OutP2 hs w1 e w') (hb : Below w.heap.size w w1) : OutP2 hs w e w' := by
  rcases h with ⟨r, x, h1, h2, q, n, c, A, ts, h3, h4, h5, h6, h7, h8, h9⟩ | ⟨r, x, h1, h2, t, v, h3, h9⟩
  · exact .inl ⟨r, x, h1, h2, q, n, c, A, ts, h3, h4, own_base h5 hb.size, h6, h7, h8, hb.trans (h9.mono hb.size)⟩
  · exact .inr ⟨r, x, h1, h2, t, v, h3, hb.trans (h9.mono hb.size)⟩
theorem OutP2.shape {hs : List Hop} {w w' : World} {e : Ending} (h : OutP2 hs w e w') : (∃ q, e = .returned (.tuple #[.pointer (some ⟨q, 0, none⟩), .nilIface])) ∨ ∃ t v, e = .returned (.tuple #[.pointer none, .iface t v]) := by
  rcases h with ⟨_, _, _, _, q, _, _, _, _, h, _⟩ | ⟨_, _, _, _, t, v, h, _⟩
  · exact .inl ⟨q, h⟩
  · exact .inr ⟨t, v, h⟩
set_option maxRecDepth 100000 in
set_option maxHeartbeats 2000000 in
theorem infostr_x (s : ByteArray) (hs : List Hop) (w : World) (ht : Tab K w) (hu : Inv w) (hok : ∀ x ∈ hs, HopOk K x.kd x.l) (hstb : ∀ w, Calls Tryz.prog 57 #[.string s] w (OutBN (addrBytes hs) w)) (hn : hs.length ≤ 100) (hne : hs ≠ []) :
    Calls Tryz.prog 24 #[.string s] w (OutP2 hs w) := by
  have q0 : ∀ w : World, (binOp .neq 56 .nilIface .nilIface).run Tryz.prog w = .ok (.bool false) w := fun _ => by kernel_rfl
  have HM := Lib.hid (newmas_x s hs w ht hok hstb hn hne)
  have HU := Lib.hid hu
  have hs0 : 0 < hs.length := by rcases hs with _ | ⟨x, hs⟩; exact absurd rfl hne; simp
  clear ht hu hok hstb hne
  go_enter Tryz.func24, Tryz.ntmps24
  go_wp2_with fail
  refine HM.out.mono ?_
  rintro e w1 ⟨v, cs, rfl, hcs, hpr, hown, hb⟩
  have hcl : cs.length = hs.length := by rw [← hcs, List.length_map]
  obtain ⟨g, c, rfl, hms⟩ := MS.of_own hown (by omega)
  have HI := Lib.hid (infop2p_x g c cs w1 (HU.out.below hb) (by omega) (by omega) hpr hms)
  rw [hcs, hcl] at HI
  have HB := Lib.hid hb
  clear hcs hpr hown hb hms
  go_wp2_with fail
  refine HI.out.mono ?_
  rintro e w2 h2
  have HP2 := Lib.hid (h2.from HB.out)
  have he := h2.shape
  clear HI h2
  rcases he with ⟨q, rfl⟩ | ⟨t, v, rfl⟩
  · go_wp2_with fail
    go_ret2
    exact HP2.out
  · go_wp2_with fail
    go_ret2
    exact HP2.out
end Go.Proofs.YthpcfnegfdcbjaaGreatDoor

/- peer.AddrInfosFromP2pAddrs where every address has an ID: each ID once, with its addresses in their order. -/
namespace Go.Proofs.YthpcfnegfdcbjaaGreatDoor
open Go.RowKit
attribute [local go_sem ↓] Go.wp_at_zero Go.wp_at_succ
theorem pinf_info : (Tryz.prog.info? 63).map (fun i => (i.zero, i.size, i.bytes)) = some (some (.agg #[.string ⟨#[]⟩, .slice none 0 0]), 2, 40) := by kernel_rfl
/-- What an address tells: its ID, and what stands ahead of it. -/
def told (t : Tr) : List UInt8 × Option (List Hop) := (((t.cs.getLast?).map fun x => idOf x.1.l).getD [], if t.cs.dropLast = [] then none else some (t.cs.dropLast.map (·.1)))
theorem told_snoc (g c : Nat) (cs : List (Hop × Nat)) (x : Hop × Nat) : told ⟨g, c, cs ++ [x]⟩ = (idOf x.1.l, if cs = [] then none else some (cs.map (·.1))) := by simp [told]
def said (p : List UInt8 × Option Tr) : List UInt8 × Option (List Hop) := (p.1, p.2.map fun t => t.cs.map (·.1))
theorem key_inv {key : Value} {kl : Lit} (h : keyOf Tryz.prog 60 key = some kl) : ∃ L : List UInt8, key = .string ⟨L.toArray⟩ ∧ kl = .string L ∧ L.length ≤ maxLen := by
  have hu := Tryz.underlying60
  have hs : ∃ s, key = .string s := by
    cases key <;> first | exact ⟨_, rfl⟩ | (simp [keyOf, hu, mapKey] at h)
  obtain ⟨s, rfl⟩ := hs
  by_cases hm : s.size ≤ maxLen
  · rw [WideMaps.keyOf_string_mk hu hm] at h
    injection h with h
    refine ⟨s.data.toList, ?_, h.symm, ?_⟩
    · simp
    · rw [Array.length_toList]; exact hm
  · exfalso
    simp [keyOf, hu, mapKey] at h
    first | exact hm h.1 | exact hm (by omega)
theorem own_iter_ne {w : World} {base : Nat} {e : TypeId} {size m : Nat} {v : Value} {xs : List Value} (ho : w.ownsRow base e size v m xs) {P : Program} {k : TypeId} {R : Value → Option (DataW Value × List MemPlace)} {b r n : Nat} {D : DataW Value} {left : Lit → Bool} {cnt : Nat} (h : w.ranges P k R b r n D left cnt) : some b ≠ v.ownBlock ∧ some r ≠ v.ownBlock := by
  obtain ⟨es, clock, since, seen, c0, hb, _, _, _, hr, _⟩ := h
  rcases ho.2 with ⟨rfl, _⟩ | ⟨g, cap, cur, rfl, _, hg, _⟩
  · exact ⟨by simp [Value.ownBlock], by simp [Value.ownBlock]⟩
  · refine ⟨fun e => ?_, fun e => ?_⟩
    · injection e with e; subst e; rw [hb] at hg; cases hg
    · injection e with e; subst e; rw [hr] at hg; cases hg
/-- The IDs and the addresses that a map holds, in some order. -/
def peerRow (val : List UInt8 → Value) (ks : List (List UInt8)) : List Value := ks.flatMap fun k => [.string ⟨k.toArray⟩, val k]
theorem peerRow_snoc (val : List UInt8 → Value) (ks : List (List UInt8)) (k : List UInt8) : peerRow val (ks ++ [k]) = peerRow val ks ++ [.string ⟨k.toArray⟩, val k] := by simp [peerRow]
theorem same_str (a b : List UInt8) : (Lit.string a).sameKey (.string b) = (a == b) := by
  simp [Lit.sameKey]
set_option maxRecDepth 100000 in
set_option maxHeartbeats 4000000 in
theorem infos_good (A : Option Addr) (n c base : Nat) (ts : List Tr) (w : World) (ho : w.ownsRow base 51 1 (.slice A n c) n (trCells ts)) (hts : ∀ t ∈ ts, TrOk w t) (hl : ∀ t ∈ ts, t.cs.length ≤ 101) (hn : n ≤ 1000)
    (hgood : ∀ i (hi : i < ts.length), ∃ cs x, (ts[i]).cs = cs ++ [x] ∧ x.1.kd % 8 = 6) : Calls Tryz.prog 31 #[.slice A n c] w fun e w' =>
    ∃ v ks gl D val, e = .returned (.tuple #[v, .nilIface]) ∧ w'.ownsRow w.heap.size 63 2 v ks.length (peerRow val ks) ∧ ks.Nodup ∧ (∀ k, k ∈ ks ↔ (grp gl k).isSome = true) ∧ gl.map said = ts.map told ∧
      GM w' (w.heap.size + 1) w.heap.size n (grp gl) D val ∧ Below w.heap.size w w' := by
  obtain ⟨i0, hi0, hz0, hz1, hz2⟩ := info_parts mad_info
  have q : ∀ (w : World) (a : Option Addr) (n c n' c' : Nat), (binOp .eql 51 (.slice a n c) (.slice none n' c')).run Tryz.prog w = .ok (.bool a.isNone) w := fun w a n c n' c' => Lib.run_eql_slice_nil w _ _ a n c n' c' Tryz.underlying51
  have hln : ts.length = n := by have := (Reads.of_own ho).1; rw [trCells_length] at this; omega
  have hmm := @run_makeMap Tryz.prog
  have HO := Lib.hid ho
  have HTS := Lib.hid hts
  have HL := Lib.hid hl
  have HLN := Lib.hid hln
  have HGOOD := Lib.hid hgood
  have hb0 := (Below.refl _ w).alloc (Nat.le_refl _) (.map #[] 0)
  have HGM := Lib.hid (GM.made w)
  have HB0 := Lib.hid hb0
  clear ho hts hl hln hgood hb0
  go_enter Tryz.func31, Tryz.ntmps31
  go_wp2_with fail
  go_loopw [17] (fun i wr => ∃ k : Nat, k ≤ n ∧ i = .int .i64 k ∧ Below w.heap.size w wr ∧ 
    ∃ gl D val, gl.map said = (ts.take k).map told ∧ gl.length = k ∧ GM wr (w.heap.size + 1) w.heap.size k (grp gl) D val) (fun i _ => n - (intOf i).toNat)
  case atStart => exact ⟨0, by omega, rfl, HB0.out, [], _, _, rfl, rfl, HGM.out⟩
  case round =>
    obtain ⟨k, hk, rfl, hb, gl, D, val, hsay, hgl, hgm⟩ := hrel
    have HSAY := Lib.hid hsay
    have HGL := Lib.hid hgl
    have HB := Lib.hid hb
    have HM := Lib.hid hgm
    clear hb hgm hgl hsay
    by_cases hlt : k < n
    · have hlt' : k < ts.length := by rw [HLN.out]; exact hlt
      obtain ⟨ad, eA, _, hcell⟩ := (Reads.of_own HO.out).2 (by omega)
      obtain rfl := eA
      have hck := hcell k (ts[k]).v (by simp [trCells, hlt'])
      have hto := (HTS.out _ (List.getElem_mem hlt')).below HB.out
      have hcl := HL.out _ (List.getElem_mem hlt')
      obtain ⟨cs, x, hcs⟩ : ∃ cs x, (ts[k]).cs = cs ++ [x] := by
        have hne : (ts[k]).cs ≠ [] := fun e => by have hpos := hto.pos; rw [e] at hpos; simp at hpos
        exact ⟨_, _, (List.dropLast_concat_getLast hne).symm⟩
      have h6 : x.1.kd % 8 = 6 := by
        obtain ⟨cs', x', e', h6'⟩ := HGOOD.out k hlt'
        rw [hcs] at e'
        have := (List.append_inj' e' rfl).2
        injection this with hx
        rw [hx]; exact h6'
      have htk : (ts.take (k + 1)).map told = (ts.take k).map told ++ [told ts[k]] := by rw [List.take_succ_eq_append_getElem hlt', List.map_append]; rfl
      generalize ts[k] = t at *
      obtain ⟨g, cg, tcs⟩ := t
      obtain rfl : tcs = cs ++ [x] := hcs
      rw [told_snoc] at htk
      have hcl' : cs.length ≤ 100 := by have : (cs ++ [x]).length ≤ 101 := hcl; simp at this; omega
      have c5 : wr.cell? (ad.add k) = some (.slice (some ⟨g, 0, none⟩) (cs.length + 1) cg) := ((HB.out.cell (World.block_lt_of_cell? _ _ hck)).trans hck).trans (by simp [Tr.v])
      have hms : MS wr g (cs.length + 1) cg (cs ++ [x]) := by have := hto.ms; simpa using this
      have hpr : PR wr (cs ++ [x]) := hto.pr
      clear hck hcell hto hcl
      have HS := Lib.hid (splitaddr_id g cg cs x wr (by omega) h6 hpr hms)
      have HPR := Lib.hid (show PR wr cs from fun y hy => hpr y (by simp [hy]))
      have hI2 := idOf_two x.1.l
      have hIl := idOf_le x.1.l
      obtain ⟨I, hI⟩ : ∃ I, I = idOf x.1.l := ⟨_, rfl⟩
      rw [← hI] at hI2 hIl htk
      have HTK := Lib.hid htk
      clear htk
      have hIm : I.length ≤ maxLen := by unfold maxLen; omega
      have hemp : I.isEmpty = false := by rcases I with _ | ⟨_, _⟩; · simp at hI2
                                          · rfl
      have HIq := Lib.hid hI
      clear hms hpr hI
      go_wp2_with fail
      refine HS.out.mono ?_
      rintro e w1 ⟨T, rfl, hT, hb1⟩
      rw [← HIq.out]
      have HB1 := Lib.hid (HB.out.trans (hb1.mono HB.out.size))
      have HM1 := Lib.hid (HM.out.below hb1)
      have HP1 := Lib.hid (HPR.out.below hb1)
      clear hb1 HS
      have hgs := fun o => grp_snoc gl I o
      have HGS := Lib.hid hgs
      clear hgs
      rcases hT with ⟨h0, rfl⟩ | ⟨h0, b, rfl, hmb⟩
      · have H0 := Lib.hid h0
        clear h0
        have hlk := HM1.out.look_ok I hIm
        rcases hg : grp gl I with _ | y
        · rw [hg] at hlk
          have HG := Lib.hid hg
          clear hg
          go_wp2_with (at_mapUpdate; go_loud (refine wpList_mapUpdate_own _ rfl _ _ _ 104 rfl 60 61 key_law Tryz.underlying104 rawR _ k D rfl HM1.out.own (by unfold maxLen; omega) _ _ (.string I) rfl rfl (key_of I hIm) _ [] (rawR_slice none 0 0) ?_))
          intro w2 hown2 hgrow2
          have hm2 := HM1.out.putNil I hIm HG.out hown2 hgrow2
          have hge : grp (gl ++ [(I, none)]) = upd (grp gl) I (some ((grp gl I).getD [])) := by
            rw [HGS.out none]
            simp
          rw [← hge] at hm2
          have HM3 := Lib.hid hm2
          have HB3 := Lib.hid (HB1.out.grown hgrow2 HB1.out.size (fun g hg => by injection hg with hg; omega))
          clear hown2 hgrow2 hm2 hge
          go_wp2_with fail
          go_roundw
          case rel => exact ⟨k + 1, by omega, by go_num, HB3.out, gl ++ [(I, none)], _, _, by rw [List.map_append, HTK.out, HSAY.out, if_pos H0.out]; rfl, by rw [List.length_append, HGL.out]; rfl, HM3.out⟩
          case measure => simp [intOf]; omega
        · rw [hg] at hlk
          have HG := Lib.hid hg
          clear hg
          have HM3 := Lib.hid (show GM w1 (w.heap.size + 1) w.heap.size (k + 1) (grp (gl ++ [(I, none)])) D val by
            have e : grp (gl ++ [(I, none)]) = grp gl := by
              rw [HGS.out none]
              have h1 := upd_id (grp gl) I
              rw [HG.out] at h1
              rw [HG.out]
              simpa using h1
            rw [e]
            exact HM1.out.more (by omega))
          go_wp2_with fail
          go_roundw
          case rel => exact ⟨k + 1, by omega, by go_num, HB1.out, gl ++ [(I, none)], _, _, by rw [List.map_append, HTK.out, HSAY.out, if_pos H0.out]; rfl, by rw [List.length_append, HGL.out]; rfl, HM3.out⟩
          case measure => simp [intOf]; omega
      · have hlk := HM1.out.look I hIm
        obtain ⟨Av, cv, hval⟩ := HM1.out.slice I
        rw [hval] at hlk
        have hba := (Below.refl _ w1).alloc (Nat.le_refl _) (.cells #[.slice (some ⟨b, 0, none⟩) cs.length cs.length] 51)
        have HM2 := Lib.hid (HM1.out.below hba)
        have HROW := Lib.hid (HM2.out.row I)
        rw [hval] at HROW
        have HRN := Lib.hid (reads_new w1 #[.slice (some ⟨b, 0, none⟩) cs.length cs.length] 51 1 1 rfl)
        have HB2 := Lib.hid (HB1.out.trans (hba.mono HB1.out.size))
        have HT2 := Lib.hid ((⟨hmb, HP1.out, h0⟩ : TrOk w1 ⟨b, cs.length, cs⟩).below hba)
        have HVAL := Lib.hid hval
        have H0 := Lib.hid (show cs ≠ [] from fun e => by rw [e] at h0; simp at h0)
        clear hval hba hmb h0
        go_wp2_with (at_builtin; go_loud (refine wpList_append_any _ rfl _ _ _ rfl (w.heap.size + 1) 51 i0 _ 1 24 Tryz.underlying61 hi0 hz0 hz1 hz2 rfl (by decide) _ _ _ rfl HROW.out _ _ 1 1 _ rfl HRN.out ?c0 ?c1 ?c2 ?c3 ?_))
        case c0 => intro u hu; simp at hu; subst hu; rfl
        case c1 => have := grp_len gl I; have := HGL.out; unfold maxLen; omega
        case c2 => have := grp_len gl I; have := HGL.out; omega
        case c3 => have := HB2.out.size; have := HM2.out.lt; omega
        intro v3 w3 hown3 hgrow3 hat3
        obtain ⟨A3, c3, rfl⟩ := own_slice hown3
        have hnb : some w.heap.size ≠ (Value.slice Av ((grp gl I).getD []).length cv).ownBlock := fun e => by
          have := (HROW.out.lt _ e.symm).1
          omega
        have HOM := Lib.hid (HM2.out.own.kept hgrow3 hnb)
        have HOW3 := Lib.hid hown3
        have HGR3 := Lib.hid hgrow3
        have HAT3 := Lib.hid hat3
        have hoff := HT2.out.off_row (HVAL.out ▸ HM2.out.row I) (fun e => by have := HM2.out.nil_ I e; rw [HVAL.out] at this; rw [this]; rfl)
        have HT3 := Lib.hid (HT2.out.kept hgrow3 hoff.1 hoff.2)
        clear hown3 hgrow3 hat3 hoff hnb
        go_wp2_with (at_mapUpdate; go_loud (refine wpList_mapUpdate_own _ rfl _ _ _ 104 rfl 60 61 key_law Tryz.underlying104 rawR _ k D rfl HOM.out (by unfold maxLen; omega) _ _ (.string I) rfl rfl (key_of I hIm) _ [] (rawR_slice _ _ _) ?_))
        intro w4 hown4 hgrow4
        have hm4 := HM2.out.put I hIm ⟨b, cs.length, cs⟩ (by rw [HVAL.out]; exact HGR3.out) HOW3.out (by rw [HVAL.out]; exact HAT3.out.imp id (fun h => ⟨_, h, by rw [World.size_alloc]; exact Nat.le_refl _⟩)) HT3.out hown4 hgrow4
        have hge : grp (gl ++ [(I, some ⟨b, cs.length, cs⟩)]) = upd (grp gl) I (some ((grp gl I).getD [] ++ [⟨b, cs.length, cs⟩])) := by
          rw [HGS.out (some ⟨b, cs.length, cs⟩)]
          rfl
        rw [← hge] at hm4
        have HM4 := Lib.hid hm4
        have HB4 := Lib.hid ((HB2.out.grown HGR3.out HB2.out.size (fun g hg => by have := (HROW.out.lt g hg).1; omega)).grown hgrow4 (Nat.le_trans HB2.out.size HGR3.out.size) (fun g hg => by injection hg with hg; omega))
        clear hown4 hgrow4 hm4 hge
        go_wp2_with fail
        go_roundw
        case rel => exact ⟨k + 1, by omega, by go_num, HB4.out, gl ++ [(I, some ⟨b, cs.length, cs⟩)], _, _, by rw [List.map_append, HTK.out, HSAY.out, if_neg H0.out]; rfl, by rw [List.length_append, HGL.out]; rfl, HM4.out⟩
        case measure => simp [intOf]; omega
    · obtain rfl : k = n := by omega
      obtain ⟨v1, rfl⟩ : ∃ v1, v1 = wr := ⟨wr, rfl⟩
      have hsay := HSAY.out
      rw [List.take_of_length_le (by rw [HLN.out]; exact Nat.le_refl _)] at hsay
      have HSAY2 := Lib.hid hsay
      obtain ⟨p0, hp0, pz0, pz1, pz2⟩ := info_parts pinf_info
      have hSn : Maps.size D ≤ k := HM.out.own.size_le
      have hlm := fun ty => HM.out.own.len Tryz.underlying104 ty
      generalize hS : Maps.size D = S at hSn hlm
      have HSq := Lib.hid hS
      have hmk := fun W : World => run_make_rowN (P := Tryz.prog) 74 63 p0 _ Tryz.underlying74 hp0 pz0 .i64 .i64 0 S (Nat.zero_le _) (by rw [pz2]; omega) (by omega) W
      rw [pz1, show ((0 : Nat) : Int) = 0 from rfl] at hmk
      clear hsay hS
      go_wp2_with (at_range; go_loud (refine wpList_range_own _ rfl _ 104 rfl 60 61 key_law Tryz.underlying104 rawR w.heap.size k D rfl (HM.out.own.alloc _) ?_))
      intro w0 hrg0 hg0 hs0
      have hba := (Below.refl _ v1).alloc (Nat.le_refl _) (.cells (madeCells #[.string ⟨#[]⟩, .slice none 0 0] (S * 2)) 63)
      have hb0 : Below v1.heap.size v1 w0 := hba.grown hg0 hba.size (fun g hg => by cases hg)
      have ho0 : w0.ownsRow v1.heap.size 63 2 (.slice (some ⟨v1.heap.size, 0, none⟩) 0 S) 0 [] :=
        (World.ownsRow_made v1 (madeCells #[.string ⟨#[]⟩, .slice none 0 0] (S * 2)) S (Nat.le_refl _) (by unfold maxLen; omega) (by simp [size_madeCells])).kept hg0 (.inr (by simp [Value.ownBlock]))
      have HRG0 := Lib.hid hrg0
      have HB0' := Lib.hid hb0
      have HO0 := Lib.hid ho0
      clear hrg0 hg0 hs0 hba hb0 ho0 hmk hlm
      go_wp2_with fail
      go_loopw [11] (fun v w2 => ∃ (left : Lit → Bool) (cnt : Nat) (ks : List (List UInt8)), w2.ranges Tryz.prog 60 rawR w.heap.size (v1.heap.size + 1) k D left cnt ∧ w2.ownsRow v1.heap.size 63 2 v ks.length (peerRow val ks) ∧ ks.Nodup ∧
        (∀ x, x ∈ ks ↔ Maps.has D (.string x) = true ∧ left (.string x) = false) ∧ (∀ x, left (.string x) = true → Maps.has D (.string x) = true) ∧ ks.length + cnt ≤ S ∧ Below v1.heap.size v1 w2) (fun _ w2 => w2.rangeLeft w.heap.size (v1.heap.size + 1))
      case atStart => exact ⟨_, _, [], HRG0.out, HO0.out, List.nodup_nil, fun x => by simp, fun x h => h, by rw [HSq.out]; simp, HB0'.out⟩
      case round =>
        obtain ⟨left, cnt, ks, hrg, hown, hnd, hin, hlh, hlen, hb2⟩ := hrel
        have HRG := Lib.hid hrg
        have HOW := Lib.hid hown
        have HND := Lib.hid hnd
        have HIN := Lib.hid hin
        have HLH := Lib.hid hlh
        have HLE := Lib.hid hlen
        have HB2 := Lib.hid hb2
        clear hrg hown hnd hin hlh hlen hb2
        go_wp2_with (at_next; go_loud (refine wpList_next_ranges _ rfl _ rfl 60 key_law rawR (fun L : List UInt8 => Value.string ⟨L.toArray⟩) (fun p : Option Addr × Nat × Nat => Value.slice p.1 p.2.1 p.2.2) (fun key kl hk => by obtain ⟨L, e, _⟩ := key_inv hk; exact ⟨L, e⟩) (fun v y hv => by obtain ⟨⟨a, n, c, e⟩, _⟩ := rawR_inv hv; exact ⟨(a, n, c), e⟩) w.heap.size (v1.heap.size + 1) k D left cnt rfl HRG.out ?_ ?_))
        · intro hc0 hl0
          have HFIN := Lib.hid (show ∀ x, x ∈ ks ↔ (grp gl x).isSome = true from fun x => (HIN.out x).trans (by rw [HM.out.has x, hl0]; simp))
          clear hc0 hl0
          go_wp2_with fail
          go_ret2
          exact ⟨_, ks, gl, D, val, rfl, HOW.out.mono HB.out.size, HND.out, HFIN.out, HSAY2.out, HM.out.below HB2.out, HB.out.trans (HB2.out.mono HB.out.size)⟩
        · intro x pa pn pc kl y1 y2 w3 cnt1 hkey hlk hRv hat hrg1 hlt1 hg1 hs1 hen
          obtain ⟨L, eL, rfl, hLm⟩ := key_inv hkey
          obtain rfl : x = L := by simpa using eL
          have hval : val x = .slice pa pn pc := by
            have h1 := hat (.held (.slice none 0 0))
            have h2 := (rawR_inv hRv).2
            simp only [Prod.mk.injEq] at h2
            rw [HM.out.at_ x, h2.1] at h1
            injection h1
          have hne := own_iter_ne HOW.out HRG.out
          have ho3 := HOW.out.kept hg1 (.inr (Ne.symm hne.2))
          have hb3 := HB2.out.grown hg1 HB2.out.size (fun g hg => by injection hg with hg; omega)
          have hba := (Below.refl _ w3).alloc (Nat.le_refl _) (.cells #[.string ⟨x.toArray⟩, .slice pa pn pc] 63)
          have HOO := Lib.hid (own_below ho3 hba)
          have HRG1 := Lib.hid (hrg1.alloc (.cells #[.string ⟨x.toArray⟩, .slice pa pn pc] 63))
          have HRN := Lib.hid (reads_new w3 #[.string ⟨x.toArray⟩, .slice pa pn pc] 63 2 1 rfl)
          have HB4 := Lib.hid (hb3.trans (hba.mono hb3.size))
          have HIN4 := Lib.hid (show ∀ z, z ∈ ks ++ [x] ↔ Maps.has D (.string z) = true ∧ (left (.string z) && !(Lit.string z).sameKey (.string x)) = false from fun z => by
            rw [List.mem_append, List.mem_singleton, HIN.out z, same_str]
            by_cases e : z = x
            · subst e
              simp [HLH.out z hlk]
            · simp [e])
          have HLH4 := Lib.hid (show ∀ z, (left (.string z) && !(Lit.string z).sameKey (.string x)) = true → Maps.has D (.string z) = true from fun z h => HLH.out z (by simp at h; exact h.1))
          have HND4 := Lib.hid (show (ks ++ [x]).Nodup from List.nodup_append.2 ⟨HND.out, by simp, fun a ha b hb => by
            rw [List.mem_singleton] at hb
            subst hb
            rintro rfl
            have := ((HIN.out a).1 ha).2
            rw [hlk] at this
            cases this⟩)
          have HLE4 := Lib.hid (show (ks ++ [x]).length + cnt1 ≤ S by have := HLE.out; rw [List.length_append, List.length_singleton]; omega)
          have HEN := Lib.hid hrg1
          have HVAL := Lib.hid hval
          have HLT1 := Lib.hid hlt1
          have hkb : ks.length ≤ 1000 := by have := HLE.out; omega
          have hsz : v1.heap.size ≤ (w3.alloc (.cells #[.string ⟨x.toArray⟩, .slice pa pn pc] 63)).heap.size := HB4.out.size
          have HSZ := Lib.hid hsz
          clear hkey hlk hRv hat hrg1 hlt1 hg1 hs1 eL hLm hval hne ho3 hb3 hba hsz
          go_wp2_with (at_builtin; go_loud (refine wpList_append_any _ rfl _ _ _ rfl v1.heap.size 63 p0 _ 2 40 Tryz.underlying74 hp0 pz0 pz1 pz2 rfl (by decide) _ _ _ rfl HOO.out _ _ 1 1 _ rfl HRN.out ?c0 ?c1 ?c2 ?c3 ?_))
          case c0 => exact ⟨rfl, rfl⟩
          case c1 => unfold maxLen; omega
          case c2 => omega
          case c3 => have h := HSZ.out; rw [World.size_alloc] at h; exact h
          intro v4 w4 hown4 hgrow4 _hat
          have hne4 := own_iter_ne HOO.out HRG1.out
          have HRG4 := Lib.hid (HRG1.out.kept hgrow4 hne4.1 hne4.2)
          have hof : w4.ownsRow v1.heap.size 63 2 v4 (ks ++ [x]).length (peerRow val (ks ++ [x])) := by
            rw [peerRow_snoc, List.length_append, HVAL.out]
            exact hown4
          have HOF := Lib.hid hof
          have HB5 := Lib.hid (HB4.out.grown hgrow4 HB4.out.size (fun g hg => (HOO.out.lt g hg).1))
          clear hown4 hgrow4 _hat hne4 hof
          go_wp2_with fail
          go_roundw
          case rel => exact ⟨_, cnt1, ks ++ [x], HRG4.out, HOF.out, HND4.out, HIN4.out, HLH4.out, HLE4.out, HB5.out⟩
          case measure => rw [HRG4.out.left_eq, HRG.out.left_eq]; exact HLT1.out
end Go.Proofs.YthpcfnegfdcbjaaGreatDoor
