/- impl.AddrInfos where every address has an ID at its end: the peers, each once, by their IDs. No condition beyond. -/
import Derived.Test.YtkmieonfhcmimaaGreatDoorHb
namespace Go.Proofs.YtkmieonfhcmimaaGreatDoor
open Go Go.RowKit Go.Sort
variable {K : Nat}
attribute [local go_sem ↓] Go.wp_at_zero Go.wp_at_succ
theorem ts_good (ts : List Tr) (hss : List (List Hop)) (h : ts.map (fun t => t.cs.map (·.1)) = hss) (hg : ∀ hs ∈ hss, ∃ r x, hs = r ++ [x] ∧ x.kd % 8 = 6) :
    ∀ i (hi : i < ts.length), ∃ cs x, (ts[i]).cs = cs ++ [x] ∧ x.1.kd % 8 = 6 := fun i hi => by
  obtain ⟨r, x, e, h6⟩ := hg ((ts[i]).cs.map (·.1)) (by rw [← h]; exact List.mem_map.2 ⟨_, List.getElem_mem hi, rfl⟩)
  have hne : (ts[i]).cs ≠ [] := fun e0 => by rw [e0] at e; simp at e
  obtain ⟨cs, y, hcs⟩ : ∃ cs y, (ts[i]).cs = cs ++ [y] := ⟨_, _, (List.dropLast_concat_getLast hne).symm⟩
  rw [hcs, List.map_append] at e
  have := (List.append_inj' e rfl).2
  injection this with hx
  have hx : y.1 = x := hx
  exact ⟨cs, y, hcs, by rw [hx]; exact h6⟩
theorem told_all (ts : List Tr) (hss : List (List Hop)) (h : ts.map (fun t => t.cs.map (·.1)) = hss) : ts.map told = hss.map toldH := by
  rw [← h, List.map_map]
  exact List.map_congr_left fun t _ => told_h t
theorem nodup_len : ∀ (l m : List (List UInt8)), l.Nodup → (∀ x ∈ l, x ∈ m) → l.length ≤ m.length
  | [], _, _, _ => Nat.zero_le _
  | x :: l, m, hn, hs => by
    obtain ⟨hx, hn'⟩ := List.nodup_cons.1 hn
    have hm := hs x (by simp)
    have := nodup_len l (m.erase x) hn' (fun y hy => (List.mem_erase_of_ne (fun e => hx (by rw [← e]; exact hy))).2 (hs y (by simp [hy])))
    rw [List.length_erase_of_mem hm] at this
    have hp := List.length_pos_of_mem hm
    simp only [List.length_cons]
    omega
theorem peerRow_get (val : List UInt8 → Value) (ks : List (List UInt8)) : ∀ i (hi : i < ks.length), (peerRow val ks)[i * 2]? = some (.string ⟨(ks[i]).toArray⟩) ∧ (peerRow val ks)[i * 2 + 1]? = some (val ks[i]) := by
  induction ks with
  | nil => intro i hi; simp at hi
  | cons q ks ih =>
    intro i hi
    rcases i with _ | i
    · simp [peerRow]
    · have := ih i (by simpa using hi)
      rw [show peerRow val (q :: ks) = .string ⟨q.toArray⟩ :: val q :: peerRow val ks from rfl, show (i + 1) * 2 = i * 2 + 1 + 1 by omega]
      simpa using this
theorem AOk.group {hss : List (List Hop)} (hok : ∀ hs ∈ hss, AOk K hs) {k : List UInt8} : ∀ r ∈ groupH hss k, AOk K r := fun r hr => by
  obtain ⟨hne, hs, hh, e⟩ := groupH_mem hr
  have h := hok hs hh
  refine ⟨hne, ?_, fun x hx => h.ok x ?_⟩
  · rw [e, List.length_dropLast]; have := h.le; omega
  · rw [e] at hx; exact List.dropLast_subset hs hx
theorem id_le {hss : List (List Hop)} {k : List UInt8} (h : k ∈ hss.map fun hs => (toldH hs).1) : k.length ≤ 44 := by
  obtain ⟨hs, _, rfl⟩ := List.mem_map.1 h
  unfold toldH
  rcases hs.getLast? with _ | x
  · simp
  · simpa using idOf_le x.l
theorem PeerW.off {w : World} {base : Nat} {x : Peer} (h : PeerW K w base x) {b g c m : Nat} {xs : List Value} (ho : w.ownsRow b 44 2 (.slice (some ⟨g, 0, none⟩) m c) m xs) : RB w w.heap.size x.p.A x.p.n x.p.c x.p.l ∧ ∀ ad, x.p.A = some ad → ad.block ≠ g :=
  ⟨h.tb.rb, fun ad e e2 => by
    obtain ⟨cs, fr, hc⟩ := h.tb.ty ad e
    rcases ho.2 with ⟨hv, _⟩ | ⟨g', cap, cur, hv, _, hh, _⟩
    · cases hv
    · injection hv with e1
      injection e1 with e1
      injection e1 with e1
      subst e1
      rw [e2, hh] at hc
      injection hc with hc
      injection hc with _ ht
      cases ht⟩
theorem own_nil_or {w : World} {b m : Nat} {t : TypeId} {s : Nat} {v : Value} {xs : List Value} (h : w.ownsRow b t s v m xs) : (v = .slice none 0 0 ∧ m = 0) ∨ ∃ g c, v = .slice (some ⟨g, 0, none⟩) m c ∧ b ≤ g := by
  rcases h.2 with ⟨rfl, rfl⟩ | ⟨g, cap, cur, rfl, hb, _⟩
  · exact .inl ⟨rfl, rfl⟩
  · exact .inr ⟨g, cap, rfl, hb⟩
theorem cells_snoc (xs : List Peer) (x : Peer) : (xs ++ [x]).flatMap Who.cells = xs.flatMap Who.cells ++ [x.p.v, .slice x.A x.n x.c] := by simp [Who.cells]
def OutPeers (K : Nat) (hss : List (List Hop)) (w : World) (e : Ending) (w' : World) : Prop := ∃ A c ys, e = .returned (.tuple #[.slice A (List.length ys) c, .bool true]) ∧ PeersOk K w' w.heap.size A c ys hss ∧ Below w.heap.size w w'
set_option maxRecDepth 100000 in
set_option maxHeartbeats 4000000 in
theorem infos_yes (A : Option Addr) (n c : Nat) (ps : List Part) (hss : List (List Hop)) (w : World) (ht : Tab K w) (hl : LS w w.heap.size A n c ps) (he : ps.map (·.l) = hss.map addrBytes)
    (hok : ∀ hs ∈ hss, AOk K hs) (hn : n ≤ 1000) (hgood : ∀ hs ∈ hss, ∃ r x, hs = r ++ [x] ∧ x.kd % 8 = 6) : Calls Tryz.prog 8 #[.slice A n c] w (OutPeers K hss w) := by
  obtain ⟨i0, hi0, hz0, hz1, hz2⟩ := info_parts mad_info
  obtain ⟨j0, hj0, jz0, jz1, jz2⟩ := info_parts iinfo_info
  have HT := Lib.hid ht
  have HL := Lib.hid hl
  have HLL := Lib.hid hl.len
  have HE := Lib.hid he
  have HOK := Lib.hid hok
  have HNN := Lib.hid hn
  have HGOOD := Lib.hid hgood
  have qn : ∀ (w : World), (binOp .neq 61 .nilIface .nilIface).run Tryz.prog w = .ok (.bool false) w := fun _ => by kernel_rfl
  clear ht hl he hok hn hgood
  go_enter Tryz.func8, Tryz.ntmps8
  go_wp2_with fail
  go_loopw [4, 16] (fun v i wr => ∃ k : Nat, k ≤ n ∧ i = .int .i64 k ∧ Below w.heap.size w wr ∧
    ∃ ts, wr.ownsRow w.heap.size 56 1 v k (trCells ts) ∧ ts.map (fun t => t.cs.map (·.1)) = hss.take k ∧ (∀ t ∈ ts, TrOk wr t) ∧ (k = 0 → v = .slice none 0 0)) (fun _ i _ => n - (intOf i).toNat)
  case atStart => exact ⟨0, by omega, rfl, Below.refl _ _, [], World.ownsRow_nil _ _ _ _, rfl, fun t ht => by simp at ht, fun _ => rfl⟩
  case round =>
    obtain ⟨k, hk, rfl, hb, ts, hown, hts, htr, hz⟩ := hrel
    have HB := Lib.hid hb
    have HO := Lib.hid hown
    have HTS := Lib.hid hts
    have HTR := Lib.hid htr
    have HZ := Lib.hid hz
    clear hb hown hts htr hz
    by_cases hlt : k < n
    · have hlt' : k < ps.length := by rw [HLL.out]; exact hlt
      have hlh : k < hss.length := by have := congrArg List.length HE.out; simp at this; omega
      obtain ⟨ad, rfl, hbk, c0, hr⟩ := (HL.out.below HB.out).at_ k hlt'
      have hpl : (ps[k]).l = addrBytes hss[k] := by
        have := congrArg (fun x : List (List UInt8) => x[k]?) HE.out
        simpa [hlt', hlh] using this
      have htk : hss.take (k + 1) = hss.take k ++ [hss[k]] := List.take_succ_eq_append_getElem hlh
      have hao := HOK.out _ (List.getElem_mem hlh)
      generalize ps[k] = p1 at *
      generalize hss[k] = hs at *
      unfold Part.v at c0
      rw [hpl] at hr
      have HA := Lib.hid (addrof_impl p1.A p1.n p1.c hs wr (HT.out.below HB.out) hao.ok (hr.more HB.out.size) hao.le hao.ne)
      have HTK := Lib.hid htk
      have HAO := Lib.hid hao.ne
      clear hr hpl htk hao hlt' hlh
      go_wp2_with fail
      refine HA.out.mono ?_
      rintro e w3 ⟨g, c3, cs, rfl, hcs, hpr, hms, hb3⟩
      have hbq := (Below.refl _ w3).alloc (Nat.le_refl _) (.cells #[.slice (some ⟨g, 0, none⟩) cs.length c3] 56)
      have hbw := hb3.trans (hbq.mono hb3.size)
      have HBW := Lib.hid hbw
      have HOO := Lib.hid (own_below HO.out hbw)
      have HRN := Lib.hid (reads_new w3 #[.slice (some ⟨g, 0, none⟩) cs.length c3] 56 1 1 rfl)
      have hpos : 0 < cs.length := by
        rcases cs with _ | ⟨x, cs⟩
        · exact absurd hcs.symm HAO.out
        · simp
      have HTN := Lib.hid ((⟨hms, hpr, hpos⟩ : TrOk w3 ⟨g, c3, cs⟩).below hbq)
      have HCS := Lib.hid hcs
      clear hcs hpr hms hb3 hbq hbw hpos
      go_wp2_with (at_builtin; go_loud (refine wpList_append_any _ rfl _ _ _ rfl w.heap.size 56 i0 _ 1 24 Tryz.underlying54 hi0 hz0 hz1 hz2 rfl (by decide) _ _ _ rfl HOO.out _ _ 1 1 _ rfl HRN.out ?c0 ?c1 ?c2 ?c3 ?_))
      case c0 => intro u hu; simp at hu; subst hu; rfl
      case c1 => have := HNN.out; unfold maxLen; omega
      case c2 => have := HNN.out; omega
      case c3 => exact Nat.le_trans HB.out.size HBW.out.size
      intro v' w5 hown hgrow _hat
      have HB5 := Lib.hid ((HB.out.trans (HBW.out.mono HB.out.size)).grown hgrow (Nat.le_trans HB.out.size HBW.out.size) (fun g hg => (HOO.out.lt g hg).1))
      have hlen : ts.length = k := by have := HO.out.1; rw [trCells_length] at this; omega
      have hnil : ts = [] → u4.ownBlock = none := fun e => by
        have hk0 : k = 0 := by rw [← hlen, e]; rfl
        rw [HZ.out hk0]; rfl
      have hoo : (w3.alloc (.cells #[.slice (some ⟨g, 0, none⟩) cs.length c3] 56)).ownsRow w.heap.size 56 1 u4 ts.length (trCells ts) := by rw [hlen]; exact HOO.out
      have htr5 : ∀ t ∈ ts ++ [⟨g, c3, cs⟩], TrOk w5 t := fun t ht => by
        rcases List.mem_append.1 ht with h1 | h1
        · exact ((HTR.out t h1).below HBW.out).grown_row hoo hnil hgrow
        · rw [List.mem_singleton] at h1
          subst h1
          exact HTN.out.grown_row hoo hnil hgrow
      have hof : w5.ownsRow w.heap.size 56 1 v' (k + 1) (trCells (ts ++ [⟨g, c3, cs⟩])) := by
        rw [trCells_snoc]
        exact hown
      have HOF := Lib.hid hof
      have HTR5 := Lib.hid htr5
      have hkk := HNN.out
      clear hown hgrow _hat hof hlen hnil hoo htr5
      go_wp2_with fail
      go_roundw
      case rel => exact ⟨k + 1, by omega, by go_num, HB5.out, ts ++ [⟨g, c3, cs⟩], HOF.out, by rw [List.map_append, HTS.out, HTK.out]; simp [HCS.out], HTR5.out, fun h => absurd h (Nat.succ_ne_zero k)⟩
      case measure => simp [intOf]; omega
    · obtain rfl : k = n := by omega
      have hts := HTS.out
      have hle : hss.length = k := by have := congrArg List.length HE.out; simp at this; rw [← this, HLL.out]
      rw [List.take_of_length_le (by omega)] at hts
      obtain ⟨A0, c0', hu4⟩ := own_slice HO.out
      have ho := HO.out
      rw [hu4] at ho
      have HF := Lib.hid (infos_good A0 k c0' w.heap.size ts wr ho HTR.out (ts_len ts hss hts 101 (fun hs hh => Nat.le_succ_of_le (HOK.out hs hh).le)) HNN.out (ts_good ts hss hts HGOOD.out))
      have HU4 := Lib.hid hu4
      have HTOLD := Lib.hid (told_all ts hss hts)
      have HLE := Lib.hid hle
      clear hts hle ho hu4
      go_wp2_with fail
      rw [HU4.out]
      refine HF.out.mono ?_
      rintro e w2 ⟨v2, ks, gl, D, val, rfl, how2, hnd, hin, hgl, hgm, hb2⟩
      rw [HTOLD.out] at hgl
      have HGL := Lib.hid hgl
      have hks : ∀ x, x ∈ ks ↔ x ∈ hss.map fun hs => (toldH hs).1 := fun x => (hin x).trans (grp_isSome hgl x)
      have hkl : ks.length ≤ k := by
        have := nodup_len ks _ hnd (fun x hx => (hks x).1 hx)
        rw [List.length_map, HLE.out] at this
        exact this
      have HKS := Lib.hid hks
      have HKL := Lib.hid hkl
      have HND := Lib.hid hnd
      have HGM := Lib.hid hgm
      have HW2 := Lib.hid (HB.out.trans (hb2.mono HB.out.size))
      have hgr : ∀ L, ∀ t ∈ (grp gl L).getD [], t.cs.length ≤ 101 := fun L t ht => by
        have h1 := grp_group hgl L
        have h2 := (AOk.group (K := K) HOK.out (k := L) (t.cs.map (·.1)) (by rw [← h1]; exact List.mem_map.2 ⟨t, ht, rfl⟩)).le
        rw [List.length_map] at h2
        omega
      have HGR := Lib.hid hgr
      obtain ⟨A2, c2, rfl⟩ := own_slice how2
      have HO2 := Lib.hid (Reads.of_own how2)
      obtain ⟨m, hm⟩ : ∃ m, m = ks.length := ⟨_, rfl⟩
      rw [← hm] at HO2 HKL ⊢
      have HM := Lib.hid hm
      have hk1000 := HNN.out
      have hmk := HKL.out
      clear how2 hnd hin hgl hks hkl hgm hb2 hgr hm
      go_wp2_with fail
      go_loopw [11, 41] (fun v i wq => ∃ j : Nat, j ≤ m ∧ i = .int .i64 j ∧ Below w2.heap.size w2 wq ∧
        ∃ xs : List Peer, xs.map (·.p.l) = ks.take j ∧ wq.ownsRow w2.heap.size 44 2 v j (xs.flatMap Who.cells) ∧ (∀ x ∈ xs, PeerW K wq w2.heap.size x) ∧ (∀ x ∈ xs, x.x.2 = groupH hss x.p.l)) (fun _ i _ => m - (intOf i).toNat)
      case atStart => exact ⟨0, by omega, rfl, Below.refl _ _, [], rfl, World.ownsRow_nil _ _ _ _, fun x hx => by simp at hx, fun x hx => by simp at hx⟩
      case round =>
        obtain ⟨j, hj, rfl, hb, xs, hxs, hown, hpw, hgx⟩ := hrel
        have HBj := Lib.hid hb
        have HOj := Lib.hid hown
        have HXS := Lib.hid hxs
        have HPW := Lib.hid hpw
        have HGX := Lib.hid hgx
        clear hb hxs hown hpw hgx
        by_cases hjm : j < m
        · have hj' : j < ks.length := by rw [← HM.out]; exact hjm
          obtain ⟨ad, rfl, hbk, hcell⟩ := (HO2.out.below HBj.out).2 (by omega)
          have hg := peerRow_get val ks j hj'
          have hLin := (HKS.out _).1 (List.getElem_mem hj')
          have htk : ks.take (j + 1) = ks.take j ++ [ks[j]] := List.take_succ_eq_append_getElem hj'
          generalize ks[j] = L at *
          have hL44 := id_le hLin
          obtain ⟨Av, cv, hval⟩ := HGM.out.slice L
          rw [hval] at hg
          have c0 := hcell _ _ hg.1
          have c1 := hcell _ _ hg.2
          rw [add_succ _ _ 1 (by decide)] at c1
          have hbk2 : ad.block < wr.heap.size := Nat.lt_of_lt_of_le hbk HBj.out.size
          have hba := (Below.refl _ wr).alloc (Nat.le_refl _) (.cells #[.string ⟨L.toArray⟩, .slice Av ((grp gl L).getD []).length cv] 66)
          have hgm2 := (HGM.out.below HBj.out).below hba
          have hrow := hgm2.row L
          rw [hval] at hrow
          have hln : ((grp gl L).getD []).length ≤ k := by
            have h1 := congrArg List.length (grp_group HGL.out L)
            rw [List.length_map] at h1
            have h2 := groupH_length hss L
            have h3 := HLE.out
            omega
          have HPI := Lib.hid (plaininfo_x L Av ((grp gl L).getD []).length cv _ ((grp gl L).getD []) _ hrow (hgm2.oks L) (HGR.out L) (by omega) (by omega))
          have HTK := Lib.hid htk
          have HGG := Lib.hid (grp_group HGL.out L)
          have HLN := Lib.hid hln
          have HBA := Lib.hid (HBj.out.trans (hba.mono HBj.out.size))
          have HBw := Lib.hid hba
          generalize (grp gl L).getD [] = tl at *
          clear hg hLin htk hcell hval hba hgm2 hrow hln
          go_wp2_with fail
          refine HPI.out.mono ?_
          rintro e w3 ⟨A1, c1', v3, qs, rfl, htb, ho3, htb3, hqs, hb3⟩
          obtain ⟨A3, c3, rfl⟩ := own_slice ho3
          have hbq := ((Below.refl _ w3).alloc (Nat.le_refl _) (.cells #[.slice A1 L.length c1', .slice A3 tl.length c3] 44))
          have hbw3 := HBw.out.trans (hb3.mono HBw.out.size)
          have hbw4 := hbw3.trans (hbq.mono hbw3.size)
          have HB4 := Lib.hid (HBj.out.trans (hbw4.mono HBj.out.size))
          have HW4 := Lib.hid hbw4
          have HOO := Lib.hid (own_below HOj.out hbw4)
          have HRN := Lib.hid (reads_new w3 #[.slice A1 L.length c1', .slice A3 tl.length c3] 44 2 1 rfl)
          have hqg : qs.map (·.l) = (groupH hss L).map addrBytes := by
            rw [hqs, ← HGG.out, List.map_map]
            rfl
          obtain ⟨X, hX⟩ : ∃ X : Peer, X = ⟨⟨A1, L.length, c1', L⟩, A3, tl.length, c3, (qs, groupH hss L)⟩ := ⟨_, rfl⟩
          have HPN := Lib.hid ((show PeerW K w3 w2.heap.size X from hX ▸ ⟨htb, ho3.mono HBA.out.size, htb3, hqg, AOk.group HOK.out, by show L.length ≤ 1000; omega, by show tl.length ≤ 1000; have := HLN.out; omega⟩).below hbq)
          have hXc : X.p.v = .slice A1 L.length c1' ∧ Value.slice X.A X.n X.c = .slice A3 tl.length c3 ∧ X.p.l = L ∧ X.x.2 = groupH hss L := by rw [hX]; exact ⟨rfl, rfl, rfl, rfl⟩
          have HXC := Lib.hid hXc
          clear htb ho3 htb3 hqs hb3 hbq hbw3 hbw4 hqg hX hXc
          go_wp2_with (at_builtin; refine wpList_append_any _ rfl (.tmp 45) (.tmp 48) _ rfl w2.heap.size 44 j0 _ 2 48 Tryz.underlying26 hj0 jz0 jz1 jz2 rfl (by decide) _ _ _ rfl HOO.out _ _ 1 1 _ rfl HRN.out ?c0 ?c1 ?c2 ?c3 ?_)
          case c0 => intro u hu; simp at hu; rcases hu with rfl | rfl <;> rfl
          case c1 => unfold maxLen; omega
          case c2 => omega
          case c3 => exact HB4.out.size
          intro v' w5 hown hgrow _hat
          have HB5 := Lib.hid (HB4.out.grown hgrow HB4.out.size (fun g hg => (HOO.out.lt g hg).1))
          have hpw5 : ∀ x ∈ xs ++ [(X : Peer)], PeerW K w5 w2.heap.size x := fun x hx => by
            rcases List.mem_append.1 hx with h1 | h1
            · exact ((HPW.out x h1).below HW4.out).grown HOO.out hgrow
            · rw [List.mem_singleton] at h1
              subst h1
              exact HPN.out.grown HOO.out hgrow
          have hof : w5.ownsRow w2.heap.size 44 2 v' (j + 1) ((xs ++ [(X : Peer)]).flatMap Who.cells) := by
            rw [cells_snoc, HXC.out.1, HXC.out.2.1]
            exact hown
          have HOF := Lib.hid hof
          have HP5 := Lib.hid hpw5
          clear hown hgrow _hat hof hpw5
          go_wp2_with fail
          go_roundw
          case rel => exact ⟨j + 1, by omega, by go_num, HB5.out, xs ++ [(X : Peer)], by rw [List.map_append, HXS.out, HTK.out, List.map_singleton, HXC.out.2.2.1], HOF.out, HP5.out, fun x hx => by
            rcases List.mem_append.1 hx with h1 | h1
            · exact HGX.out x h1
            · rw [List.mem_singleton] at h1
              subst h1
              rw [HXC.out.2.2.2, HXC.out.2.2.1]⟩
          case measure => simp [intOf]; omega
        · obtain rfl : j = m := by omega
          have hxs := HXS.out
          rw [List.take_of_length_le (by rw [← HM.out]; exact Nat.le_refl _)] at hxs
          have hxl : xs.length = j := by have := congrArg List.length hxs; rw [List.length_map, ← HM.out] at this; exact this
          have HXI := Lib.hid hxs
          have HXL := Lib.hid hxl
          have HBF := Lib.hid (HW2.out.trans (HBj.out.mono HW2.out.size))
          have hfin : ∀ (ys : List Peer) (w6 : World) (A6 : Option Addr) (c6 : Nat), ys.Perm xs → ys.Pairwise (fun x y => ¬ cmpB y.p.l x.p.l < 0) → w6.ownsRow w.heap.size 44 2 (.slice A6 j c6) j (ys.flatMap Who.cells) → (∀ x ∈ ys, PeerW K w6 w.heap.size x) → Below w.heap.size w w6 → OutPeers K hss w (.returned (.tuple #[.slice A6 j c6, .bool true])) w6 := fun ys w6 A6 c6 hp hpw ho hpe hbb => by
            have hyl : ys.length = j := by rw [hp.length_eq, HXL.out]
            have hpm : (ys.map (·.p.l)).Perm ks := by have := hp.map (·.p.l); rwa [HXI.out] at this
            refine ⟨A6, c6, ys, by rw [hyl], ⟨by rw [hyl]; exact ho, hpe, rises_of (by rw [List.pairwise_map]; exact hpw) ((List.Perm.nodup_iff hpm).2 HND.out), fun x => (hpm.mem_iff).trans (HKS.out x), fun y hy => HGX.out y (hp.mem_iff.1 hy), by rw [hyl, HLE.out]; exact hmk⟩, hbb⟩
          have HFIN := Lib.hid hfin
          clear hxs hxl hfin
          rcases own_nil_or HOj.out with ⟨hv, hj0'⟩ | ⟨g, cg, hv, hgb⟩
          · have HS := Lib.hid (fun fv => sort_noneI none 0 fv wr)
            subst hv
            subst hj0'
            have hx0 : xs = [] := List.eq_nil_of_length_eq_zero HXL.out
            have HF0 := Lib.hid (HFIN.out xs wr none 0 (List.Perm.refl _) (by rw [hx0]; exact List.Pairwise.nil) (HOj.out.mono HW2.out.size) (fun x hx => (HPW.out x hx).mono HW2.out.size) HBF.out)
            go_wp2_with fail
            refine (HS.out _).mono ?_
            rintro e w6 ⟨rfl, rfl⟩
            go_wp2_with fail
            go_ret2
            exact HF0.out
          · subst hv
            have HS := Lib.hid (sort_infos (β := List Part × List (List Hop)) g j cg w2.heap.size xs wr HOj.out (fun x hx => (HPW.out x hx).off HOj.out) HXL.out (by omega))
            go_wp2_with fail
            refine HS.out.mono ?_
            rintro e w6 ⟨rfl, ys, hp, hpw, ho6, hg6⟩
            have HF6 := Lib.hid (HFIN.out ys w6 (some ⟨g, 0, none⟩) cg hp hpw (ho6.mono HW2.out.size) (fun x hx => ((HPW.out x (hp.mem_iff.1 hx)).grown HOj.out hg6).mono HW2.out.size) (HBF.out.grown hg6 HBF.out.size (fun q hq => by injection hq with hq; subst hq; exact Nat.le_trans HW2.out.size hgb)))
            clear hp hpw ho6 hg6
            go_wp2_with fail
            go_ret2
            exact HF6.out
end Go.Proofs.YtkmieonfhcmimaaGreatDoor
