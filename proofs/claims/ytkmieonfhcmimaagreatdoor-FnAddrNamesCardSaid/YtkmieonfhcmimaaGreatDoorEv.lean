/- FnAddrNames: the walk. -/
import Derived.Test.YtkmieonfhcmimaaGreatDoorLb
import Derived.Test.YtkmieonfhcmimaaGreatDoorQh
import Derived.Test.YtkmieonfhcmimaaGreatDoorPo
import Derived.ChangeSlices
import Derived.ChangeArms
namespace Go.Proofs.YtkmieonfhcmimaaGreatDoor
open Go Go.RowKit Go.Sort
attribute [local go_sem ↓] Go.wp_at_zero Go.wp_at_succ
/-- What the peers' IDs are: the different ones at the ends, rising. -/
theorem names_eq {l s : List (List UInt8)} {k : List (List UInt8)} (hl : Rises l) (hs : s.Pairwise fun a b => ¬ cmpB b a < 0) (hp : ∀ x, x ∈ s ↔ x ∈ k) (hi : ∀ x, x ∈ l ↔ x ∈ k) : l = dd s :=
  rises_unique _ _ hl (dd_rises s hs) fun x => ((hi x).trans (hp x).symm).trans (dd_mem s x).symm
theorem ids_of (rs : List Row) : (rs.map (·.hs)).map (fun hs => (toldH hs).1) = rs.map fun r => (toldH r.hs).1 := by rw [List.map_map]; rfl
theorem rows_ok {rs : List Row} (hlen : ∀ r ∈ rs, r.hs.length = r.n) (hsh : ∀ r ∈ rs, r.Short) : ∀ hs' ∈ rs.map (·.hs), AOk 65536 hs' := fun hs' hh => by
  obtain ⟨r, hr, rfl⟩ := List.mem_map.1 hh
  have h1 := hlen r hr
  have h2 := (hsh r hr).pos
  have h3 := (hsh r hr).le
  exact ⟨fun e => by rw [e] at h1; simp at h1; omega, by omega, fun _ _ => Or.inl (Nat.le_refl _)⟩
theorem rows_bad {rs : List Row} (hlen : ∀ r ∈ rs, r.hs.length = r.n) (hsh : ∀ r ∈ rs, r.Short) (h : ¬ ∀ hs ∈ rs.map (·.hs), ∃ r x, hs = r ++ [x] ∧ x.kd % 8 = 6) : ∃ hs ∈ rs.map (·.hs), ∃ r x, hs = r ++ [x] ∧ x.kd % 8 ≠ 6 := by
  by_cases h2 : ∃ hs ∈ rs.map (·.hs), ∃ r x, hs = r ++ [x] ∧ x.kd % 8 ≠ 6
  · exact h2
  · refine absurd (fun hs hh => ?_) h
    obtain ⟨r, hr, rfl⟩ := List.mem_map.1 hh
    have hne : r.hs ≠ [] := fun e => by have := hlen r hr; have := (hsh r hr).pos; rw [e] at *; simp at *; omega
    refine ⟨_, _, (List.dropLast_concat_getLast hne).symm, ?_⟩
    by_cases h6 : (r.hs.getLast hne).kd % 8 = 6
    · exact h6
    · exact absurd ⟨r.hs, hh, _, _, (List.dropLast_concat_getLast hne).symm, h6⟩ h2
set_option maxRecDepth 100000 in
set_option maxHeartbeats 4000000 in
theorem law_names (A : Option Addr) (n c : Nat) (rs : List Row) (w : World) (ht : Tab 65536 w) (hu : Inv w) (h : RS w w.heap.size A n c rs) :
    Calls Tryz.prog 3 #[.slice A n c] w fun e w' => e = .returned (.bool true) ∧ Below w.heap.size w w' := by
  have HAW := fun w6 (hb : Below w.heap.size w w6) => (awake (K := 65536) w6 (by decide) (ht.below hb)).mono fun e w' (h1 : e = .returned (.bool true) ∧ Below w6.heap.size w6 w') => (⟨h1.1, hb.trans (h1.2.mono hb.size)⟩ : e = .returned (.bool true) ∧ Below w.heap.size w w')
  have HFIN := Lib.hid HAW
  have HF := Lib.hid (fits3_any A n c rs w h)
  have HH := Lib.hid h
  have HLR := Lib.hid h.len
  have HT := Lib.hid ht
  have HU := Lib.hid hu
  obtain ⟨j0, hj0, jz0, jz1, jz2⟩ := info_parts aslice_info
  clear h ht hu HAW
  go_enter Tryz.func3, Tryz.ntmps3
  go_wp2_with fail
  refine HF.out.mono ?_
  rintro e w1 ⟨b, rfl, hb1⟩
  have HB1 := Lib.hid hb1
  clear hb1
  cases b
  · go_wp2_with fail
    go_ret
    exact ⟨rfl, HB1.out⟩
  have HS1 := Lib.hid (shorts_any A n c rs w1 ((HH.out.below HB1.out).more HB1.out.size))
  go_wp2_with fail
  refine HS1.out.mono ?_
  rintro e w3 ⟨hor, hb3⟩
  have HB3 := Lib.hid (HB1.out.trans (hb3.mono HB1.out.size))
  clear hb3
  rcases hor with rfl | ⟨rfl, hn60, hsh⟩
  · go_wp2_with fail
    refine (HFIN.out _ HB3.out).mono ?_
    rintro e w4 ⟨rfl, hb4⟩
    have HB4 := Lib.hid hb4
    clear hb4
    go_wp2_with fail
    go_ret
    exact ⟨rfl, HB4.out⟩
  have HSH := Lib.hid (show ∀ r ∈ rs, r.Short from fun r hr => by
    obtain ⟨i, hi, rfl⟩ := List.getElem_of_mem hr
    exact hsh i hi)
  have HLEN := Lib.hid (show ∀ r ∈ rs, r.hs.length = r.n from fun r hr => by
    obtain ⟨i, hi, rfl⟩ := List.getElem_of_mem hr
    obtain ⟨_, _, _, _, h2⟩ := HH.out.at_ i hi
    exact h2.len)
  have HAL := Lib.hid (addrlist_any A n c rs w3 ((HH.out.below HB3.out).more HB3.out.size) (by omega) hsh)
  have HOK := Lib.hid (rows_ok HLEN.out HSH.out)
  clear hsh HS1 HF
  go_wp2_with fail
  refine HAL.out.mono ?_
  rintro e w7 ⟨v7, qs, rfl, ho7, hq7, ht7, hb7⟩
  obtain ⟨A7, c7, rfl⟩ := own_slice ho7
  have hl7 : LS w7 w7.heap.size A7 n c7 qs := LS.of_own ho7 ht7
  have hb07 := HB3.out.trans (hb7.mono HB3.out.size)
  have HB7 := Lib.hid hb07
  have hqe : qs.map (·.l) = (rs.map (·.hs)).map addrBytes := by rw [hq7, List.map_map]; rfl
  by_cases hgood : ∀ hs ∈ rs.map (·.hs), ∃ r x, hs = r ++ [x] ∧ x.kd % 8 = 6
  case neg =>
    have HNO := Lib.hid (infos_no (K := 65536) A7 n c7 qs (rs.map (·.hs)) w7 (HT.out.below hb07) (HU.out.below hb07) hl7 hqe HOK.out (by omega) (rows_bad HLEN.out HSH.out hgood))
    clear ho7 hq7 ht7 hb7 hl7 hb07 hqe hgood
    go_wp2_with fail
    refine HNO.out.mono ?_
    rintro e w8 ⟨rfl, hb8⟩
    have HB8 := Lib.hid (HB7.out.trans (hb8.mono HB7.out.size))
    clear hb8
    go_wp2_with fail
    refine (HFIN.out _ HB8.out).mono ?_
    rintro e w9 ⟨rfl, hb9⟩
    have HB9 := Lib.hid hb9
    clear hb9
    go_wp2_with fail
    go_ret
    exact ⟨rfl, HB9.out⟩
  have HYES := Lib.hid (infos_yes (K := 65536) A7 n c7 qs (rs.map (·.hs)) w7 (HT.out.below hb07) hl7 hqe HOK.out (by omega) hgood)
  have HGOOD := Lib.hid hgood
  clear ho7 hq7 ht7 hb7 hl7 hb07 hqe hgood
  go_wp2_with fail
  refine HYES.out.mono ?_
  rintro e w8 ⟨A8, c8, ys, rfl, hpeers, hb8⟩
  have HP := Lib.hid hpeers
  have HB8 := Lib.hid (HB7.out.trans (hb8.mono HB7.out.size))
  clear hb8 hpeers HYES
  go_wp2_with fail
  go_loopw [5, 28] (fun v i wr => ∃ k : Nat, k ≤ n ∧ i = .int .i64 k ∧ Below w8.heap.size w8 wr ∧ ∃ qs : List Part, qs.map (·.l) = (rs.take k).map (fun r => (toldH r.hs).1) ∧ wr.ownsRow w8.heap.size 32 1 v k (partCells qs) ∧ TBs wr qs) (fun _ i _ => n - (intOf i).toNat)
  case atStart => exact ⟨0, by omega, rfl, Below.refl _ _, [], rfl, World.ownsRow_nil _ _ _ _, fun x hx => by simp at hx⟩
  case round =>
    obtain ⟨k, hk, rfl, hb, ps, hps, hown, htb⟩ := hrel
    have HB := Lib.hid hb
    have HPS := Lib.hid hps
    have HO := Lib.hid hown
    have HTB := Lib.hid htb
    clear hb hps hown htb
    by_cases hlt : k < n
    · have hlt' : k < rs.length := by rw [HLR.out]; exact hlt
      have hbr := HB8.out.trans (HB.out.mono HB8.out.size)
      obtain ⟨ad, rfl, hbk, c0, hr⟩ := (HH.out.below hbr).at_ k hlt'
      have htk : (rs.take (k + 1)).map (fun r => (toldH r.hs).1) = (rs.take k).map (fun r => (toldH r.hs).1) ++ [(toldH (rs[k]).hs).1] := by rw [List.take_succ_eq_append_getElem hlt', List.map_append]; rfl
      have hrs := HSH.out _ (List.getElem_mem hlt')
      have hrl := HLEN.out _ (List.getElem_mem hlt')
      have hg6 := HGOOD.out (rs[k]).hs (List.mem_map.2 ⟨_, List.getElem_mem hlt', rfl⟩)
      generalize rs[k] = r at *
      have hbk2 : ad.block < wr.heap.size := Nat.lt_of_lt_of_le hbk hbr.size
      obtain ⟨rA, rn, rc, rhs⟩ := r
      obtain ⟨q, x, e1, h6⟩ := hg6
      obtain rfl : rhs = q ++ [x] := e1
      obtain rfl : rn = q.length + 1 := by have : (q ++ [x]).length = rn := hrl; simpa using this.symm
      have hq20 : q.length + 1 ≤ 20 := hrs.le
      have hall : ∀ i (hi : i < (q ++ [x]).length), ((q ++ [x])[i]).n ≤ 100000 := fun i hi => by have := hrs.all i hi; exact Nat.le_trans this (by decide)
      have hhs : HS wr wr.heap.size rA (q.length + 1) rc (q ++ [x]) := hr.more hbr.size
      have HSP := Lib.hid (ssplit_tb rA rc q x wr hhs (by omega) hall h6)
      rw [toldH_snoc] at htk
      have HTK := Lib.hid htk
      have hc0 : wr.cell? (ad.add k) = some (.slice rA (q.length + 1) rc) := c0
      have hIl := idOf_le x.l
      generalize idOf x.l = I at *
      clear hr htk hrs hrl hall hhs c0 hbr hbk
      go_wp2_with fail
      refine HSP.out.mono ?_
      rintro e w3 ⟨At, ct, Bi, di, rfl, _, htbi, hb3⟩
      have hbq := (Below.refl _ w3).alloc (Nat.le_refl _) (.cells #[.slice Bi I.length di] 32)
      have HBw := Lib.hid (hb3.trans (hbq.mono hb3.size))
      have HB5 := Lib.hid (HB.out.trans (HBw.out.mono HB.out.size))
      have HOO := Lib.hid (own_below HO.out HBw.out)
      have HRN := Lib.hid (reads_new w3 #[.slice Bi I.length di] 32 1 1 rfl)
      have HTI := Lib.hid (htbi.below hbq)
      clear htbi hb3 hbq
      go_wp2_with (at_builtin; refine wpList_append_any _ rfl (.tmp 37) (.tmp 39) _ rfl w8.heap.size 32 j0 _ 1 24 Tryz.underlying29 hj0 jz0 jz1 jz2 rfl (by decide) _ _ _ rfl HOO.out _ _ 1 1 _ rfl HRN.out ?c0 ?c1 ?c2 ?c3 ?_)
      case c0 => intro u hu; simp at hu; subst hu; rfl
      case c1 => unfold maxLen; omega
      case c2 => omega
      case c3 => exact HB5.out.size
      intro v' w5 hown hgrow _hat
      have HBF := Lib.hid (HB5.out.grown hgrow HB5.out.size (fun g hg => (HOO.out.lt g hg).1))
      have htf : TBs w5 (ps ++ [⟨Bi, I.length, di, I⟩]) := TBs.snoc (fun x hx => (((HTB.out x hx).below HBw.out).grown HOO.out (by decide) hgrow)) (HTI.out.grown HOO.out (by decide) hgrow)
      have hof : w5.ownsRow w8.heap.size 32 1 v' (k + 1) (partCells (ps ++ [⟨Bi, I.length, di, I⟩])) := by
        rw [partCells_snoc]
        exact hown
      have HOF := Lib.hid hof
      have HTF := Lib.hid htf
      clear hown hgrow _hat hof htf
      go_wp2_with fail
      go_roundw
      case rel => exact ⟨k + 1, by omega, by go_num, HBF.out, ps ++ [⟨Bi, I.length, di, I⟩], by rw [List.map_append, HPS.out, HTK.out]; rfl, HOF.out, HTF.out⟩
      case measure => simp [intOf]; omega
    · obtain rfl : k = n := by omega
      have hps := HPS.out
      rw [List.take_of_length_le (by rw [HLR.out]; exact Nat.le_refl _)] at hps
      have hyk : ys.length ≤ 60 := by have h1 := HP.out.len; rw [List.length_map, HLR.out] at h1; omega
      have HPI := Lib.hid hps
      have hids := HP.out.ids
      rw [ids_of, ← hps] at hids
      have HIDS := Lib.hid hids
      clear hps hids
      rcases own_nil_or HO.out with ⟨hv, hk0⟩ | ⟨g, cg, hv, hgb⟩
      · subst hv
        have hp0 : ps = [] := List.eq_nil_of_length_eq_zero (by have h1 := HO.out.1; rw [partCells_length] at h1; omega)
        have HY0 := Lib.hid (show ys = [] by
          rcases ys with _ | ⟨y, ys⟩
          · rfl
          · have := (HIDS.out y.p.l).1 (by simp)
            rw [hp0] at this
            simp at this)
        have HS := Lib.hid (fun fv => sort_noneB none 0 fv wr)
        have HC := Lib.hid (fun fv => compact_none 0 fv wr)
        have HID := Lib.hid (addrids_all (K := 65536) [] A8 0 c8 wr (HT.out.below (HB8.out.trans (HB.out.mono HB8.out.size))) ⟨rfl, fun h => absurd h (by omega)⟩ (fun x hx => by simp at hx) rfl (by omega))
        have hy0 := HY0.out
        subst hy0
        subst hk0
        go_wp2_with fail
        refine (HS.out _).mono ?_
        rintro e w9 ⟨rfl, rfl⟩
        go_wp2_with fail
        refine (HC.out _).mono ?_
        rintro e w10 ⟨rfl, rfl⟩
        go_wp2_with fail
        refine HID.out.mono ?_
        rintro e w11 ⟨A11, c11, ts, rfl, hl11, hts, hb11⟩
        have hl0 : LS w11 w11.heap.size none 0 0 [] := ⟨rfl, Nat.le_refl _, by simp [maxLen], fun i hi => absurd hi (by simp)⟩
        have HE := Lib.hid (eqfunc_any A11 none 0 c11 0 ts [] w11 hl11 hl0 hts)
        have HB11 := Lib.hid (HB8.out.trans ((HB.out.trans (hb11.mono HB.out.size)).mono HB8.out.size))
        clear hl11 hts hb11 HID
        go_wp2_with fail
        refine HE.out.mono ?_
        rintro e w12 ⟨rfl, hb12⟩
        have HB12 := Lib.hid (HB11.out.trans (hb12.mono HB11.out.size))
        clear hb12
        go_wp2_with fail
        refine (HFIN.out _ HB12.out).mono ?_
        rintro e w13 ⟨rfl, hb13⟩
        have HB13 := Lib.hid hb13
        clear hb13
        go_wp2_with fail
        go_ret
        exact ⟨rfl, HB13.out⟩
      · subst hv
        have HS := Lib.hid (sort_bytes g k cg w8.heap.size ps wr HO.out HTB.out (by omega))
        go_wp2_with fail
        refine HS.out.mono ?_
        rintro e w9 ⟨rfl, zs, hperm, hpw, ho9, ht9, hg9⟩
        have HC := Lib.hid (compact_any w8.heap.size g k cg zs w9 ho9 ht9 (by omega))
        have HPM := Lib.hid hperm
        have HPW := Lib.hid hpw
        have hb9 := HB.out.grown hg9 HB.out.size (fun q hq => by injection hq with hq; subst hq; exact hgb)
        have HB9 := Lib.hid hb9
        clear hperm hpw ho9 ht9 hg9 hb9 HS
        go_wp2_with fail
        refine HC.out.mono ?_
        rintro e w10 ⟨k2, c2, us, rfl, ho10, ht10, hu10, hg10⟩
        have hb10 := HB9.out.grown hg10 HB9.out.size (fun q hq => by injection hq with hq; subst hq; exact hgb)
        have hEQ : ys.map (·.p.l) = us.map (·.l) := by
          rw [hu10]
          exact names_eq HP.out.rises (by rw [List.pairwise_map]; exact HPW.out.imp (fun {a b} h => by simpa using h)) (fun x => (HPM.out.map (·.l)).mem_iff) HIDS.out
        have hk2 : us.length = k2 := by have h1 := ho10.1; rw [partCells_length] at h1; omega
        have hk3 : ys.length = k2 := by have h1 := congrArg List.length hEQ; simp only [List.length_map] at h1; omega
        have HL10 := Lib.hid (LS.of_own ho10 ht10)
        have HB10 := Lib.hid hb10
        have HP10 := Lib.hid (HP.out.below hb10)
        have HEQ := Lib.hid hEQ
        have hrd : Reads w10 w10.heap.size 2 A8 ys.length (infoRow (ys.map Who.info)) := by
          rw [infoRow_who]
          exact Reads.of_own (HP10.out).own
        have HID := Lib.hid (addrids_all (K := 65536) (ys.map Who.info) A8 ys.length c8 w10 (HT.out.below (HB8.out.trans (hb10.mono HB8.out.size))) hrd (fun x hx => by
          obtain ⟨y, hy, rfl⟩ := List.mem_map.1 hx
          exact (HP10.out.oks y hy).is) (by simp) (by omega))
        have HK3 := Lib.hid hk3
        clear ho10 ht10 hu10 hg10 hb10 hEQ hrd HC hk2 hk3
        go_wp2_with fail
        refine HID.out.mono ?_
        rintro e w11 ⟨A11, c11, ts, rfl, hl11, hts, hb11⟩
        have hlq := (HL10.out.below hb11).more hb11.size
        have hk3 := HK3.out
        rw [hk3] at hl11
        have hte : ts.map (·.l) = us.map (·.l) := by rw [hts, ← HEQ.out, List.map_map]; rfl
        have HE := Lib.hid (eqfunc_any A11 _ k2 c11 _ ts us w11 hl11 hlq hte)
        have HB11 := Lib.hid (HB8.out.trans ((HB10.out.trans (hb11.mono HB10.out.size)).mono HB8.out.size))
        rw [hk3]
        clear hlq hl11 hte hts hb11 HID hk3
        go_wp2_with fail
        refine HE.out.mono ?_
        rintro e w12 ⟨rfl, hb12⟩
        have HB12 := Lib.hid (HB11.out.trans (hb12.mono HB11.out.size))
        clear hb12
        go_wp2_with fail
        refine (HFIN.out _ HB12.out).mono ?_
        rintro e w13 ⟨rfl, hb13⟩
        have HB13 := Lib.hid hb13
        clear hb13
        go_wp2_with fail
        go_ret
        exact ⟨rfl, HB13.out⟩
end Go.Proofs.YtkmieonfhcmimaaGreatDoor

/- The argument: a slice of parts, out of what the row says of it. -/
namespace Go.Proofs.YtkmieonfhcmimaaGreatDoor
open Go.ChangeShapes Go.RowKit
theorem u8_of_wf {n : Int} (h : (Lit.int .u8 n).wf = true) : ∃ b : UInt8, n = b.toNat := by
  have h2 : 0 ≤ n ∧ n ≤ 255 := by
    unfold Lit.wf at h
    rw [Bool.and_eq_true] at h
    exact ⟨by have := of_decide_eq_true h.1; exact this, by have := of_decide_eq_true h.2; exact this⟩
  exact ⟨UInt8.ofNat n.toNat, by simp; omega⟩
section
variable {H : Type} {enc : TypeId × Value → H} {W : World} {base : Nat} {spare : Nat → Bool} {held : Bool}
theorem bytes_of {fuel : Nat} {v : Value} {x : DataW H × List MemPlace} (h : DataW.trod enc Tryz.prog W base spare held fuel 32 [v] = some x) : ∃ A n c l, v = .slice A n c ∧ RB W W.heap.size A n c l := by
  rcases open_ints Tryz.underlying32 Tryz.underlying5 (by kernel_rfl) h with ⟨hcs, _⟩ | ⟨a, len, cap, zs, hcs, _, hl, hm, hz, _, hcell, hwf⟩
  · injection hcs with hv _
    exact ⟨none, 0, 0, [], hv, RB.nil_ _ _⟩
  · injection hcs with hv _
    have hzl : len ≤ zs.length := by rw [hz]; split <;> omega
    have hf : ∀ i, i < len → ∃ b : UInt8, W.cell? (a.add i) = some (.int .u8 b.toNat) := fun i hi => by
      have hc := hcell i (by omega)
      have hmem : zs.getD i 0 ∈ zs := by simp [List.getD, List.getElem?_eq_getElem (show i < zs.length by omega)]
      obtain ⟨b, hb⟩ := u8_of_wf (hwf _ hmem)
      exact ⟨b, by rw [hc, hb]⟩
    refine ⟨some a, len, cap, (List.range len).map fun i => if h : i < len then Classical.choose (hf i h) else 0, hv, ⟨⟨by simp [bv], fun hn => ⟨a, rfl, ?_, fun j u hu => ?_⟩⟩, hl, hm⟩⟩
    · obtain ⟨b, hb⟩ := hf 0 hn
      have := World.block_lt_of_cell? _ _ hb
      rwa [block_of_add] at this
    · have hj : j < len := by
        have := (List.getElem?_eq_some_iff.1 hu).1
        simpa [bv] using this
      have : u = .int .u8 (Classical.choose (hf j hj)).toNat := by
        simp [bv, hj] at hu
        exact hu.symm
      rw [this]
      exact Classical.choose_spec (hf j hj)
theorem hops_of {fuel : Nat} {v : Value} {x : DataW H × List MemPlace} (h : DataW.trod enc Tryz.prog W base spare held fuel 31 [v] = some x) : ∃ A n c hs, v = .slice A n c ∧ HS W W.heap.size A n c hs := by
  rcases open_slice_fields Tryz.underlying31 Tryz.underlying50 (by kernel_rfl) (by kernel_rfl) h with ⟨hcs, _⟩ | ⟨a, len, cap, m, D, Pl, hcs, _, hl, hmx, hm, _, hel⟩
  · injection hcs with hv _
    exact ⟨none, 0, 0, [], hv, ⟨rfl, by decide, by simp [maxLen], fun i hi => absurd hi (by simp)⟩⟩
  · injection hcs with hv _
    have hml : len ≤ m := by rw [hm]; split <;> omega
    have hf : ∀ i, i < len → ∃ hp : Hop, W.cell? (a.add (i * 2)) = some (.int .u8 hp.kd) ∧ W.cell? (a.add (i * 2 + 1)) = some (.slice hp.A hp.n hp.c) ∧ RB W W.heap.size hp.A hp.n hp.c hp.l := fun i hi => by
      obtain ⟨ys, n, _, _, _, hfl⟩ := hel i (by omega)
      obtain ⟨v0, y0, c0, _, t0⟩ := hfl 0 _ rfl
      obtain ⟨v1, y1, c1, _, t1⟩ := hfl 1 _ rfl
      obtain ⟨k, e0, _, hwf⟩ := DataW.trod_int Tryz.underlying5 t0
      injection e0 with e0 _
      obtain ⟨b, rfl⟩ := u8_of_wf hwf
      obtain ⟨A, n1, c', l, rfl, hr⟩ := bytes_of t1
      refine ⟨⟨b.toNat, A, n1, c', l⟩, ?_, ?_, hr⟩
      · rw [e0] at c0
        exact c0
      · exact c1
    refine ⟨some a, len, cap, (List.range len).map fun i => if h : i < len then Classical.choose (hf i h) else ⟨0, none, 0, 0, []⟩, hv, ⟨by simp, hl, hmx, fun i hi => ?_⟩⟩
    have hil : i < len := by simpa using hi
    have hs := Classical.choose_spec (hf i hil)
    refine ⟨a, rfl, ?_, ?_⟩
    · have := World.block_lt_of_cell? _ _ hs.1
      rwa [block_of_add] at this
    · simp only [List.getElem_map, List.getElem_range, dif_pos hil]
      exact hs
end
end Go.Proofs.YtkmieonfhcmimaaGreatDoor

/- The argument: a slice of slices of parts, out of what the row says of it. -/
namespace Go.Proofs.YtkmieonfhcmimaaGreatDoor
open Go.ChangeShapes Go.RowKit Go.WideShapes Go.Deep
section
variable {H : Type} {enc : TypeId × Value → H} {W : World} {base : Nat} {spare : Nat → Bool} {held : Bool}
theorem cells_hslice : Tryz.prog.cellsOf 31 = 1 := by kernel_rfl
theorem rows_of {fuel : Nat} {v : Value} {x : DataW H × List MemPlace} (h : DataW.trod enc Tryz.prog W base spare held fuel 22 [v] = some x) : ∃ A n c rs, v = .slice A n c ∧ RS W W.heap.size A n c rs := by
  rcases open_slice Tryz.underlying22 h with ⟨hcs, _⟩ | ⟨a, len, cap, m, k, D, Pl, hcs, _, hl, hmx, hm, _, hel⟩
  · injection hcs with hv _
    exact ⟨none, 0, 0, [], hv, ⟨rfl, by decide, by simp [maxLen], fun i hi => absurd hi (by simp)⟩⟩
  · injection hcs with hv _
    have hml : len ≤ m := by rw [hm]; split <;> omega
    have hf : ∀ i, i < len → ∃ p : Row, W.cell? (a.add i) = some p.v ∧ HS W W.heap.size p.A p.n p.c p.hs := fun i hi => by
      obtain ⟨cs', hc, ht'⟩ := hel i (by omega)
      rw [cells_hslice, Nat.mul_one] at hc
      obtain ⟨_, hcl, hat⟩ := World.cells?_some hc
      obtain ⟨u, rfl⟩ : ∃ u, cs' = [u] := by
        rcases cs' with _ | ⟨u, _ | ⟨u2, cs'⟩⟩
        · simp at hcl
        · exact ⟨u, rfl⟩
        · simp at hcl
      obtain ⟨A, n1, c', l, rfl, hr⟩ := hops_of ht'
      refine ⟨⟨A, n1, c', l⟩, ?_, hr⟩
      have := hat 0 (by decide)
      simpa [Addr.add, Row.v] using this
    refine ⟨some a, len, cap, (List.range len).map fun i => if h : i < len then Classical.choose (hf i h) else ⟨none, 0, 0, []⟩, hv, ⟨by simp, hl, hmx, fun i hi => ?_⟩⟩
    have hil : i < len := by simpa using hi
    have hs := Classical.choose_spec (hf i hil)
    refine ⟨a, rfl, ?_, ?_⟩
    · have := World.block_lt_of_cell? _ _ hs.1
      rwa [block_of_add] at this
    · simp only [List.getElem_map, List.getElem_range, dif_pos hil]
      exact hs
end
end Go.Proofs.YtkmieonfhcmimaaGreatDoor
