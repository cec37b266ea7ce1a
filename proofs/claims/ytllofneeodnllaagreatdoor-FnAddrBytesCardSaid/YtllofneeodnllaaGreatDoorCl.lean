/- impl.AddrBytes: the bytes of each address with the ID behind it. No condition beyond. -/
import Derived.Test.YtllofneeodnllaaGreatDoorCj
import Derived.Test.YtllofneeodnllaaGreatDoorEr
namespace Go.Proofs.YtllofneeodnllaaGreatDoor
open Go.RowKit
variable {K : Nat}
attribute [local go_sem ↓] Go.wp_at_zero Go.wp_at_succ
/-- A copy of bytes in memory of the call's own. -/
def OutTB (l : List UInt8) (w : World) (e : Ending) (w' : World) : Prop := ∃ A c, e = .returned (.slice A l.length c) ∧ TB w' ⟨A, l.length, c, l⟩ ∧ Below w.heap.size w w'
set_option maxRecDepth 100000 in
set_option maxHeartbeats 1000000 in
theorem clone_tb (A : Option Addr) (n c : Nat) (l : List UInt8) (w : World) (h : RB w w.heap.size A n c l) (hn : n ≤ 140737488355328) :
    Calls Tryz.prog 12 #[.slice A n c] w (OutTB l w) := by
  obtain ⟨i0, hi0, hz0, hz1, hz2⟩ := info_parts u8_info
  have q : ∀ (w : World) (a : Option Addr) (n c n' c' : Nat), (binOp .eql 23 (.slice a n c) (.slice none n' c')).run Tryz.prog w = .ok (.bool a.isNone) w := fun w a n c n' c' => Lib.run_eql_slice_nil w _ _ a n c n' c' Tryz.underlying23
  have hlen := Lib.hid h.len
  rcases A with _ | a
  · have h0 : l = [] := by
      rcases Nat.eq_zero_or_pos n with h0 | h0
      · exact List.eq_nil_of_length_eq_zero (by rw [hlen.out, h0])
      · obtain ⟨ad, e1, _⟩ := h.reads.2 h0
        cases e1
    have H := Lib.hid h
    clear h
    go_enter Tryz.func12, Tryz.ntmps12
    go_wp2
    go_ret
    subst h0
    exact ⟨none, 0, rfl, ⟨RB.nil_ _ _, fun ad e => by cases e⟩, Below.refl _ _⟩
  · have H := Lib.hid h
    have hB := Lib.hid hn
    clear h hn
    go_enter Tryz.func12, Tryz.ntmps12
    go_wp2_with (at_builtin; refine wpList_append_any _ rfl (.tmp 5) (.tmp 6) _ rfl w.heap.size 5 i0 _ 1 1 Tryz.underlying23 hi0 hz0 hz1 hz2 rfl (by decide) _ _ _ rfl (World.ownsRow_made w #[] 0 (Nat.le_refl _) (Nat.zero_le _) rfl) w.heap.size (some a) n c (bv l) rfl (H.out.reads.alloc (Nat.le_refl _) _) (bv_one l) ?c1 ?c2 ?c3 ?_)
    case c1 => have := hB.out; unfold maxLen; omega
    case c2 => have := hB.out; omega
    case c3 => simp
    intro v' w1 hown hgrow _hat
    go_wp2
    go_ret
    have hown' : w1.ownsRow w.heap.size 5 1 v' l.length (bv l) := by rw [hlen.out]; exact hown
    obtain ⟨A1, c1, rfl⟩ := own_slice hown'
    exact ⟨A1, c1, rfl, TB.of_own hown', (((Below.refl _ w).alloc (Nat.le_refl _) _).grown hgrow (by simp) (by intro k hk; simp [Value.ownBlock] at hk; omega))⟩
set_option maxRecDepth 100000 in
set_option maxHeartbeats 4000000 in
theorem addrbytes_x (p : Part) (l : List UInt8) (A : Option Addr) (n c : Nat) (ps : List Part) (hss : List (List Hop)) (w : World) (ht : Tab K w) (h : RB w w.heap.size p.A p.n p.c p.l) (hpl : p.l = idOf l) (hl : LS w w.heap.size A n c ps) (he : ps.map (·.l) = hss.map addrBytes)
    (hok : ∀ hs ∈ hss, AOk K hs) (hn : n ≤ 100) : Calls Tryz.prog 19 #[.agg #[.slice p.A p.n p.c, .slice A n c]] w fun e w' =>
    ∃ A' m c' qs, e = .returned (.tuple #[.slice A' m c', .bool true]) ∧ LS w' w'.heap.size A' m c' qs ∧ qs.map (·.l) = (withId hss l).map addrBytes ∧ Below w.heap.size w w' := by
  obtain ⟨j0, hj0, jz0, jz1, jz2⟩ := info_parts aslice_info
  have q0 : ∀ w : World, (binOp .neq 58 .nilIface .nilIface).run Tryz.prog w = .ok (.bool false) w := fun _ => by kernel_rfl
  obtain ⟨w0, hw0⟩ : ∃ w0, w0 = w.alloc (.cells #[.slice p.A p.n p.c, .slice A n c] 43) := ⟨_, rfl⟩
  have hb0 : Below w.heap.size w w0 := by rw [hw0]; exact (Below.refl _ w).alloc (Nat.le_refl _) _
  have HI := Lib.hid (infoof_addrs (K := K) p A n c ps hss w0 (ht.below hb0) ((h.below hb0).more hb0.size) ((hl.below hb0).more hb0.size) he hok (by omega))
  have HT := Lib.hid ht
  have HB0 := Lib.hid hb0
  have HW0 := Lib.hid hw0
  have HL := Lib.hid (fun hs hh => (hok hs hh).le)
  have HLH := Lib.hid (show hss.length ≤ 100 by have h1 := congrArg List.length he; simp at h1; rw [← h1, hl.len]; exact hn)
  rw [hpl] at HI
  have HTO := Lib.hid (fun q v n ts w ht hq ho htr hts hn => top2p_x (K := K) l q v n ts hss w ht hq (base := w0.heap.size) ho htr hts hn HL.out)
  obtain ⟨I, hI⟩ : ∃ I, I = idOf l := ⟨_, rfl⟩
  rw [← hI] at HI HTO
  clear ht h hpl hl he hok hb0 hw0 hI
  go_enter Tryz.func19, Tryz.ntmps19
  go_wp2_with fail
  rw [← HW0.out]
  refine HI.out.mono ?_
  rintro e w1 ⟨v, ts, rfl, ho, hts, htr, hb1⟩
  obtain ⟨A1, c1, rfl⟩ := own_slice ho
  have hba := (Below.refl _ w1).alloc (Nat.le_refl _) (.cells #[.string ⟨I.toArray⟩, .slice A1 n c1] 70)
  have hb01 := HB0.out.trans (hb1.mono HB0.out.size)
  have HB1 := Lib.hid (hb01.trans (hba.mono hb01.size))
  have HT2 := Lib.hid (HTO.out w1.heap.size (.slice A1 n c1) n ts (w1.alloc (.cells #[.string ⟨I.toArray⟩, .slice A1 n c1] 70)) (HT.out.below (hb01.trans (hba.mono hb01.size))) (Blk.new _ _ _) (own_below ho hba) (fun t ht => (htr t ht).below hba) hts (by omega))
  clear ho hts htr hb1 hba hb01 HTO
  go_wp2_with fail
  refine HT2.out.mono ?_
  rintro e w2 ⟨v2, ts2, rfl, ho2, htr2, hts2, hb2⟩
  obtain ⟨m, hm⟩ : ∃ m, m = ts2.length := ⟨_, rfl⟩
  rw [← hm] at ho2
  have hmb : m ≤ 101 := by
    have h1 := congrArg List.length hts2
    rw [List.length_map] at h1
    rw [hm, h1]
    unfold withId
    split
    · simp
    · rw [List.length_map]
      have := HLH.out
      omega
  have hcs : ∀ t ∈ ts2, t.cs.length ≤ 101 := fun t ht => by
    have h1 : t.cs.map (·.1) ∈ withId hss l := by rw [← hts2]; exact List.mem_map.2 ⟨t, ht, rfl⟩
    have h2 : (t.cs.map (·.1)).length ≤ 101 := by
      unfold withId at h1
      split at h1
      · rw [List.mem_singleton] at h1; rw [h1]; simp
      · obtain ⟨hs, h3, h4⟩ := List.mem_map.1 h1
        rw [← h4]
        have := HL.out hs h3
        simp
        omega
    rwa [List.length_map] at h2
  obtain ⟨A2, c2, rfl⟩ := own_slice ho2
  have HO2 := Lib.hid ho2
  have HTR2 := Lib.hid htr2
  have HTS2 := Lib.hid hts2
  have HM := Lib.hid hm
  have HCS := Lib.hid hcs
  have HB2 := Lib.hid (HB1.out.trans (hb2.mono HB1.out.size))
  clear ho2 htr2 hts2 hm hcs hb2
  go_wp2_with fail
  go_loopw [7, 20] (fun v i wr => ∃ k : Nat, k ≤ m ∧ i = .int .i64 k ∧ ∃ qs : List Part, qs.map (·.l) = (ts2.take k).map (fun t => compBytes t.cs) ∧ wr.ownsRow w2.heap.size 23 1 v k (partCells qs) ∧ TBs wr qs ∧ Below w2.heap.size w2 wr) (fun _ i _ => m - (intOf i).toNat)
  case atStart => exact ⟨0, by omega, rfl, [], rfl, World.ownsRow_nil _ _ _ _, fun x hx => by simp at hx, Below.refl _ _⟩
  case round =>
    obtain ⟨k, hk, rfl, qs, hqs, hown, htb, hb⟩ := hrel
    have HQ := Lib.hid hqs
    have HO := Lib.hid hown
    have HTB := Lib.hid htb
    have HB := Lib.hid hb
    clear hqs hown htb hb
    by_cases hlt : k < m
    · have hlt' : k < ts2.length := by rw [← HM.out]; exact hlt
      obtain ⟨ad, eA, _, hcell⟩ := (Reads.of_own HO2.out).2 (by omega)
      obtain rfl := eA
      have hck := hcell k (ts2[k]).v (by simp [trCells, hlt'])
      have c5 : wr.cell? (ad.add k) = some (ts2[k]).v := (HB.out.cell (World.block_lt_of_cell? _ _ hck)).trans hck
      have htk : ts2.take (k + 1) = ts2.take k ++ [ts2[k]] := List.take_succ_eq_append_getElem hlt'
      have hto := (HTR2.out _ (List.getElem_mem hlt')).below HB.out
      have hcl := HCS.out _ (List.getElem_mem hlt')
      generalize ts2[k] = t at *
      obtain ⟨g, cg, cs⟩ := t
      have HBY := Lib.hid (bytes_any g cs.length cg cs wr hto.ms (by have : cs.length ≤ 101 := hcl; omega))
      have hM1 : (compBytes cs).length ≤ 10000 := by have := compBytes_le cs; have : cs.length ≤ 101 := hcl; omega
      have HTK := Lib.hid (show (ts2.take (k + 1)).map (fun t => compBytes t.cs) = (ts2.take k).map (fun t => compBytes t.cs) ++ [compBytes cs] by rw [htk, List.map_append]; rfl)
      obtain ⟨M, hM⟩ : ∃ M, M = compBytes cs := ⟨_, rfl⟩
      rw [← hM] at HBY hM1 HTK
      unfold Tr.v at c5
      clear hck hcell htk hto hcl hM hlt'
      go_wp2_with fail
      refine HBY.out.mono ?_
      rintro e w4 ⟨A4, c4, rfl, hr4, hb4⟩
      have HC4 := Lib.hid (clone_tb A4 _ c4 M w4 hr4 (by omega))
      have HB4 := Lib.hid hb4
      clear hr4 hb4
      go_wp2_with fail
      refine HC4.out.mono ?_
      rintro e w5 ⟨A5, c5', rfl, htb5, hb5⟩
      have hbq := (Below.refl _ w5).alloc (Nat.le_refl _) (.cells #[.slice A5 M.length c5'] 23)
      have hbw := (HB4.out.trans (hb5.mono HB4.out.size)).trans (hbq.mono (Nat.le_trans HB4.out.size hb5.size))
      have HBQ := Lib.hid hbw
      have HTQ := Lib.hid (htb5.below hbq)
      have HOO := Lib.hid (own_below HO.out hbw)
      have HRN := Lib.hid (reads_new w5 #[.slice A5 M.length c5'] 23 1 1 rfl)
      clear htb5 hb5 hbq hbw
      go_wp2_with (at_builtin; go_loud (refine wpList_append_any _ rfl _ _ _ rfl w2.heap.size 23 j0 _ 1 24 Tryz.underlying40 hj0 jz0 jz1 jz2 rfl (by decide) _ _ _ rfl HOO.out _ _ 1 1 _ rfl HRN.out ?c0 ?c1 ?c2 ?c3 ?_))
      case c0 => intro u hu; simp at hu; subst hu; rfl
      case c1 => unfold maxLen; omega
      case c2 => omega
      case c3 => exact Nat.le_trans HB.out.size HBQ.out.size
      intro v' w' hown hgrow _hat
      have HBF := Lib.hid ((HB.out.trans (HBQ.out.mono HB.out.size)).grown hgrow (Nat.le_trans HB.out.size HBQ.out.size) (fun g hg => (HOO.out.lt g hg).1))
      have htf : TBs w' (qs ++ [⟨A5, M.length, c5', M⟩]) := TBs.snoc (fun x hx => (((HTB.out x hx).below HBQ.out).grown HOO.out (by decide) hgrow)) (HTQ.out.grown HOO.out (by decide) hgrow)
      have hof : w'.ownsRow w2.heap.size 23 1 v' (k + 1) (partCells (qs ++ [⟨A5, M.length, c5', M⟩])) := by
        rw [partCells_snoc]
        exact hown
      have HOF := Lib.hid hof
      have HTF := Lib.hid htf
      clear hown hgrow _hat hof htf
      go_wp2_with fail
      go_roundw
      case rel => exact ⟨k + 1, by omega, by go_num, qs ++ [⟨A5, M.length, c5', M⟩], by rw [List.map_append, HQ.out, HTK.out]; rfl, HOF.out, HTF.out, HBF.out⟩
      case measure => simp [intOf]; omega
    · obtain rfl : k = m := by omega
      obtain ⟨A7, c7, hv7⟩ := own_slice HO.out
      have HV7 := Lib.hid hv7
      have hq2 := HQ.out
      rw [List.take_of_length_le (by rw [← HM.out]; exact Nat.le_refl _)] at hq2
      have HQ2 := Lib.hid hq2
      clear hq2 hv7
      go_wp2_with fail
      go_ret2
      have ho7 := HO.out
      rw [HV7.out] at ho7 ⊢
      refine ⟨A7, k, c7, qs, rfl, LS.of_own ho7 HTB.out, ?_, HB2.out.trans (HB.out.mono HB2.out.size)⟩
      rw [HQ2.out, ← HTS2.out, List.map_map]
      rfl
end Go.Proofs.YtllofneeodnllaaGreatDoor

/- spec.AddrBytes: each address with the ID behind it. No condition beyond. -/
namespace Go.Proofs.YtllofneeodnllaaGreatDoor
open Go.RowKit
variable {K : Nat}
attribute [local go_sem ↓] Go.wp_at_zero Go.wp_at_succ
/-- A row of byte strings in memory of the call's own. -/
def OutLists (R : List (List UInt8)) (w : World) (e : Ending) (w' : World) : Prop := ∃ A' m c' qs, e = .returned (.slice A' m c') ∧ LS w' w'.heap.size A' m c' qs ∧ qs.map (·.l) = R ∧ Below w.heap.size w w'
theorem concat3 (p q r : Part) (w : World) (hp : RB w w.heap.size p.A p.n p.c p.l) (hq : RB w w.heap.size q.A q.n q.c q.l) (hr : RB w w.heap.size r.A r.n r.c r.l) (hs : p.n + q.n + r.n ≤ 1000000) :
    Calls Tryz.prog 30 #[.slice (some ⟨w.heap.size, 0, none⟩) 3 3] (w.alloc (.cells #[.slice p.A p.n p.c, .slice q.A q.n q.c, .slice r.A r.n r.c] 23)) (OwnB (p.l ++ q.l ++ r.l) (w.alloc (.cells #[.slice p.A p.n p.c, .slice q.A q.n q.c, .slice r.A r.n r.c] 23))) := by
  have hb := (Below.refl _ w).alloc (Nat.le_refl _) (.cells #[.slice p.A p.n p.c, .slice q.A q.n q.c, .slice r.A r.n r.c] 23)
  have h := concat_any [p, q, r] w.heap.size 3 (w.alloc (.cells #[.slice p.A p.n p.c, .slice q.A q.n q.c, .slice r.A r.n r.c] 23)) (fun k hk => by
    rw [cell_new1]
    match k, hk with | 0, _ => rfl | 1, _ => rfl | 2, _ => rfl) (by simp) (by simp) (fun x hx => by
    simp at hx
    rcases hx with rfl | rfl | rfl
    · exact hp.next hb
    · exact hq.next hb
    · exact hr.next hb) (by simp [partsSize]; omega)
  rw [show partsBytes [p, q, r] = p.l ++ q.l ++ r.l by simp [partsBytes]] at h
  exact h
theorem concat2 (p q : Part) (w : World) (hp : RB w w.heap.size p.A p.n p.c p.l) (hq : RB w w.heap.size q.A q.n q.c q.l) (hs : p.n + q.n ≤ 1000000) :
    Calls Tryz.prog 30 #[.slice (some ⟨w.heap.size, 0, none⟩) 2 2] (w.alloc (.cells #[.slice p.A p.n p.c, .slice q.A q.n q.c] 23)) (OwnB (p.l ++ q.l) (w.alloc (.cells #[.slice p.A p.n p.c, .slice q.A q.n q.c] 23))) := by
  have hb := (Below.refl _ w).alloc (Nat.le_refl _) (.cells #[.slice p.A p.n p.c, .slice q.A q.n q.c] 23)
  have h := concat_any [p, q] w.heap.size 2 (w.alloc (.cells #[.slice p.A p.n p.c, .slice q.A q.n q.c] 23)) (fun k hk => by
    rw [cell_new1]
    match k, hk with | 0, _ => rfl | 1, _ => rfl) (by simp) (by simp) (fun x hx => by
    simp at hx
    rcases hx with rfl | rfl
    · exact hp.next hb
    · exact hq.next hb) (by simp [partsSize]; omega)
  rw [show partsBytes [p, q] = p.l ++ q.l by simp [partsBytes]] at h
  exact h
set_option maxRecDepth 100000 in
set_option maxHeartbeats 4000000 in
theorem specbytes_x (R : List (List UInt8)) (p : Part) (A : Option Addr) (n c : Nat) (ps : List Part) (w : World) (h : RB w w.heap.size p.A p.n p.c p.l) (hl : LS w w.heap.size A n c ps) (hp : p.l.length ≤ 44) (hps : ∀ x ∈ ps, x.l.length ≤ 10000) (hn : n ≤ 100)
    (hR0 : ps = [] → R = [[165, 3] ++ [UInt8.ofNat p.l.length] ++ p.l]) (hR1 : ps ≠ [] → R = ps.map (fun x => x.l ++ ([165, 3] ++ [UInt8.ofNat p.l.length] ++ p.l))) :
    Calls Tryz.prog 21 #[.agg #[.slice p.A p.n p.c, .slice A n c]] w (OutLists R w) := by
  obtain ⟨j0, hj0, jz0, jz1, jz2⟩ := info_parts aslice_info
  have hpn := h.len
  obtain ⟨w0, hw0⟩ : ∃ w0, w0 = w.alloc (.cells #[.slice p.A p.n p.c, .slice A n c] 43) := ⟨_, rfl⟩
  have hs0 : w0.heap.size = w.heap.size + 1 := by rw [hw0, World.size_alloc]
  have hb0 : Below w.heap.size w w0 := by rw [hw0]; exact (Below.refl _ w).alloc (Nat.le_refl _) _
  have hk0 : Blk w0 w.heap.size 43 #[.slice p.A p.n p.c, .slice A n c] := by rw [hw0]; exact Blk.new _ _ _
  have c0 : w0.cell? ⟨w.heap.size, 0, none⟩ = some (.slice p.A p.n p.c) := hk0.cell 0
  have HR := Lib.hid ((h.below hb0).more hb0.size)
  have HL := Lib.hid ((hl.below hb0).more hb0.size)
  have HLL := Lib.hid hl.len
  have HB0 := Lib.hid hb0
  have HK0 := Lib.hid hk0
  have HW0 := Lib.hid hw0
  have HPS := Lib.hid hps
  have HPN := Lib.hid hpn
  have HR0 := Lib.hid hR0
  have HR1 := Lib.hid hR1
  have hp' : p.n ≤ 44 := by omega
  clear h hl hb0 hk0 hw0 hps hpn hp hR0 hR1
  go_enter Tryz.func21, Tryz.ntmps21
  go_wp2_with fail
  rw [← HW0.out]
  go_region_held3 (fun w' => Below w0.heap.size w0 w' ∧ w'.cell? ⟨w.heap.size, 0, none⟩ = some (.slice p.A p.n p.c))
    (first | exact ⟨(Below.refl _ _).drew, c0⟩ | exact keep1 ((Below.refl _ _).alloc (Nat.le_refl _) _) hS5 | with_reducible assumption)
    (first
      | (go_at_call_of 35 (Value.int .i64 421); have hS1 := ‹RowKit.Below w0.heap.size w0 _ ∧ _›; refine (number_421 _).mono ?_; rintro e w4 ⟨v4, rfl, ho4, hb4⟩; obtain ⟨A4, c4, rfl⟩ := own_slice ho4; have hS4 := keep1 hb4 hS1; clear hS1)
      | (go_at_call_of 35 (p.n : Int); have hS1 := ‹RowKit.Below w0.heap.size w0 _ ∧ _›; refine (number_small p.n _ (by omega)).mono ?_; rintro e w5 ⟨v5, rfl, ho5, hb5⟩; obtain ⟨A5, c5, rfl⟩ := own_slice ho5; have hS5 := keep1 hb5 hS1; clear hS1)
      | (go_at_call 30; refine (concat3 ⟨A4, 2, c4, [165, 3]⟩ ⟨A5, 1, c5, [UInt8.ofNat p.n]⟩ p w5 ((RB.of_own ho4).next hb5) (RB.of_own ho5) ((HR.out.below hS5.1).more hS5.1.size) (by simp; omega)).mono ?_; rintro e w6 ⟨v6, rfl, ho6, hb6⟩; have hS6 := keep1 hb6 (keep1 ((Below.refl _ _).alloc (Nat.le_refl _) _) hS5)))
  have hb6' : Below w0.heap.size w0 w6 := hS6.1
  have c1 : w6.cell? ⟨w.heap.size, 1, none⟩ = some (.slice A n c) := (HK0.out.below hb6' HK0.out.lt).cell 1
  obtain ⟨A6, c6, rfl⟩ := own_slice ho6
  have htb := TB.of_own ho6
  obtain ⟨T, hT⟩ : ∃ T, T = [165, 3] ++ [UInt8.ofNat p.n] ++ p.l := ⟨_, rfl⟩
  have hTl : T.length ≤ 50 := by rw [hT]; simp; have := HPN.out; omega
  have HTq := Lib.hid (show [165, 3] ++ [UInt8.ofNat p.l.length] ++ p.l = T by rw [hT, HPN.out])
  simp only [← hT] at htb ⊢
  have HTB6 := Lib.hid htb
  have HB6 := Lib.hid (HB0.out.trans (hb6'.mono HB0.out.size))
  have HL6 := Lib.hid ((HL.out.below hb6').more hb6'.size)
  clear c0 ho4 ho5 hb4 hb5 hS4 hS5 hS6 ho6 hb6 hb6' htb hT
  by_cases hn0 : n = 0
  · subst hn0
    have HOW := Lib.hid (World.ownsRow_lit (base := w.heap.size) (e := 23) (size := 1) w6 #[.slice A6 T.length c6] 1 HB6.out.size (by simp [maxLen]) rfl)
    have hba := (Below.refl _ w6).alloc (Nat.le_refl _) (.cells #[.slice A6 T.length c6] 23)
    have HTB7 := Lib.hid (HTB6.out.below hba)
    have HB7 := Lib.hid (HB6.out.trans (hba.mono HB6.out.size))
    clear hba
    go_wp2_with fail
    go_ret
    have h0 : ps = [] := List.eq_nil_of_length_eq_zero HLL.out
    refine ⟨_, 1, _, [⟨A6, T.length, c6, T⟩], rfl, LS.of_own HOW.out (fun x hx => ?_), ?_, HB7.out⟩
    · rw [List.mem_singleton] at hx
      subst hx
      exact HTB7.out
    · rw [HR0.out h0, HTq.out]; rfl
  · have hnz : ((n : Int) == 0) = false := by simp; omega
    go_wp2_with fail
    go_loopw [4, 25] (fun v i wr => ∃ k : Nat, k ≤ n ∧ i = .int .i64 k ∧ ∃ qs : List Part, qs.map (·.l) = (ps.take k).map (fun x => x.l ++ T) ∧ wr.ownsRow w6.heap.size 23 1 v k (partCells qs) ∧ TBs wr qs ∧ Below w6.heap.size w6 wr) (fun _ i _ => n - (intOf i).toNat)
    case atStart => exact ⟨0, by omega, rfl, [], rfl, World.ownsRow_nil _ _ _ _, fun x hx => by simp at hx, Below.refl _ _⟩
    case round =>
      obtain ⟨k, hk, rfl, qs, hqs, hown, htb, hb⟩ := hrel
      have HQ := Lib.hid hqs
      have HO := Lib.hid hown
      have HTB := Lib.hid htb
      have HB := Lib.hid hb
      clear hqs hown htb hb
      by_cases hlt : k < n
      · have hlt' : k < ps.length := by rw [HLL.out]; exact hlt
        obtain ⟨ad, eA, hbk, c5, hr5⟩ := (HL6.out.below HB.out).at_ k hlt'
        obtain rfl := eA
        have htk : ps.take (k + 1) = ps.take k ++ [ps[k]] := List.take_succ_eq_append_getElem hlt'
        have hle := HPS.out _ (List.getElem_mem hlt')
        have hrl := hr5.len
        generalize ps[k] = x at *
        have HC := Lib.hid (concat2 x ⟨A6, T.length, c6, T⟩ wr (hr5.more HB.out.size) ((HTB6.out.below HB.out).rb) (by simp; omega))
        have hba := (Below.refl _ wr).alloc (Nat.le_refl _) (.cells #[.slice x.A x.n x.c, .slice A6 T.length c6] 23)
        have HBA := Lib.hid hba
        have HTK := Lib.hid (show (ps.take (k + 1)).map (fun x => x.l ++ T) = (ps.take k).map (fun x => x.l ++ T) ++ [x.l ++ T] by rw [htk, List.map_append]; rfl)
        obtain ⟨M, hM⟩ : ∃ M, M = x.l ++ T := ⟨_, rfl⟩
        have hM1 : M.length ≤ 20000 := by rw [hM, List.length_append]; omega
        rw [← hM] at HTK
        simp only [← hM] at HC
        unfold Part.v at c5
        clear htk hle hr5 hrl hba hM hlt'
        go_wp2_with fail
        refine HC.out.mono ?_
        rintro e w7 ⟨v7, rfl, ho7, hb7⟩
        obtain ⟨A7, c7, rfl⟩ := own_slice ho7
        have htb7 := TB.of_own ho7
        have hbq := (Below.refl _ w7).alloc (Nat.le_refl _) (.cells #[.slice A7 M.length c7] 23)
        have hbw := (HBA.out.trans (hb7.mono HBA.out.size)).trans (hbq.mono (Nat.le_trans HBA.out.size hb7.size))
        have HBQ := Lib.hid hbw
        have HTQ := Lib.hid (htb7.below hbq)
        have HOO := Lib.hid (own_below HO.out hbw)
        have HRN := Lib.hid (reads_new w7 #[.slice A7 M.length c7] 23 1 1 rfl)
        clear ho7 htb7 hb7 hbq hbw
        go_wp2_with (at_builtin; go_loud (refine wpList_append_any _ rfl _ _ _ rfl w6.heap.size 23 j0 _ 1 24 Tryz.underlying40 hj0 jz0 jz1 jz2 rfl (by decide) _ _ _ rfl HOO.out _ _ 1 1 _ rfl HRN.out ?c0 ?c1 ?c2 ?c3 ?_))
        case c0 => intro u hu; simp at hu; subst hu; rfl
        case c1 => unfold maxLen; omega
        case c2 => omega
        case c3 => exact Nat.le_trans HB.out.size HBQ.out.size
        intro v' w' hown hgrow _hat
        have HBF := Lib.hid ((HB.out.trans (HBQ.out.mono HB.out.size)).grown hgrow (Nat.le_trans HB.out.size HBQ.out.size) (fun g hg => (HOO.out.lt g hg).1))
        have htf : TBs w' (qs ++ [⟨A7, M.length, c7, M⟩]) := TBs.snoc (fun x hx => (((HTB.out x hx).below HBQ.out).grown HOO.out (by decide) hgrow)) (HTQ.out.grown HOO.out (by decide) hgrow)
        have hof : w'.ownsRow w6.heap.size 23 1 v' (k + 1) (partCells (qs ++ [⟨A7, M.length, c7, M⟩])) := by
          rw [partCells_snoc]
          exact hown
        have HOF := Lib.hid hof
        have HTF := Lib.hid htf
        clear hown hgrow _hat hof htf
        go_wp2_with fail
        go_roundw
        case rel => exact ⟨k + 1, by omega, by go_num, qs ++ [⟨A7, M.length, c7, M⟩], by rw [List.map_append, HQ.out, HTK.out]; rfl, HOF.out, HTF.out, HBF.out⟩
        case measure => simp [intOf]; omega
      · obtain rfl : k = n := by omega
        have hq2 := HQ.out
        rw [List.take_of_length_le (by rw [HLL.out]; exact Nat.le_refl _)] at hq2
        have HQ2 := Lib.hid hq2
        obtain ⟨A8, c8, hv8⟩ := own_slice HO.out
        have HV8 := Lib.hid hv8
        clear hq2 hv8
        go_wp2_with fail
        go_ret
        have ho8 := HO.out
        rw [HV8.out] at ho8 ⊢
        have hne : ps ≠ [] := fun e => hn0 (by rw [← HLL.out, e]; rfl)
        refine ⟨A8, k, c8, qs, rfl, LS.of_own ho8 HTB.out, ?_, HB6.out.trans (HB.out.mono HB6.out.size)⟩
        rw [HQ2.out, HR1.out hne, HTq.out]
end Go.Proofs.YtllofneeodnllaaGreatDoor
