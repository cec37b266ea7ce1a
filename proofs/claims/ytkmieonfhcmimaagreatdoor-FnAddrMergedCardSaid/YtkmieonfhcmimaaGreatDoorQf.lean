/- impl.AddrIDs at peers without addresses: their IDs in their order. -/
import Derived.Test.YtkmieonfhcmimaaGreatDoorHh
namespace Go.Proofs.YtkmieonfhcmimaaGreatDoor
open Go.RowKit
attribute [local go_sem ↓] Go.wp_at_zero Go.wp_at_succ
theorem peer_info : (Tryz.prog.info? 66).map (fun i => (i.zero, i.size, i.bytes)) = some (some (.agg #[.string ⟨#[]⟩, .slice none 0 0]), 2, 40) := by kernel_rfl
theorem iinfo_info : (Tryz.prog.info? 44).map (fun i => (i.zero, i.size, i.bytes)) = some (some (.agg #[.slice none 0 0, .slice none 0 0]), 2, 48) := by kernel_rfl
theorem id_info : (Tryz.prog.info? 64).map (fun i => (i.zero, i.size, i.bytes)) = some (some (.string ⟨#[]⟩), 1, 16) := by kernel_rfl
theorem strRow_get (ls : List (List UInt8)) (k : Nat) (hk : k < ls.length) : (strRow ls k)[k]? = some (strV []) := by
  unfold strRow
  have hl : ((ls.take k).map strV).length = k := by simp; omega
  rw [List.getElem?_append_right (by omega), hl, Nat.sub_self, show ls.length - k = (ls.length - (k + 1)) + 1 by omega, List.replicate_succ]
  rfl
set_option maxRecDepth 100000 in
set_option maxHeartbeats 2000000 in
theorem infoof_any (p : Part) (w : World) (h : RB w w.heap.size p.A p.n p.c p.l) : Calls Tryz.prog 34 #[.agg #[.slice p.A p.n p.c, .slice none 0 0]] w fun e w' =>
    e = .returned (.agg #[.string ⟨p.l.toArray⟩, .slice none 0 0]) ∧ Below w.heap.size w w' := by
  obtain ⟨w0, hw0⟩ : ∃ w0, w0 = (w.alloc (.cells #[.slice p.A p.n p.c, .slice none 0 0] 44)).alloc (.cells #[.string ⟨#[]⟩, .slice none 0 0] 66) := ⟨_, rfl⟩
  have hb0 : Below w.heap.size w w0 := by rw [hw0]; exact ((Below.refl _ w).alloc (Nat.le_refl _) _).alloc (by simp) _
  have hk0 : Blk w0 w.heap.size 44 #[.slice p.A p.n p.c, .slice none 0 0] := by rw [hw0]; exact (Blk.new w _ _).alloc _
  have hk1 : Blk w0 (w.heap.size + 1) 66 #[.string ⟨#[]⟩, .slice none 0 0] := by rw [hw0]; exact Blk.new_ (by simp) _ _
  have hs0 : w0.heap.size = w.heap.size + 1 + 1 := by rw [hw0]; simp
  have cvt := run_convert_RB (h.next hb0) 32 5 Tryz.underlying32 Tryz.underlying5 64 Tryz.underlying64
  have c1 : w0.cell? ⟨w.heap.size, 1, none⟩ = some (.slice none 0 0) := hk0.cell 1
  have lt0 : w.heap.size < w0.heap.size := hk0.lt
  obtain ⟨w6, hw6⟩ : ∃ w6, w6 = w0.alloc (.cells #[.string ⟨p.l.toArray⟩, .slice none 0 0] 66) := ⟨_, rfl⟩
  have hn6 : Blk w6 w0.heap.size 66 #[.string ⟨p.l.toArray⟩, .slice none 0 0] := by rw [hw6]; exact Blk.new _ _ _
  have hb6 : Below w0.heap.size w0 w6 := by rw [hw6]; exact (Below.refl _ w0).alloc (Nat.le_refl _) _
  rw [hs0] at hn6
  have HB6 := Lib.hid (hb0.trans (hb6.mono hb0.size))
  have HK6 := Lib.hid (hk1.below hb6 hk1.lt)
  have HN6 := Lib.hid hn6
  have HW6 := Lib.hid hw6
  have HW0 := Lib.hid hw0
  rw [hw0] at cvt
  rw [hw0] at c1
  clear hb0 hk0 hk1 hw0 hn6 hb6 hw6 hs0 h lt0
  go_enter Tryz.func34, Tryz.ntmps34
  go_wp2_with fail
  rw [← HW0.out, ← HW6.out]
  go_loopw [15] (fun i wr => i = .int .i64 0 ∧ wr = w6) (fun _ _ => 0)
  case atStart => exact ⟨rfl, rfl⟩
  case round =>
    obtain ⟨rfl, rfl⟩ := hrel
    have d0 := HN6.out.cell 0
    have d1 := HN6.out.cell 1
    have e0 := HK6.out.cell 0
    have e1 := HK6.out.cell 1
    have f0 := HK6.out.frozen 0
    have f1 := HK6.out.frozen 1
    go_wp2_with fail
    have hst := (HK6.out.set_ 0 (.string ⟨p.l.toArray⟩)).set_ 1 (.slice none 0 0)
    refine bodyPost_ret (results_cell_row rfl _ _ (w.heap.size + 1) 66 #[.string ⟨p.l.toArray⟩, .slice none 0 0] (0, 0) _ rfl hst Tryz.underlying66 rfl (pinfo_size.trans rfl)) rfl ?_
    exact ⟨rfl, (HB6.out.setCell (p := ⟨w.heap.size + 1, 0, none⟩) (Nat.le_succ _) _).setCell (p := ⟨w.heap.size + 1, 1, none⟩) (Nat.le_succ _) _⟩
set_option maxRecDepth 100000 in
set_option maxHeartbeats 2000000 in
theorem toids_any (ls : List (List UInt8)) (A : Option Addr) (n c : Nat) (w : World) (h : Reads w w.heap.size 2 A n (infoCells ls)) (hl : ls.length = n) (hn : n ≤ 1000) (hc : n ≤ c) (_hm : c ≤ maxLen) : Calls Tryz.prog 35 #[.slice A n c] w fun e w' =>
    ∃ g, e = .returned (.slice (some ⟨g, 0, none⟩) n n) ∧ Blk w' g 64 (ls.map strV).toArray ∧ Below w.heap.size w w' := by
  obtain ⟨i0, hi0, hz0, hz1, hz2⟩ := info_parts id_info
  have hmc : madeCells (Value.string ⟨#[]⟩).cells (n * i0.size) = (strRow ls 0).toArray := by
    apply Array.ext'
    rw [hz1, Nat.mul_one]
    show (madeCells #[Value.string ⟨#[]⟩] n).toList = _
    rw [toList_madeCells_one]
    simp [strRow, strV, hl]
  have hmk := fun W : World => run_make_rowN (P := Tryz.prog) 76 64 i0 _ Tryz.underlying76 hi0 hz0 .i64 .i64 n n (Nat.le_refl _) (by rw [hz2]; omega) (by omega) W
  simp only [hmc] at hmk
  obtain ⟨w0, hw0⟩ : ∃ w0, w0 = w.alloc (.cells (strRow ls 0).toArray 64) := ⟨_, rfl⟩
  have HK0 := Lib.hid (show Blk w0 w.heap.size 64 (strRow ls 0).toArray by rw [hw0]; exact Blk.new _ _ _)
  have HB0 := Lib.hid (show Below w.heap.size w w0 by rw [hw0]; exact (Below.refl _ w).alloc (Nat.le_refl _) _)
  have HW0 := Lib.hid hw0
  have HH := Lib.hid h
  have HL := Lib.hid hl
  clear h hi0 hz0 hz1 hz2 hmc hw0 hl
  go_enter Tryz.func35, Tryz.ntmps35
  go_wp2_with fail
  rw [← HW0.out]
  go_loopw [11] (fun i wr => ∃ k : Nat, k ≤ n ∧ i = .int .i64 k ∧ Blk wr w.heap.size 64 (strRow ls k).toArray ∧ Below w.heap.size w wr) (fun i _ => n - (intOf i).toNat)
  case atStart => exact ⟨0, by omega, rfl, HK0.out, HB0.out⟩
  case round =>
    obtain ⟨k, hk, rfl, hkb, hb⟩ := hrel
    have HKB := Lib.hid hkb
    have HB := Lib.hid hb
    by_cases hlt : k < n
    · have hlt' : k < ls.length := by rw [HL.out]; exact hlt
      obtain ⟨ad, rfl, hbk, hcell⟩ := (HH.out.below HB.out).2 (by omega)
      have hg := infoCells_get ls k hlt'
      have c0 := hcell _ _ hg.1
      have c1 := hcell _ _ hg.2
      rw [add_succ _ _ 1 (by decide)] at c1
      have hset := strRow_set ls k hlt'
      have hX : strV ls[k] = .string ⟨ls[k].toArray⟩ := rfl
      rw [hX] at c0 hset
      generalize ls[k] = X at *
      have hkw := hkb.alloc (.cells #[.string ⟨X.toArray⟩, .slice none 0 0] 66)
      have d0 : (wr.alloc (.cells #[.string ⟨X.toArray⟩, .slice none 0 0] 66)).cell? ⟨w.heap.size, k, none⟩ = some (.string ⟨#[]⟩) := by
        rw [hkw.cell k]
        have := strRow_get ls k hlt'
        simpa [strV] using this
      have f0 := hkw.frozen k
      have HST := Lib.hid (hkw.set_ k (.string ⟨X.toArray⟩))
      have HSET := Lib.hid hset
      have hbk2 : ad.block < wr.heap.size := Nat.lt_of_lt_of_le hbk hb.size
      clear hkb hb hcell hg hX hset hkw hlt'
      go_wp2_with fail
      refine ⟨⟨k + 1, by omega, by go_num, ?_, (HB.out.alloc HB.out.size _).setCell (p := ⟨w.heap.size, k, none⟩) (Nat.le_refl _) _⟩, by simp [intOf]; omega⟩
      have := HST.out
      rw [List.setIfInBounds_toArray, HSET.out] at this
      exact this
    · obtain rfl : k = n := by omega
      have hall := strRow_all ls
      rw [HL.out] at hall
      rw [hall] at hkb
      have HF := Lib.hid hkb
      clear hkb hb hall HKB
      go_wp2_with fail
      go_ret
      exact ⟨_, rfl, HF.out, HB.out⟩
/-- The bytes of the first k parts. -/
def idsTo (ps : List Part) (k : Nat) : List (List UInt8) := (ps.take k).map (·.l)
theorem idsTo_snoc (ps : List Part) (k : Nat) (hk : k < ps.length) : idsTo ps (k + 1) = idsTo ps k ++ [(ps[k]).l] := by
  unfold idsTo
  rw [List.take_succ_eq_append_getElem hk, List.map_append]
  rfl
theorem idsTo_all (ps : List Part) (k : Nat) (hk : ps.length = k) : idsTo ps k = ps.map (·.l) := by
  unfold idsTo
  rw [← hk, List.take_length]
set_option maxRecDepth 100000 in
set_option maxHeartbeats 2000000 in
theorem addrids_any (ps : List Part) (A : Option Addr) (n c : Nat) (w : World) (h : Reads w w.heap.size 2 A n (peerCells ps)) (hp : TBs w ps) (hl : ps.length = n) (hn : n ≤ 1000) (hlen : ∀ p ∈ ps, p.l.length ≤ 1000) : Calls Tryz.prog 16 #[.slice A n c] w fun e w' =>
    ∃ A' c' qs, e = .returned (.slice A' n c') ∧ LS w' w'.heap.size A' n c' qs ∧ qs.map (·.l) = ps.map (·.l) ∧ Below w.heap.size w w' := by
  obtain ⟨i0, hi0, hz0, hz1, hz2⟩ := info_parts peer_info
  have HH := Lib.hid h
  have HP := Lib.hid hp
  have HL := Lib.hid hl
  have HLE := Lib.hid hlen
  clear h hp hl hlen
  go_enter Tryz.func16, Tryz.ntmps16
  go_wp2_with fail
  go_loopw [3, 11] (fun v i wr => ∃ k : Nat, k ≤ n ∧ i = .int .i64 k ∧ wr.ownsRow w.heap.size 66 2 v k (infoCells (idsTo ps k)) ∧ Below w.heap.size w wr) (fun _ i _ => n - (intOf i).toNat)
  case atStart => exact ⟨0, by omega, rfl, World.ownsRow_nil _ _ _ _, Below.refl _ _⟩
  case round =>
    obtain ⟨k, hk, rfl, hown, hb⟩ := hrel
    have HO := Lib.hid hown
    have HB := Lib.hid hb
    clear hown hb
    by_cases hlt : k < n
    · have hlt' : k < ps.length := by rw [HL.out]; exact hlt
      obtain ⟨ad, rfl, hbk, hcell⟩ := (HH.out.below HB.out).2 (by omega)
      have hg := peerCells_get ps k hlt'
      have c0 := hcell _ _ hg.1
      have c1 := hcell _ _ hg.2
      rw [add_succ _ _ 1 (by decide)] at c1
      have htk := idsTo_snoc ps k hlt'
      have hpk := HP.out _ (List.getElem_mem hlt')
      generalize ps[k] = p at *
      unfold Part.v at c0
      have hbk2 : ad.block < wr.heap.size := Nat.lt_of_lt_of_le hbk HB.out.size
      have HBW := Lib.hid (HB.out.alloc HB.out.size (.cells #[.slice p.A p.n p.c, .slice none 0 0] 44))
      have HIN := Lib.hid (infoof_any p (wr.alloc (.cells #[.slice p.A p.n p.c, .slice none 0 0] 44)) ((hpk.rb.below HBW.out).more HBW.out.size))
      have HTK := Lib.hid htk
      clear hcell hg htk hpk hlt'
      go_wp2_with fail
      refine HIN.out.mono ?_
      rintro e w3 ⟨rfl, hb3⟩
      have HB3 := Lib.hid (HBW.out.trans (hb3.mono HBW.out.size))
      have hb3w : Below wr.heap.size wr w3 := ((Below.refl _ wr).alloc (Nat.le_refl _) (.cells #[.slice p.A p.n p.c, .slice none 0 0] 44)).trans (hb3.mono (by simp))
      have hbq := ((Below.refl _ w3).alloc (Nat.le_refl _) (.cells #[.string ⟨p.l.toArray⟩, .slice none 0 0] 66))
      have HOO := Lib.hid (own_below HO.out (hb3w.trans (hbq.mono hb3w.size)))
      have HRN := Lib.hid (reads_new w3 #[.string ⟨p.l.toArray⟩, .slice none 0 0] 66 2 1 rfl)
      have HBQ := Lib.hid (HB3.out.trans (hbq.mono HB3.out.size))
      clear hb3 hb3w hbq
      go_wp2_with (at_builtin; refine wpList_append_any _ rfl (.tmp 15) (.tmp 18) _ rfl w.heap.size 66 i0 _ 2 40 Tryz.underlying59 hi0 hz0 hz1 hz2 rfl (by decide) _ _ _ rfl HOO.out _ _ 1 1 _ rfl HRN.out ?c0 ?c1 ?c2 ?c3 ?_)
      case c0 => intro u hu; simp at hu; rcases hu with rfl | rfl <;> rfl
      case c1 => unfold maxLen; omega
      case c2 => omega
      case c3 => exact HBQ.out.size
      intro v' w' hown hgrow _hat
      have HBF := Lib.hid (HBQ.out.grown hgrow HBQ.out.size (fun g hg => (HOO.out.lt g hg).1))
      have hof : w'.ownsRow w.heap.size 66 2 v' (k + 1) (infoCells (idsTo ps (k + 1))) := by
        rw [HTK.out, infoCells_snoc]
        exact hown
      have HOF := Lib.hid hof
      clear hown hgrow _hat hof
      go_wp2_with fail
      go_roundw
      case rel => exact ⟨k + 1, by omega, by go_num, HOF.out, HBF.out⟩
      case measure => simp [intOf]; omega
    · obtain rfl : k = n := by omega
      have htk := idsTo_all ps k HL.out
      rw [htk] at HO
      obtain ⟨A1, c1, rfl⟩ := own_slice HO.out
      have hcp := own_caps HO.out
      have HT := Lib.hid (toids_any (ps.map (·.l)) A1 k c1 wr (Reads.of_own HO.out) (by rw [List.length_map, HL.out]) hn hcp.1 hcp.2)
      clear htk hcp
      go_wp2_with fail
      refine HT.out.mono ?_
      rintro e w3 ⟨g, rfl, hkb, hb3⟩
      have HB3 := Lib.hid (HB.out.trans (hb3.mono HB.out.size))
      have HKB := Lib.hid hkb
      clear hkb hb3
      obtain ⟨j0, hj0, jz0, jz1, jz2⟩ := info_parts aslice_info
      go_wp2_with fail
      go_loopw [6, 24] (fun v j wq => ∃ m : Nat, m ≤ k ∧ j = .int .i64 m ∧ ∃ qs : List Part, qs.map (·.l) = idsTo ps m ∧ wq.ownsRow w3.heap.size 32 1 v m (partCells qs) ∧ TBs wq qs ∧ Below w3.heap.size w3 wq) (fun _ j _ => k - (intOf j).toNat)
      case atStart => exact ⟨0, by omega, rfl, [], rfl, World.ownsRow_nil _ _ _ _, fun x hx => by simp at hx, Below.refl _ _⟩
      case round =>
        obtain ⟨m, hm, rfl, qs, hqs, hown, htb, hb⟩ := hrel
        have HQ := Lib.hid hqs
        have HO2 := Lib.hid hown
        have HTB := Lib.hid htb
        have HB4 := Lib.hid hb
        clear hqs hown htb hb
        by_cases hlt : m < k
        · have hlt' : m < ps.length := by rw [HL.out]; exact hlt
          have hkm := HKB.out.below HB4.out HKB.out.lt
          have c0 : wr.cell? ⟨g, m, none⟩ = some (.string ⟨(ps[m]).l.toArray⟩) := by
            rw [hkm.cell m]
            simp [hlt', strV]
          have htk := idsTo_snoc ps m hlt'
          have hle := HLE.out _ (List.getElem_mem hlt')
          generalize (ps[m]).l = L at *
          obtain ⟨cc, w5, hcv, htb5, hb5, _⟩ := conv_id_tb wr L (by omega)
          have HTK := Lib.hid htk
          have HT5 := Lib.hid htb5
          have HB5 := Lib.hid hb5
          have hbq := (Below.refl _ w5).alloc (Nat.le_refl _) (.cells #[.slice (some ⟨wr.heap.size, 0, none⟩) L.length cc] 32)
          have HBQ := Lib.hid (hb5.trans (hbq.mono hb5.size))
          have HTQ := Lib.hid (htb5.below hbq)
          have HOO := Lib.hid (own_below HO2.out HBQ.out)
          have HRN := Lib.hid (reads_new w5 #[.slice (some ⟨wr.heap.size, 0, none⟩) L.length cc] 32 1 1 rfl)
          clear hkm htk htb5 hb5 hbq hlt' hle
          go_wp2_with (at_builtin; refine wpList_append_any _ rfl (.tmp 28) (.tmp 31) _ rfl w3.heap.size 32 j0 _ 1 24 Tryz.underlying29 hj0 jz0 jz1 jz2 rfl (by decide) _ _ _ rfl HOO.out _ _ 1 1 _ rfl HRN.out ?c0 ?c1 ?c2 ?c3 ?_)
          case c0 => rfl
          case c1 => unfold maxLen; omega
          case c2 => omega
          case c3 => exact Nat.le_trans HB4.out.size (by have := HBQ.out.size; simpa using this)
          intro v' w' hown hgrow _hat
          have HBF := Lib.hid ((HB4.out.trans (HBQ.out.mono HB4.out.size)).grown hgrow (Nat.le_trans HB4.out.size HBQ.out.size) (fun g hg => (HOO.out.lt g hg).1))
          have htf : TBs w' (qs ++ [⟨some ⟨wr.heap.size, 0, none⟩, L.length, cc, L⟩]) := TBs.snoc (fun x hx => (((HTB.out x hx).below HBQ.out).grown HOO.out (by decide) hgrow)) (HTQ.out.grown HOO.out (by decide) hgrow)
          have hof : w'.ownsRow w3.heap.size 32 1 v' (m + 1) (partCells (qs ++ [⟨some ⟨wr.heap.size, 0, none⟩, L.length, cc, L⟩])) := by
            rw [partCells_snoc]
            exact hown
          have HOF := Lib.hid hof
          have HTF := Lib.hid htf
          clear hown hgrow _hat hof htf
          go_wp2_with fail
          go_roundw
          case rel => exact ⟨m + 1, by omega, by go_num, qs ++ [⟨some ⟨wr.heap.size, 0, none⟩, L.length, cc, L⟩], by rw [List.map_append, HQ.out, HTK.out]; rfl, HOF.out, HTF.out, HBF.out⟩
          case measure => simp [intOf]; omega
        · obtain rfl : m = k := by omega
          have hq2 := HQ.out
          have htk2 := idsTo_all ps m HL.out
          rw [htk2] at hq2
          have HQ2 := Lib.hid hq2
          obtain ⟨A2, c2, rfl⟩ := own_slice HO2.out
          clear hq2 htk2
          go_wp2_with fail
          go_ret
          exact ⟨A2, c2, rfl, qs, LS.of_own HO2.out HTB.out, HQ2.out, HB3.out.trans (HB4.out.mono HB3.out.size)⟩
end Go.Proofs.YtkmieonfhcmimaaGreatDoor
