/- impl.infoOf at a peer with addresses: the ID, and the addresses read. No condition beyond. -/
import Derived.Test.YtkmieonfhcmimaaGreatDoorGt
import Derived.Test.YtkmieonfhcmimaaGreatDoorHh
import Derived.Test.YtkmieonfhcmimaaGreatDoorQf
namespace Go.Proofs.YtkmieonfhcmimaaGreatDoor
open Go.RowKit
variable {K : Nat}
attribute [local go_sem ↓] Go.wp_at_zero Go.wp_at_succ
theorem TrOk.second {w : World} {t : Tr} (h : TrOk w t) : ∃ q, w.cell? ⟨t.g, 1, none⟩ = some (.pointer q) := by
  obtain ⟨g, c, cs⟩ := t
  rcases cs with _ | ⟨x, cs⟩
  · exact absurd h.pos (by simp)
  · exact ⟨_, h.ms.cell 1 (.pointer (some ⟨x.2, 0, none⟩)) rfl⟩
theorem TrOk.far {w : World} {t : Tr} (h : TrOk w t) {g : Nat} {ty : TypeId} {cs : Array Value} (hb : Blk w g ty cs) (h0 : ∀ q, cs[1]? ≠ some (.pointer q)) (hty : 122 ≠ ty) (i : Nat) (u : Value) : TrOk (w.setCell ⟨g, i, none⟩ u) t := by
  refine h.kept (only_setCell (World.grownBy.refl w _) (.inl rfl) u) (fun e => ?_) (fun x hx e => ?_)
  · obtain ⟨s, hs⟩ := h.second
    injection e with e
    subst e
    exact h0 s ((hb.cell 1).symm.trans hs)
  · obtain ⟨g', hk⟩ := h.pr x hx
    injection e with e
    subst e
    exact Blk.ne_ hk hb hty rfl
set_option maxRecDepth 100000 in
set_option maxHeartbeats 4000000 in
theorem infoof_addrs (p : Part) (A : Option Addr) (n c : Nat) (ps : List Part) (hss : List (List Hop)) (w : World) (ht : Tab K w) (h : RB w w.heap.size p.A p.n p.c p.l) (hl : LS w w.heap.size A n c ps) (he : ps.map (·.l) = hss.map addrBytes)
    (hok : ∀ hs ∈ hss, AOk K hs) (hn : n ≤ 1000) : Calls Tryz.prog 34 #[.agg #[.slice p.A p.n p.c, .slice A n c]] w fun e w' =>
    ∃ v ts, e = .returned (.agg #[.string ⟨p.l.toArray⟩, v]) ∧ w'.ownsRow w.heap.size 56 1 v n (trCells ts) ∧ ts.map (fun t => t.cs.map (·.1)) = hss ∧ (∀ t ∈ ts, TrOk w' t) ∧ Below w.heap.size w w' := by
  obtain ⟨i0, hi0, hz0, hz1, hz2⟩ := info_parts mad_info
  obtain ⟨w0, hw0⟩ : ∃ w0, w0 = (w.alloc (.cells #[.slice p.A p.n p.c, .slice A n c] 44)).alloc (.cells #[.string ⟨#[]⟩, .slice none 0 0] 66) := ⟨_, rfl⟩
  have hb0 : Below w.heap.size w w0 := by rw [hw0]; exact ((Below.refl _ w).alloc (Nat.le_refl _) _).alloc (by simp) _
  have hk0 : Blk w0 w.heap.size 44 #[.slice p.A p.n p.c, .slice A n c] := by rw [hw0]; exact (Blk.new w _ _).alloc _
  have hk1 : Blk w0 (w.heap.size + 1) 66 #[.string ⟨#[]⟩, .slice none 0 0] := by rw [hw0]; exact Blk.new_ (by simp) _ _
  have hs0 : w0.heap.size = w.heap.size + 1 + 1 := by rw [hw0]; simp
  have cvt := run_convert_RB (h.next hb0) 32 5 Tryz.underlying32 Tryz.underlying5 64 Tryz.underlying64
  have c1 : w0.cell? ⟨w.heap.size, 1, none⟩ = some (.slice A n c) := hk0.cell 1
  have lt0 : w.heap.size < w0.heap.size := hk0.lt
  obtain ⟨w6, hw6⟩ : ∃ w6, w6 = w0.alloc (.cells #[.string ⟨p.l.toArray⟩, .slice none 0 0] 66) := ⟨_, rfl⟩
  have hn6 : Blk w6 w0.heap.size 66 #[.string ⟨p.l.toArray⟩, .slice none 0 0] := by rw [hw6]; exact Blk.new _ _ _
  have hb6 : Below w0.heap.size w0 w6 := by rw [hw6]; exact (Below.refl _ w0).alloc (Nat.le_refl _) _
  rw [hs0] at hn6
  have HB6 := Lib.hid (hb0.trans (hb6.mono hb0.size))
  have HK6 := Lib.hid (hk1.below hb6 hk1.lt)
  have HN6 := Lib.hid hn6
  have HW6 := Lib.hid hw6
  have HW0 := Lib.hid hw0
  have HT := Lib.hid ht
  have HL := Lib.hid hl
  have HLL := Lib.hid hl.len
  have HE := Lib.hid he
  have HOK := Lib.hid hok
  have HNN := Lib.hid hn
  rw [hw0] at cvt
  rw [hw0] at c1
  clear hb0 hk0 hk1 hw0 hn6 hb6 hw6 hs0 h lt0 ht hl he hok hn
  go_enter Tryz.func34, Tryz.ntmps34
  go_wp2_with fail
  rw [← HW0.out, ← HW6.out]
  go_loopw [15] (fun i wr => ∃ k : Nat, k ≤ n ∧ i = .int .i64 k ∧ Below w.heap.size w wr ∧ Blk wr (w.heap.size + 1) 66 #[.string ⟨#[]⟩, .slice none 0 0] ∧
    ∃ v ts, Blk wr (w.heap.size + 1 + 1) 66 #[.string ⟨p.l.toArray⟩, v] ∧ wr.ownsRow w.heap.size 56 1 v k (trCells ts) ∧ ts.map (fun t => t.cs.map (·.1)) = hss.take k ∧ (∀ t ∈ ts, TrOk wr t) ∧ (k = 0 → v = .slice none 0 0)) (fun i _ => n - (intOf i).toNat)
  case atStart => exact ⟨0, by omega, rfl, HB6.out, HK6.out, _, [], HN6.out, World.ownsRow_nil _ _ _ _, rfl, fun t ht => by simp at ht, fun _ => rfl⟩
  case round =>
    obtain ⟨k, hk, rfl, hb, hkr, v, ts, hko, hown, hts, htr, hz⟩ := hrel
    have HB := Lib.hid hb
    have HKR := Lib.hid hkr
    have HKO := Lib.hid hko
    have HO := Lib.hid hown
    have HTS := Lib.hid hts
    have HTR := Lib.hid htr
    have HZ := Lib.hid hz
    clear hb hkr hko hown hts htr hz
    by_cases hlt : k < n
    · have hlt' : k < ps.length := by rw [HLL.out]; exact hlt
      have hlh : k < hss.length := by have := congrArg List.length HE.out; simp at this; omega
      obtain ⟨ad, rfl, hbk, c0, hr⟩ := (HL.out.below HB.out).at_ k hlt'
      have hpl : (ps[k]).l = addrBytes hss[k] := by
        have := congrArg (fun x : List (List UInt8) => x[k]?) HE.out
        simpa [hlt', hlh] using this
      have htk : hss.take (k + 1) = hss.take k ++ [hss[k]] := List.take_succ_eq_append_getElem hlh
      have hao := HOK.out _ (List.getElem_mem hlh)
      generalize ps[k] = p1 at *
      generalize hss[k] = hs at *
      unfold Part.v at c0
      rw [hpl] at hr
      have HA := Lib.hid (addrof_impl p1.A p1.n p1.c hs wr (HT.out.below HB.out) hao.ok (hr.more HB.out.size) hao.le hao.ne)
      have HTK := Lib.hid htk
      have HAO := Lib.hid hao.ne
      clear hr hpl htk hao hlt' hlh
      go_wp2_with fail
      refine HA.out.mono ?_
      rintro e w3 ⟨g, c3, cs, rfl, hcs, hpr, hms, hb3⟩
      have HB3 := Lib.hid (HB.out.trans (hb3.mono HB.out.size))
      have hko3 := HKO.out.below hb3 HKO.out.lt
      have hbq := (Below.refl _ w3).alloc (Nat.le_refl _) (.cells #[.slice (some ⟨g, 0, none⟩) cs.length c3] 56)
      have hbw := hb3.trans (hbq.mono hb3.size)
      have HBW := Lib.hid hbw
      have hoo := own_below HO.out hbw
      have HOO := Lib.hid hoo
      have HRN := Lib.hid (reads_new w3 #[.slice (some ⟨g, 0, none⟩) cs.length c3] 56 1 1 rfl)
      have e1 : w3.cell? ⟨w.heap.size + 1 + 1, 1, none⟩ = some v := hko3.cell 1
      have hpos : 0 < cs.length := by
        rcases cs with _ | ⟨x, cs⟩
        · exact absurd hcs.symm HAO.out
        · simp
      have HKQ := Lib.hid (hko3.alloc (.cells #[.slice (some ⟨g, 0, none⟩) cs.length c3] 56))
      have HTN := Lib.hid ((⟨hms, hpr, hpos⟩ : TrOk w3 ⟨g, c3, cs⟩).below hbq)
      have HCS := Lib.hid hcs
      clear hcs hpr hms hb3 hko3 hbq hbw hoo hpos
      go_wp2_with (at_builtin; refine wpList_append_any _ rfl _ _ _ rfl w.heap.size 56 i0 _ 1 24 Tryz.underlying54 hi0 hz0 hz1 hz2 rfl (by decide) _ _ _ rfl HOO.out _ _ 1 1 _ rfl HRN.out ?c0 ?c1 ?c2 ?c3 ?_)
      case c0 => intro u hu; simp at hu; subst hu; rfl
      case c1 => have := HNN.out; unfold maxLen; omega
      case c2 => have := HNN.out; omega
      case c3 => exact Nat.le_trans HB.out.size HBW.out.size
      intro v' w5 hown hgrow _hat
      obtain ⟨A5, c5, rfl⟩ := own_slice hown
      have hb5 := (HB.out.trans (HBW.out.mono HB.out.size)).grown hgrow (Nat.le_trans HB.out.size HBW.out.size) (fun g hg => (HOO.out.lt g hg).1)
      have hko5 := HKQ.out.grown hgrow (fun e => own_blk_ne HOO.out HKQ.out (by decide) e.symm)
      have hkr5 := (HKR.out.below HBW.out HKR.out.lt).grown hgrow (fun e => own_blk_ne HOO.out (HKR.out.below HBW.out HKR.out.lt) (by decide) e.symm)
      have hlen : ts.length = k := by have := HO.out.1; rw [trCells_length] at this; omega
      have hnil : ts = [] → v.ownBlock = none := fun e => by
        have hk0 : k = 0 := by rw [← hlen, e]; rfl
        rw [HZ.out hk0]; rfl
      have hoo : (w3.alloc (.cells #[.slice (some ⟨g, 0, none⟩) cs.length c3] 56)).ownsRow w.heap.size 56 1 v ts.length (trCells ts) := by rw [hlen]; exact HOO.out
      have htr5 : ∀ t ∈ ts ++ [⟨g, c3, cs⟩], TrOk w5 t := fun t ht => by
        rcases List.mem_append.1 ht with h1 | h1
        · exact ((HTR.out t h1).below HBW.out).grown_row hoo hnil hgrow
        · rw [List.mem_singleton] at h1
          subst h1
          exact HTN.out.grown_row hoo hnil hgrow
      have e5 : w5.cell? ⟨w.heap.size + 1 + 1, 1, none⟩ = some v := hko5.cell 1
      have f5 := hko5.frozen 1
      have hof : w5.ownsRow w.heap.size 56 1 (.slice A5 (k + 1) c5) (k + 1) (trCells (ts ++ [⟨g, c3, cs⟩])) := by
        rw [trCells_snoc]
        exact hown
      have HOF := Lib.hid hof
      have HB5 := Lib.hid hb5
      have HKO5 := Lib.hid hko5
      have HKR5 := Lib.hid hkr5
      have HTR5 := Lib.hid htr5
      have hkk := HNN.out
      clear hown hgrow _hat hof hb5 hko5 hkr5 hlen hnil hoo htr5
      go_wp2_with fail
      go_roundw
      case rel =>
        refine ⟨k + 1, by omega, by go_num, HB5.out.setCell (p := ⟨w.heap.size + 1 + 1, 1, none⟩) (Nat.le_trans (Nat.le_succ _) (Nat.le_succ _)) _, HKR5.out.far (by simp) _, _, ts ++ [⟨g, c3, cs⟩], HKO5.out.set_ 1 _, own_set HOF.out HKO5.out (by decide) 1 _, ?_, fun t ht => (HTR5.out t ht).far HKO5.out (fun s e => ?_) (by decide) 1 _, fun h => absurd h (Nat.succ_ne_zero k)⟩
        · rw [List.map_append, HTS.out, HTK.out]
          simp [HCS.out]
        · obtain ⟨A0, c0', e0⟩ := own_slice HO.out
          rw [e0] at e
          cases e
      case measure => simp [intOf]; omega
    · obtain rfl : k = n := by omega
      have d0 := HKO.out.cell 0
      have d1 := HKO.out.cell 1
      have e0 := HKR.out.cell 0
      have e1 := HKR.out.cell 1
      have f0 := HKR.out.frozen 0
      have f1 := HKR.out.frozen 1
      have hts := HTS.out
      have hle : hss.length = k := by have := congrArg List.length HE.out; simp at this; rw [← this, HLL.out]
      rw [List.take_of_length_le (by omega)] at hts
      have HTS2 := Lib.hid hts
      clear hts hle
      obtain ⟨A0, c0', rfl⟩ := own_slice HO.out
      go_wp2_with fail
      have hs1 := HKR.out.set_ 0 (.string ⟨p.l.toArray⟩)
      have hst := hs1.set_ 1 (.slice A0 k c0')
      refine bodyPost_ret (results_cell_row rfl _ _ (w.heap.size + 1) 66 #[.string ⟨p.l.toArray⟩, .slice A0 k c0'] (0, 0) _ rfl hst Tryz.underlying66 rfl (pinfo_size.trans rfl)) rfl ?_
      refine ⟨_, ts, rfl, own_set (own_set HO.out HKR.out (by decide) 0 _) hs1 (by decide) 1 _, HTS2.out, fun t ht => ((HTR.out t ht).far HKR.out (fun q e => ?_) (by decide) 0 _).far hs1 (fun q e => ?_) (by decide) 1 _, (HB.out.setCell (p := ⟨w.heap.size + 1, 0, none⟩) (Nat.le_succ _) _).setCell (p := ⟨w.heap.size + 1, 1, none⟩) (Nat.le_succ _) _⟩
      · cases e
      · cases e
end Go.Proofs.YtkmieonfhcmimaaGreatDoor

/- impl.AddrIDs at peers with addresses: their IDs in their order. No condition beyond. -/
namespace Go.Proofs.YtkmieonfhcmimaaGreatDoor
open Go.RowKit
variable {K : Nat}
attribute [local go_sem ↓] Go.wp_at_zero Go.wp_at_succ
def pairCells (prs : List (List UInt8 × Value)) : List Value := prs.flatMap fun q => [strV q.1, q.2]
theorem pairCells_snoc (prs : List (List UInt8 × Value)) (q : List UInt8 × Value) : pairCells (prs ++ [q]) = pairCells prs ++ [strV q.1, q.2] := by simp [pairCells]
theorem pairCells_get (prs : List (List UInt8 × Value)) : ∀ i (hi : i < prs.length), (pairCells prs)[i * 2]? = some (strV (prs[i]).1) ∧ (pairCells prs)[i * 2 + 1]? = some (prs[i]).2 := by
  induction prs with
  | nil => intro i hi; simp at hi
  | cons q prs ih =>
    intro i hi
    rcases i with _ | i
    · simp [pairCells]
    · have := ih i (by simpa using hi)
      rw [show pairCells (q :: prs) = strV q.1 :: q.2 :: pairCells prs from rfl, show (i + 1) * 2 = i * 2 + 1 + 1 by omega]
      simpa using this
set_option maxRecDepth 100000 in
set_option maxHeartbeats 2000000 in
theorem toids_all (prs : List (List UInt8 × Value)) (ls : List (List UInt8)) (hpr : prs.map (·.1) = ls) (hone : ∀ q ∈ prs, ∃ a n c, q.2 = .slice a n c) (A : Option Addr) (n c : Nat) (w : World) (h : Reads w w.heap.size 2 A n (pairCells prs)) (hl : ls.length = n) (hn : n ≤ 1000) (hc : n ≤ c) (_hm : c ≤ maxLen) : Calls Tryz.prog 35 #[.slice A n c] w fun e w' =>
    ∃ g, e = .returned (.slice (some ⟨g, 0, none⟩) n n) ∧ Blk w' g 64 (ls.map strV).toArray ∧ Below w.heap.size w w' := by
  obtain ⟨i0, hi0, hz0, hz1, hz2⟩ := info_parts id_info
  have hmc : madeCells (Value.string ⟨#[]⟩).cells (n * i0.size) = (strRow ls 0).toArray := by
    apply Array.ext'
    rw [hz1, Nat.mul_one]
    show (madeCells #[Value.string ⟨#[]⟩] n).toList = _
    rw [toList_madeCells_one]
    simp [strRow, strV, hl]
  have hmk := fun W : World => run_make_rowN (P := Tryz.prog) 76 64 i0 _ Tryz.underlying76 hi0 hz0 .i64 .i64 n n (Nat.le_refl _) (by rw [hz2]; omega) (by omega) W
  simp only [hmc] at hmk
  obtain ⟨w0, hw0⟩ : ∃ w0, w0 = w.alloc (.cells (strRow ls 0).toArray 64) := ⟨_, rfl⟩
  have HK0 := Lib.hid (show Blk w0 w.heap.size 64 (strRow ls 0).toArray by rw [hw0]; exact Blk.new _ _ _)
  have HB0 := Lib.hid (show Below w.heap.size w w0 by rw [hw0]; exact (Below.refl _ w).alloc (Nat.le_refl _) _)
  have HW0 := Lib.hid hw0
  have HH := Lib.hid h
  have HL := Lib.hid hl
  have HONE := Lib.hid hone
  have HPR := Lib.hid hpr
  clear h hi0 hz0 hz1 hz2 hmc hw0 hl hone hpr
  go_enter Tryz.func35, Tryz.ntmps35
  go_wp2_with fail
  rw [← HW0.out]
  go_loopw [11] (fun i wr => ∃ k : Nat, k ≤ n ∧ i = .int .i64 k ∧ Blk wr w.heap.size 64 (strRow ls k).toArray ∧ Below w.heap.size w wr) (fun i _ => n - (intOf i).toNat)
  case atStart => exact ⟨0, by omega, rfl, HK0.out, HB0.out⟩
  case round =>
    obtain ⟨k, hk, rfl, hkb, hb⟩ := hrel
    have HKB := Lib.hid hkb
    have HB := Lib.hid hb
    by_cases hlt : k < n
    · have hlt' : k < ls.length := by rw [HL.out]; exact hlt
      obtain ⟨ad, rfl, hbk, hcell⟩ := (HH.out.below HB.out).2 (by omega)
      have hlp : k < prs.length := by have := congrArg List.length HPR.out; simp at this; omega
      have hg := pairCells_get prs k hlp
      have hls : ls[k] = (prs[k]).1 := by simp only [← HPR.out, List.getElem_map]
      obtain ⟨sa, sn, sc, hsv⟩ := HONE.out _ (List.getElem_mem hlp)
      rw [hsv, ← hls] at hg
      have c0 := hcell _ _ hg.1
      have c1 := hcell _ _ hg.2
      rw [add_succ _ _ 1 (by decide)] at c1
      have hset := strRow_set ls k hlt'
      have hX : strV ls[k] = .string ⟨ls[k].toArray⟩ := rfl
      rw [hX] at c0 hset
      generalize ls[k] = X at *
      have hkw := hkb.alloc (.cells #[.string ⟨X.toArray⟩, .slice sa sn sc] 66)
      have d0 : (wr.alloc (.cells #[.string ⟨X.toArray⟩, .slice sa sn sc] 66)).cell? ⟨w.heap.size, k, none⟩ = some (.string ⟨#[]⟩) := by
        rw [hkw.cell k]
        have := strRow_get ls k hlt'
        simpa [strV] using this
      have f0 := hkw.frozen k
      have HST := Lib.hid (hkw.set_ k (.string ⟨X.toArray⟩))
      have HSET := Lib.hid hset
      have hbk2 : ad.block < wr.heap.size := Nat.lt_of_lt_of_le hbk hb.size
      clear hkb hb hcell hg hX hset hkw hlt' hls hsv hlp
      go_wp2_with fail
      refine ⟨⟨k + 1, by omega, by go_num, ?_, (HB.out.alloc HB.out.size _).setCell (p := ⟨w.heap.size, k, none⟩) (Nat.le_refl _) _⟩, by simp [intOf]; omega⟩
      have := HST.out
      rw [List.setIfInBounds_toArray, HSET.out] at this
      exact this
    · obtain rfl : k = n := by omega
      have hall := strRow_all ls
      rw [HL.out] at hall
      rw [hall] at hkb
      have HF := Lib.hid hkb
      clear hkb hb hall HKB
      go_wp2_with fail
      go_ret
      exact ⟨_, rfl, HF.out, HB.out⟩
/-- A peer in memory: its ID, its addresses. -/
structure Info where
  p : Part
  A : Option Addr
  n : Nat
  c : Nat
  ps : List Part
  hss : List (List Hop)
structure InfoOk (K : Nat) (w : World) (x : Info) : Prop where
  tb : TB w x.p
  ls : LS w w.heap.size x.A x.n x.c x.ps
  he : x.ps.map (·.l) = x.hss.map addrBytes
  ok : ∀ hs ∈ x.hss, AOk K hs
  le : x.p.l.length ≤ 1000
  max : x.n ≤ 1000
def infoRow (xs : List Info) : List Value := xs.flatMap fun x => [x.p.v, .slice x.A x.n x.c]
theorem infoRow_get (xs : List Info) : ∀ i (hi : i < xs.length), (infoRow xs)[i * 2]? = some (xs[i]).p.v ∧ (infoRow xs)[i * 2 + 1]? = some (.slice (xs[i]).A (xs[i]).n (xs[i]).c) := by
  induction xs with
  | nil => intro i hi; simp at hi
  | cons q xs ih =>
    intro i hi
    rcases i with _ | i
    · simp [infoRow]
    · have := ih i (by simpa using hi)
      rw [show infoRow (q :: xs) = q.p.v :: .slice q.A q.n q.c :: infoRow xs from rfl, show (i + 1) * 2 = i * 2 + 1 + 1 by omega]
      simpa using this
def idsOf (xs : List Info) (k : Nat) : List (List UInt8) := (xs.take k).map (·.p.l)
theorem idsOf_snoc (xs : List Info) (k : Nat) (hk : k < xs.length) : idsOf xs (k + 1) = idsOf xs k ++ [(xs[k]).p.l] := by
  unfold idsOf
  rw [List.take_succ_eq_append_getElem hk, List.map_append]
  rfl
theorem idsOf_all (xs : List Info) (k : Nat) (hk : xs.length = k) : idsOf xs k = xs.map (·.p.l) := by
  unfold idsOf
  rw [← hk, List.take_length]
set_option maxRecDepth 100000 in
set_option maxHeartbeats 4000000 in
theorem addrids_all (xs : List Info) (A : Option Addr) (n c : Nat) (w : World) (ht : Tab K w) (h : Reads w w.heap.size 2 A n (infoRow xs)) (hp : ∀ x ∈ xs, InfoOk K w x) (hl : xs.length = n) (hn : n ≤ 1000) : Calls Tryz.prog 16 #[.slice A n c] w fun e w' =>
    ∃ A' c' qs, e = .returned (.slice A' n c') ∧ LS w' w'.heap.size A' n c' qs ∧ qs.map (·.l) = xs.map (·.p.l) ∧ Below w.heap.size w w' := by
  obtain ⟨i0, hi0, hz0, hz1, hz2⟩ := info_parts peer_info
  have HH := Lib.hid h
  have HP := Lib.hid hp
  have HL := Lib.hid hl
  have HT0 := Lib.hid ht
  clear h hp hl ht
  go_enter Tryz.func16, Tryz.ntmps16
  go_wp2_with fail
  go_loopw [3, 11] (fun v i wr => ∃ k : Nat, k ≤ n ∧ i = .int .i64 k ∧ ∃ prs : List (List UInt8 × Value), prs.map (·.1) = idsOf xs k ∧ (∀ q ∈ prs, ∃ a n c, q.2 = .slice a n c) ∧ wr.ownsRow w.heap.size 66 2 v k (pairCells prs) ∧ Below w.heap.size w wr) (fun _ i _ => n - (intOf i).toNat)
  case atStart => exact ⟨0, by omega, rfl, [], rfl, fun q hq => by simp at hq, World.ownsRow_nil _ _ _ _, Below.refl _ _⟩
  case round =>
    obtain ⟨k, hk, rfl, prs, hprs, hone, hown, hb⟩ := hrel
    have HPRS := Lib.hid hprs
    have HONE := Lib.hid hone
    have HO := Lib.hid hown
    have HB := Lib.hid hb
    clear hown hb hprs hone
    by_cases hlt : k < n
    · have hlt' : k < xs.length := by rw [HL.out]; exact hlt
      obtain ⟨ad, rfl, hbk, hcell⟩ := (HH.out.below HB.out).2 (by omega)
      have hg := infoRow_get xs k hlt'
      have c0 := hcell _ _ hg.1
      have c1 := hcell _ _ hg.2
      rw [add_succ _ _ 1 (by decide)] at c1
      have htk := idsOf_snoc xs k hlt'
      have hpk := HP.out _ (List.getElem_mem hlt')
      generalize xs[k] = x at *
      unfold Part.v at c0
      have hbk2 : ad.block < wr.heap.size := Nat.lt_of_lt_of_le hbk HB.out.size
      have HBW := Lib.hid (HB.out.alloc HB.out.size (.cells #[.slice x.p.A x.p.n x.p.c, .slice x.A x.n x.c] 44))
      have HIN := Lib.hid (infoof_addrs (K := K) x.p x.A x.n x.c x.ps x.hss (wr.alloc (.cells #[.slice x.p.A x.p.n x.p.c, .slice x.A x.n x.c] 44)) (HT0.out.below HBW.out) ((hpk.tb.rb.below HBW.out).more HBW.out.size) ((hpk.ls.below HBW.out).more HBW.out.size) hpk.he hpk.ok hpk.max)
      have HTK := Lib.hid htk
      clear hcell hg htk hpk hlt'
      go_wp2_with fail
      refine HIN.out.mono ?_
      rintro e w3 ⟨v3, ts3, rfl, ho3, hts3, htr3, hb3⟩
      obtain ⟨A3, c3, rfl⟩ := own_slice ho3
      have HB3 := Lib.hid (HBW.out.trans (hb3.mono HBW.out.size))
      have hb3w : Below wr.heap.size wr w3 := ((Below.refl _ wr).alloc (Nat.le_refl _) (.cells #[.slice x.p.A x.p.n x.p.c, .slice x.A x.n x.c] 44)).trans (hb3.mono (by simp))
      have hbq := ((Below.refl _ w3).alloc (Nat.le_refl _) (.cells #[.string ⟨x.p.l.toArray⟩, .slice A3 x.n c3] 66))
      have HOO := Lib.hid (own_below HO.out (hb3w.trans (hbq.mono hb3w.size)))
      have HRN := Lib.hid (reads_new w3 #[.string ⟨x.p.l.toArray⟩, .slice A3 x.n c3] 66 2 1 rfl)
      have HBQ := Lib.hid (HB3.out.trans (hbq.mono HB3.out.size))
      clear hb3 hb3w hbq ho3 hts3 htr3
      go_wp2_with (at_builtin; refine wpList_append_any _ rfl (.tmp 15) (.tmp 18) _ rfl w.heap.size 66 i0 _ 2 40 Tryz.underlying59 hi0 hz0 hz1 hz2 rfl (by decide) _ _ _ rfl HOO.out _ _ 1 1 _ rfl HRN.out ?c0 ?c1 ?c2 ?c3 ?_)
      case c0 => intro u hu; simp at hu; rcases hu with rfl | rfl <;> rfl
      case c1 => unfold maxLen; omega
      case c2 => omega
      case c3 => exact HBQ.out.size
      intro v' w' hown hgrow _hat
      have HBF := Lib.hid (HBQ.out.grown hgrow HBQ.out.size (fun g hg => (HOO.out.lt g hg).1))
      have hof : w'.ownsRow w.heap.size 66 2 v' (k + 1) (pairCells (prs ++ [(x.p.l, .slice A3 x.n c3)])) := by
        rw [pairCells_snoc]
        exact hown
      have HOF := Lib.hid hof
      clear hown hgrow _hat hof
      go_wp2_with fail
      go_roundw
      case rel => exact ⟨k + 1, by omega, by go_num, prs ++ [(x.p.l, .slice A3 x.n c3)], by rw [List.map_append, HPRS.out, HTK.out]; rfl, fun q hq => by
        rcases List.mem_append.1 hq with h1 | h1
        · exact HONE.out q h1
        · rw [List.mem_singleton] at h1
          subst h1
          exact ⟨_, _, _, rfl⟩, HOF.out, HBF.out⟩
      case measure => simp [intOf]; omega
    · obtain rfl : k = n := by omega
      have htk := idsOf_all xs k HL.out
      have hprs := HPRS.out
      rw [htk] at hprs
      obtain ⟨A1, c1, rfl⟩ := own_slice HO.out
      have hcp := own_caps HO.out
      have HT := Lib.hid (toids_all prs (xs.map (·.p.l)) hprs HONE.out A1 k c1 wr (Reads.of_own HO.out) (by rw [List.length_map, HL.out]) hn hcp.1 hcp.2)
      clear htk hcp hprs
      go_wp2_with fail
      refine HT.out.mono ?_
      rintro e w3 ⟨g, rfl, hkb, hb3⟩
      have HB3 := Lib.hid (HB.out.trans (hb3.mono HB.out.size))
      have HKB := Lib.hid hkb
      clear hkb hb3
      obtain ⟨j0, hj0, jz0, jz1, jz2⟩ := info_parts aslice_info
      go_wp2_with fail
      go_loopw [6, 24] (fun v j wq => ∃ m : Nat, m ≤ k ∧ j = .int .i64 m ∧ ∃ qs : List Part, qs.map (·.l) = idsOf xs m ∧ wq.ownsRow w3.heap.size 32 1 v m (partCells qs) ∧ TBs wq qs ∧ Below w3.heap.size w3 wq) (fun _ j _ => k - (intOf j).toNat)
      case atStart => exact ⟨0, by omega, rfl, [], rfl, World.ownsRow_nil _ _ _ _, fun x hx => by simp at hx, Below.refl _ _⟩
      case round =>
        obtain ⟨m, hm, rfl, qs, hqs, hown, htb, hb⟩ := hrel
        have HQ := Lib.hid hqs
        have HO2 := Lib.hid hown
        have HTB := Lib.hid htb
        have HB4 := Lib.hid hb
        clear hqs hown htb hb
        by_cases hlt : m < k
        · have hlt' : m < xs.length := by rw [HL.out]; exact hlt
          have hkm := HKB.out.below HB4.out HKB.out.lt
          have c0 : wr.cell? ⟨g, m, none⟩ = some (.string ⟨(xs[m]).p.l.toArray⟩) := by
            rw [hkm.cell m]
            simp [hlt', strV]
          have htk := idsOf_snoc xs m hlt'
          have hle := (HP.out _ (List.getElem_mem hlt')).le
          generalize (xs[m]).p.l = L at *
          obtain ⟨cc, w5, hcv, htb5, hb5, _⟩ := conv_id_tb wr L (by omega)
          have HTK := Lib.hid htk
          have HT5 := Lib.hid htb5
          have HB5 := Lib.hid hb5
          have hbq := (Below.refl _ w5).alloc (Nat.le_refl _) (.cells #[.slice (some ⟨wr.heap.size, 0, none⟩) L.length cc] 32)
          have HBQ := Lib.hid (hb5.trans (hbq.mono hb5.size))
          have HTQ := Lib.hid (htb5.below hbq)
          have HOO := Lib.hid (own_below HO2.out HBQ.out)
          have HRN := Lib.hid (reads_new w5 #[.slice (some ⟨wr.heap.size, 0, none⟩) L.length cc] 32 1 1 rfl)
          clear hkm htk htb5 hb5 hbq hlt' hle
          go_wp2_with (at_builtin; refine wpList_append_any _ rfl (.tmp 28) (.tmp 31) _ rfl w3.heap.size 32 j0 _ 1 24 Tryz.underlying29 hj0 jz0 jz1 jz2 rfl (by decide) _ _ _ rfl HOO.out _ _ 1 1 _ rfl HRN.out ?c0 ?c1 ?c2 ?c3 ?_)
          case c0 => rfl
          case c1 => unfold maxLen; omega
          case c2 => omega
          case c3 => exact Nat.le_trans HB4.out.size (by have := HBQ.out.size; simpa using this)
          intro v' w' hown hgrow _hat
          have HBF := Lib.hid ((HB4.out.trans (HBQ.out.mono HB4.out.size)).grown hgrow (Nat.le_trans HB4.out.size HBQ.out.size) (fun g hg => (HOO.out.lt g hg).1))
          have htf : TBs w' (qs ++ [⟨some ⟨wr.heap.size, 0, none⟩, L.length, cc, L⟩]) := TBs.snoc (fun x hx => (((HTB.out x hx).below HBQ.out).grown HOO.out (by decide) hgrow)) (HTQ.out.grown HOO.out (by decide) hgrow)
          have hof : w'.ownsRow w3.heap.size 32 1 v' (m + 1) (partCells (qs ++ [⟨some ⟨wr.heap.size, 0, none⟩, L.length, cc, L⟩])) := by
            rw [partCells_snoc]
            exact hown
          have HOF := Lib.hid hof
          have HTF := Lib.hid htf
          clear hown hgrow _hat hof htf
          go_wp2_with fail
          go_roundw
          case rel => exact ⟨m + 1, by omega, by go_num, qs ++ [⟨some ⟨wr.heap.size, 0, none⟩, L.length, cc, L⟩], by rw [List.map_append, HQ.out, HTK.out]; rfl, HOF.out, HTF.out, HBF.out⟩
          case measure => simp [intOf]; omega
        · obtain rfl : m = k := by omega
          have hq2 := HQ.out
          have htk2 := idsOf_all xs m HL.out
          rw [htk2] at hq2
          have HQ2 := Lib.hid hq2
          obtain ⟨A2, c2, rfl⟩ := own_slice HO2.out
          clear hq2 htk2
          go_wp2_with fail
          go_ret
          exact ⟨A2, c2, qs, rfl, LS.of_own HO2.out HTB.out, HQ2.out, HB3.out.trans (HB4.out.mono HB3.out.size)⟩
end Go.Proofs.YtkmieonfhcmimaaGreatDoor
