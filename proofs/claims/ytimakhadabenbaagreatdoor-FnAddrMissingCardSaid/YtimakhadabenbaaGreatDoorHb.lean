/- impl.AddrInfos where an address has no ID: none. -/
import Derived.Test.YtimakhadabenbaaGreatDoorHa
namespace Go.Proofs.YtimakhadabenbaaGreatDoor
open Go.RowKit
variable {K : Nat}
attribute [local go_sem ↓] Go.wp_at_zero Go.wp_at_succ
theorem ts_len (ts : List Tr) (hss : List (List Hop)) (h : ts.map (fun t => t.cs.map (·.1)) = hss) (m : Nat) (hm : ∀ hs ∈ hss, hs.length ≤ m) : ∀ t ∈ ts, t.cs.length ≤ m := fun t ht => by
  have := hm (t.cs.map (·.1)) (by rw [← h]; exact List.mem_map.2 ⟨t, ht, rfl⟩)
  rwa [List.length_map] at this
theorem ts_bad (ts : List Tr) (hss : List (List Hop)) (h : ts.map (fun t => t.cs.map (·.1)) = hss) (hb : ∃ hs ∈ hss, ∃ r x, hs = r ++ [x] ∧ x.kd % 8 ≠ 6) :
    ∃ i, ∃ hi : i < ts.length, ∃ cs x, (ts[i]).cs = cs ++ [x] ∧ x.1.kd % 8 ≠ 6 := by
  obtain ⟨hs, hh, r, x, rfl, h6⟩ := hb
  rw [← h] at hh
  obtain ⟨t, ht, e⟩ := List.mem_map.1 hh
  obtain ⟨i, hi, rfl⟩ := List.getElem_of_mem ht
  refine ⟨i, hi, ?_⟩
  have hne : (ts[i]).cs ≠ [] := fun e0 => by rw [e0] at e; simp at e
  obtain ⟨cs, y, hcs⟩ : ∃ cs y, (ts[i]).cs = cs ++ [y] := ⟨_, _, (List.dropLast_concat_getLast hne).symm⟩
  rw [hcs, List.map_append] at e
  have := (List.append_inj' e rfl).2
  injection this with hx
  have hx : y.1 = x := hx
  exact ⟨cs, y, hcs, by rw [hx]; exact h6⟩
set_option maxRecDepth 100000 in
set_option maxHeartbeats 4000000 in
theorem infos_no (A : Option Addr) (n c : Nat) (ps : List Part) (hss : List (List Hop)) (w : World) (ht : Tab K w) (hu : Inv w) (hl : LS w w.heap.size A n c ps) (he : ps.map (·.l) = hss.map addrBytes)
    (hok : ∀ hs ∈ hss, AOk K hs) (hn : n ≤ 1000) (hbad : ∃ hs ∈ hss, ∃ r x, hs = r ++ [x] ∧ x.kd % 8 ≠ 6) : Calls Tryz.prog 8 #[.slice A n c] w fun e w' => e = .returned (.tuple #[.slice none 0 0, .bool false]) ∧ Below w.heap.size w w' := by
  obtain ⟨i0, hi0, hz0, hz1, hz2⟩ := info_parts mad_info
  have HT := Lib.hid ht
  have HU := Lib.hid hu
  have HL := Lib.hid hl
  have HLL := Lib.hid hl.len
  have HE := Lib.hid he
  have HOK := Lib.hid hok
  have HNN := Lib.hid hn
  have HBAD := Lib.hid hbad
  have qn : ∀ (t : TypeId) (v : Value) (w : World), (binOp .neq 51 (.iface t v) .nilIface).run Tryz.prog w = .ok (.bool true) w := fun _ _ _ => by kernel_rfl
  clear ht hu hl he hok hn hbad
  go_enter Tryz.func8, Tryz.ntmps8
  go_wp2_with fail
  go_loopw [4, 16] (fun v i wr => ∃ k : Nat, k ≤ n ∧ i = .int .i64 k ∧ Below w.heap.size w wr ∧
    ∃ ts, wr.ownsRow w.heap.size 46 1 v k (trCells ts) ∧ ts.map (fun t => t.cs.map (·.1)) = hss.take k ∧ (∀ t ∈ ts, TrOk wr t) ∧ (k = 0 → v = .slice none 0 0)) (fun _ i _ => n - (intOf i).toNat)
  case atStart => exact ⟨0, by omega, rfl, Below.refl _ _, [], World.ownsRow_nil _ _ _ _, rfl, fun t ht => by simp at ht, fun _ => rfl⟩
  case round =>
    obtain ⟨k, hk, rfl, hb, ts, hown, hts, htr, hz⟩ := hrel
    have HB := Lib.hid hb
    have HO := Lib.hid hown
    have HTS := Lib.hid hts
    have HTR := Lib.hid htr
    have HZ := Lib.hid hz
    clear hb hown hts htr hz
    by_cases hlt : k < n
    · have hlt' : k < ps.length := by rw [HLL.out]; exact hlt
      have hlh : k < hss.length := by have := congrArg List.length HE.out; simp at this; omega
      obtain ⟨ad, rfl, hbk, c0, hr⟩ := (HL.out.below HB.out).at_ k hlt'
      have hpl : (ps[k]).l = addrBytes hss[k] := by
        have := congrArg (fun x : List (List UInt8) => x[k]?) HE.out
        simpa [hlt', hlh] using this
      have htk : hss.take (k + 1) = hss.take k ++ [hss[k]] := List.take_succ_eq_append_getElem hlh
      have hao := HOK.out _ (List.getElem_mem hlh)
      generalize ps[k] = p1 at *
      generalize hss[k] = hs at *
      unfold Part.v at c0
      rw [hpl] at hr
      have HA := Lib.hid (addrof_impl p1.A p1.n p1.c hs wr (HT.out.below HB.out) hao.ok (hr.more HB.out.size) hao.le hao.ne)
      have HTK := Lib.hid htk
      have HAO := Lib.hid hao.ne
      clear hr hpl htk hao hlt' hlh
      go_wp2_with fail
      refine HA.out.mono ?_
      rintro e w3 ⟨g, c3, cs, rfl, hcs, hpr, hms, hb3⟩
      have hbq := (Below.refl _ w3).alloc (Nat.le_refl _) (.cells #[.slice (some ⟨g, 0, none⟩) cs.length c3] 46)
      have hbw := hb3.trans (hbq.mono hb3.size)
      have HBW := Lib.hid hbw
      have HOO := Lib.hid (own_below HO.out hbw)
      have HRN := Lib.hid (reads_new w3 #[.slice (some ⟨g, 0, none⟩) cs.length c3] 46 1 1 rfl)
      have hpos : 0 < cs.length := by
        rcases cs with _ | ⟨x, cs⟩
        · exact absurd hcs.symm HAO.out
        · simp
      have HTN := Lib.hid ((⟨hms, hpr, hpos⟩ : TrOk w3 ⟨g, c3, cs⟩).below hbq)
      have HCS := Lib.hid hcs
      clear hcs hpr hms hb3 hbq hbw hpos
      go_wp2_with (at_builtin; go_loud (refine wpList_append_any _ rfl _ _ _ rfl w.heap.size 46 i0 _ 1 24 Tryz.underlying44 hi0 hz0 hz1 hz2 rfl (by decide) _ _ _ rfl HOO.out _ _ 1 1 _ rfl HRN.out ?c0 ?c1 ?c2 ?c3 ?_))
      case c0 => intro u hu; simp at hu; subst hu; rfl
      case c1 => have := HNN.out; unfold maxLen; omega
      case c2 => have := HNN.out; omega
      case c3 => exact Nat.le_trans HB.out.size HBW.out.size
      intro v' w5 hown hgrow _hat
      have HB5 := Lib.hid ((HB.out.trans (HBW.out.mono HB.out.size)).grown hgrow (Nat.le_trans HB.out.size HBW.out.size) (fun g hg => (HOO.out.lt g hg).1))
      have hlen : ts.length = k := by have := HO.out.1; rw [trCells_length] at this; omega
      have hnil : ts = [] → u4.ownBlock = none := fun e => by
        have hk0 : k = 0 := by rw [← hlen, e]; rfl
        rw [HZ.out hk0]; rfl
      have hoo : (w3.alloc (.cells #[.slice (some ⟨g, 0, none⟩) cs.length c3] 46)).ownsRow w.heap.size 46 1 u4 ts.length (trCells ts) := by rw [hlen]; exact HOO.out
      have htr5 : ∀ t ∈ ts ++ [⟨g, c3, cs⟩], TrOk w5 t := fun t ht => by
        rcases List.mem_append.1 ht with h1 | h1
        · exact ((HTR.out t h1).below HBW.out).grown_row hoo hnil hgrow
        · rw [List.mem_singleton] at h1
          subst h1
          exact HTN.out.grown_row hoo hnil hgrow
      have hof : w5.ownsRow w.heap.size 46 1 v' (k + 1) (trCells (ts ++ [⟨g, c3, cs⟩])) := by
        rw [trCells_snoc]
        exact hown
      have HOF := Lib.hid hof
      have HTR5 := Lib.hid htr5
      have hkk := HNN.out
      clear hown hgrow _hat hof hlen hnil hoo htr5
      go_wp2_with fail
      go_roundw
      case rel => exact ⟨k + 1, by omega, by go_num, HB5.out, ts ++ [⟨g, c3, cs⟩], HOF.out, by rw [List.map_append, HTS.out, HTK.out]; simp [HCS.out], HTR5.out, fun h => absurd h (Nat.succ_ne_zero k)⟩
      case measure => simp [intOf]; omega
    · obtain rfl : k = n := by omega
      have hts := HTS.out
      have hle : hss.length = k := by have := congrArg List.length HE.out; simp at this; rw [← this, HLL.out]
      rw [List.take_of_length_le (by omega)] at hts
      obtain ⟨A0, c0', hu4⟩ := own_slice HO.out
      have ho := HO.out
      rw [hu4] at ho
      have HF := Lib.hid (infos_bad A0 k c0' w.heap.size ts wr ho HTR.out (ts_len ts hss hts 101 (fun hs hh => Nat.le_succ_of_le (HOK.out hs hh).le)) (HU.out.below HB.out) HNN.out (ts_bad ts hss hts HBAD.out))
      have HU4 := Lib.hid hu4
      clear hts hle ho hu4
      go_wp2_with fail
      rw [HU4.out]
      refine HF.out.mono ?_
      rintro e w2 ⟨ti, vi, rfl, hb2⟩
      have HB2 := Lib.hid (HB.out.trans (hb2.mono HB.out.size))
      clear hb2
      go_wp2_with fail
      go_ret2
      exact ⟨rfl, HB2.out⟩
end Go.Proofs.YtimakhadabenbaaGreatDoor
