/- slices.CompactFunc at byte strings with bytes.Equal: of equal neighbours one stays. No condition. -/
import Derived.Test.YtkmieonfhcmimaaGreatDoorGt
import Derived.Test.YtkmieonfhcmimaaGreatDoorXc
import Derived.Lib.SliceRun
import Derived.Test.YtkmieonfhcmimaaGreatDoorPo
import Derived.Test.YtkmieonfhcmimaaGreatDoorKb
namespace Go.Proofs.YtkmieonfhcmimaaGreatDoor
open Go Go.RowKit Go.Sort
attribute [local go_sem ↓] Go.wp_at_zero Go.wp_at_succ
/-- A row of byte strings while its elements are moved: block g of c cells, of which the first m are ys. -/
structure CRow (w0 w : World) (g c m : Nat) (ys : List Part) : Prop where
  blk : ∃ cur : Array Value, Blk w g 32 cur ∧ cur.size = c ∧ cur.toList.take m = partCells ys
  len : ys.length = m
  le : m ≤ c
  gr : w0.grownBy w (some g)
section
variable {w0 w : World} {g c m : Nat} {ys : List Part}
theorem CRow.cell (h : CRow w0 w g c m ys) (i : Nat) (hi : i < ys.length) : w.cell? ⟨g, i, none⟩ = some (ys[i]).v := by
  obtain ⟨cur, hb, _, ht⟩ := h.blk
  have hl := h.len
  rw [hb.cell i]
  have h1 : (cur.toList.take m)[i]? = (partCells ys)[i]? := by rw [ht]
  rw [List.getElem?_take_of_lt (by omega), Array.getElem?_toList] at h1
  rw [h1]
  simp [partCells, hi]
theorem CRow.frozen (h : CRow w0 w g c m ys) (i : Nat) : w.frozen? ⟨g, i, none⟩ = false := by
  obtain ⟨cur, hb, _, _⟩ := h.blk
  exact hb.frozen i
theorem CRow.drewN (h : CRow w0 w g c m ys) (n : Nat) : CRow w0 (w.drewN n) g c m ys := ⟨h.blk, h.len, h.le, ⟨h.gr.os, h.gr.tape, h.gr.output, h.gr.size, h.gr.block⟩⟩
theorem grown_set {a w : World} {g : Nat} (h : a.grownBy w (some g)) (i : Nat) (v : Value) : a.grownBy (w.setCell ⟨g, i, none⟩ v) (some g) :=
  ⟨h.os, h.tape, h.output, by simpa [World.setCell] using h.size, fun k hk hne => by
    have : g ≠ k := fun e => hne (by rw [e])
    simp only [World.setCell, Array.getElem?_modify]
    rw [if_neg this]
    exact h.block k hk hne⟩
theorem take_set (l : List Value) (m i : Nat) (v : Value) : (l.set i v).take m = (l.take m).set i v := by
  rw [List.take_set]
theorem CRow.set_ (h : CRow w0 w g c m ys) (i : Nat) (p : Part) : CRow w0 (w.setCell ⟨g, i, none⟩ p.v) g c m (ys.set i p) := by
  obtain ⟨cur, hb, hs, ht⟩ := h.blk
  refine ⟨⟨_, hb.set_ i p.v, by simpa using hs, ?_⟩, by simpa using h.len, h.le, grown_set h.gr i _⟩
  rw [Array.toList_setIfInBounds, take_set, ht]
  unfold partCells
  rw [List.map_set]
theorem CRow.some_ (h : CRow w0 w g c m ys) (i : Nat) (hi : i < m) : (w.cell? ⟨g, i, none⟩).isSome = true := by
  rw [h.cell i (by rw [h.len]; exact hi)]; rfl
theorem setCells_blk {t : TypeId} (vs : List Value) : ∀ (w : World) (cur : Array Value) (i : Nat), Blk w g t cur → ∃ cur' : Array Value, Blk (w.setCells g i vs) g t cur' ∧ cur'.size = cur.size ∧ (∀ j, j < i → cur'[j]? = cur[j]?) := by
  induction vs with
  | nil => intro w cur i h; exact ⟨cur, h, rfl, fun _ _ => rfl⟩
  | cons v vs ih =>
    intro w cur i h
    obtain ⟨cur', h1, h2, h3⟩ := ih _ _ (i + 1) (h.set_ i v)
    refine ⟨cur', h1, by simpa using h2, fun j hj => (h3 j (by omega)).trans ?_⟩
    rw [Array.getElem?_setIfInBounds]
    rw [if_neg (by omega)]
theorem grown_sets {a : World} (vs : List Value) : ∀ (w : World) (i : Nat), a.grownBy w (some g) → a.grownBy (w.setCells g i vs) (some g) := by
  induction vs with
  | nil => intro w i h; exact h
  | cons v vs ih => intro w i h; exact ih _ _ (grown_set h i v)
/-- Behind 'clear(s[k:])': the first k stay. -/
theorem CRow.cleared (h : CRow w0 w g c m ys) {base k : Nat} (hk : k ≤ m) (hb : base ≤ g) (hc : c ≤ maxLen) (vs : List Value) : (w.setCells g k vs).ownsRow base 32 1 (.slice (some ⟨g, 0, none⟩) k c) k (partCells (ys.take k)) ∧ w0.grownBy (w.setCells g k vs) (some g) := by
  obtain ⟨cur, hbk, hs, ht⟩ := h.blk
  obtain ⟨cur', h1, h2, h3⟩ := setCells_blk vs w cur k hbk
  have hl := h.len
  have hle := h.le
  refine ⟨⟨by simp [partCells]; omega, .inr ⟨g, c, cur', rfl, hb, h1, by omega, hc, by omega, ?_⟩⟩, grown_sets vs w k h.gr⟩
  rw [Nat.mul_one]
  apply List.ext_getElem?
  intro j
  by_cases hj : j < k
  · rw [List.getElem?_take_of_lt hj, Array.getElem?_toList, h3 j hj]
    have h5 : (cur.toList.take m)[j]? = (partCells ys)[j]? := by rw [ht]
    rw [List.getElem?_take_of_lt (by omega), Array.getElem?_toList] at h5
    rw [h5]
    simp [partCells, hj]
  · rw [List.getElem?_take_eq_none (by omega), List.getElem?_eq_none (by simp [partCells]; omega)]
theorem CRow.own (h : CRow w0 w g c m ys) {base : Nat} (hb : base ≤ g) (hc : c ≤ maxLen) : w.ownsRow base 32 1 (.slice (some ⟨g, 0, none⟩) m c) m (partCells ys) := by
  obtain ⟨cur, hbk, hs, ht⟩ := h.blk
  exact ⟨by rw [partCells_length, h.len, Nat.mul_one], .inr ⟨g, c, cur, rfl, hb, hbk, h.le, hc, by omega, by rw [Nat.mul_one]; exact ht⟩⟩
theorem CRow.of_own {base : Nat} (ho : w.ownsRow base 32 1 (.slice (some ⟨g, 0, none⟩) m c) m (partCells ys)) : CRow w w g c m ys ∧ base ≤ g ∧ c ≤ maxLen := by
  have hl : ys.length = m := by have := ho.1; rw [partCells_length] at this; omega
  rcases ho.2 with ⟨hv, _⟩ | ⟨g', cap, cur, hv, hbg, hh, h1, h2, h3, h4⟩
  · cases hv
  · injection hv with e1 e2 e3
    injection e1 with e1
    injection e1 with e1
    subst e1 e3
    exact ⟨⟨⟨cur, hh, by omega, by rwa [Nat.mul_one] at h4⟩, hl, h1, World.grownBy.refl _ _⟩, hbg, h2⟩
end
/-- What the loop of slices.CompactFunc has kept of the first q elements: the first k of ys. -/
structure Kept (ps ys : List Part) (m q k : Nat) : Prop where
  len : ys.length = m
  lt : k < q
  pos : 0 < k
  le : q ≤ m
  is : dd ((ps.take q).map (·.l)) = (ys.take k).map (·.l)
  rest : ∀ i (_hi : i < m) (h1 : i < ys.length) (h2 : i < ps.length), q ≤ i + 1 → ys[i] = ps[i]
  sub : ∀ y ∈ ys, y ∈ ps
theorem take_two {α : Type} (l : List α) (q : Nat) (h : q + 1 < l.length) : l.take (q + 2) = l.take q ++ [l[q], l[q + 1]] := by
  rw [List.take_succ_eq_append_getElem h, List.take_succ_eq_append_getElem (by omega), List.append_assoc]
  rfl
theorem dd_step (ps : List Part) (q : Nat) (h : q + 1 < ps.length) : dd ((ps.take (q + 2)).map (·.l)) = if (ps[q]).l = (ps[q + 1]).l then dd ((ps.take (q + 1)).map (·.l)) else dd ((ps.take (q + 1)).map (·.l)) ++ [(ps[q + 1]).l] := by
  rw [take_two ps q h, List.take_succ_eq_append_getElem (by omega), List.map_append, List.map_append]
  exact dd_snoc _ _ _
theorem Kept.same {ps ys : List Part} {m q k : Nat} (h : Kept ps ys m (q + 1) k) (hl : ps.length = m) (hq : q + 1 < m) (e : (ps[q]'(by omega)).l = (ps[q + 1]'(by omega)).l) : Kept ps ys m (q + 2) k :=
  ⟨h.len, Nat.lt_succ_of_lt h.lt, h.pos, hq, by rw [dd_step ps q (by omega), if_pos e]; exact h.is, fun i hi h1 h2 hqi => h.rest i hi h1 h2 (by omega), h.sub⟩
theorem Kept.next {ps ys : List Part} {m q k : Nat} (h : Kept ps ys m (q + 1) k) (hl : ps.length = m) (hq : q + 1 < m) (e : ¬ (ps[q]'(by omega)).l = (ps[q + 1]'(by omega)).l) : Kept ps (ys.set k (ps[q + 1]'(by omega))) m (q + 2) (k + 1) := by
  have hyl := h.len
  have hkq := h.lt
  refine ⟨by simpa using h.len, by omega, Nat.succ_pos _, hq, ?_, fun i hi h1 h2 hqi => ?_, fun y hy => ?_⟩
  · rw [dd_step ps q (by omega), if_neg e, h.is]
    have hk : k < (ys.set k (ps[q + 1]'(by omega))).length := by simp; omega
    rw [List.take_succ_eq_append_getElem hk, List.map_append, List.take_set_of_le (Nat.le_refl _)]
    simp
  · rw [List.getElem_set_ne (by omega)]
    exact h.rest i hi (by simpa using h1) h2 (by omega)
  · rcases List.mem_or_eq_of_mem_set hy with h1 | h1
    · exact h.sub y h1
    · rw [h1]; exact List.getElem_mem _
theorem Kept.start {ps : List Part} {m K0 : Nat} (hl : ps.length = m) (h0 : 0 < K0) (hm : K0 < m) (hd : dd ((ps.take K0).map (·.l)) = (ps.take K0).map (·.l)) (e : (ps[K0 - 1]'(by omega)).l = (ps[K0]'(by omega)).l) : Kept ps ps m (K0 + 1) K0 := by
  obtain ⟨j, rfl⟩ : ∃ j, K0 = j + 1 := ⟨K0 - 1, by omega⟩
  refine ⟨hl, Nat.lt_succ_self _, h0, hm, ?_, fun _ _ _ _ _ => rfl, fun _ h => h⟩
  rw [dd_step ps j (by omega), if_pos (show (ps[j]'(by omega)).l = (ps[j + 1]'(by omega)).l from e)]
  exact hd
/-- What slices.CompactFunc returns. -/
def OutCompact (base : Nat) (ps : List Part) (A : Option Addr) (w : World) (e : Ending) (w' : World) : Prop :=
  ∃ (k c : Nat) (qs : List Part), e = .returned (.slice A k c) ∧ w'.ownsRow base 32 1 (.slice A k c) k (partCells qs) ∧ TBs w' qs ∧ qs.map (·.l) = dd (ps.map (·.l)) ∧ w.grownBy w' (Value.slice A k c).ownBlock
set_option maxRecDepth 100000 in
set_option maxHeartbeats 4000000 in
theorem compact_any (base g m c : Nat) (ps : List Part) (w : World) (ho : w.ownsRow base 32 1 (.slice (some ⟨g, 0, none⟩) m c) m (partCells ps)) (h : TBs w ps) (hm : m ≤ 1000) :
    Calls Tryz.prog 13 #[.slice (some ⟨g, 0, none⟩) m c, .func (Fn.func 14) #[] #[]] w (OutCompact base ps (some ⟨g, 0, none⟩) w) := by
  obtain ⟨hc, hbg, hcm⟩ := CRow.of_own ho
  have hoff := h.off ho
  have htb : ∀ p ∈ ps, ∀ w', w.grownBy w' (some g) → TB w' p := fun p hp w' hg => (h p hp).kept hg (fun ad e e2 => (hoff p hp).2 ad e (by injection e2))
  have hl := hc.len
  have hmc := hc.le
  have HC := Lib.hid hc
  have HTB := Lib.hid htb
  have HO := Lib.hid ho
  have HH := Lib.hid h
  have HBG := Lib.hid hbg
  have HCM := Lib.hid hcm
  have hc63 : c ≤ 9223372036854775807 := by unfold maxLen at hcm; omega
  have hz : ∀ w, (zeroValue 32).run Tryz.prog w = .ok (.slice none 0 0) w := fun _ => by kernel_rfl
  clear ho h hc hbg hoff htb hcm
  by_cases h2 : m < 2
  · have hd : decide ((m : Int) < 2) = true := by simp; omega
    have HDD := Lib.hid (show ps.map (·.l) = dd (ps.map (·.l)) by
      rcases ps with _ | ⟨p, _ | ⟨q, ps⟩⟩
      · rfl
      · rfl
      · simp at hl; omega)
    go_enter Tryz.func13, Tryz.ntmps13
    go_wp2_with fail
    go_ret
    exact ⟨m, c, ps, rfl, HO.out, HH.out, HDD.out, World.grownBy.refl _ _⟩
  have hd : decide ((m : Int) < 2) = false := by simp; omega
  go_enter Tryz.func13, Tryz.ntmps13
  go_wp2_with fail
  go_loopw [5] (fun v wr => ∃ k : Nat, 0 < k ∧ k ≤ m ∧ v = .int .i64 k ∧ CRow w wr g c m ps ∧ dd ((ps.take k).map (·.l)) = (ps.take k).map (·.l)) (fun v _ => m + 1 - (intOf v).toNat)
  case atStart => exact ⟨1, by omega, by omega, rfl, HC.out, by
    rcases ps with _ | ⟨p, ps⟩
    · rfl
    · rfl⟩
  case round =>
    obtain ⟨k, hk0, hk, rfl, hcr, hdd⟩ := hrel
    have HR := Lib.hid hcr
    have HD := Lib.hid hdd
    clear hcr hdd
    by_cases hlt : k < m
    · obtain ⟨j, hkj⟩ : ∃ j, k = j + 1 := ⟨k - 1, by omega⟩
      have hw : IntKind.i64.wrap ((k : Int) - 1) = (j : Int) := by rw [IntKind.wrap_i64]; omega
      have hj0 : j < ps.length := by omega
      have hk1 : k < ps.length := by omega
      have c0 := HR.out.cell j hj0
      have c1 := HR.out.cell k hk1
      have t0 := HTB.out _ (List.getElem_mem hj0) wr HR.out.gr
      have t1 := HTB.out _ (List.getElem_mem hk1) wr HR.out.gr
      have HST := Lib.hid (fun (hd : dd ((ps.take k).map (·.l)) = (ps.take k).map (·.l)) (e : (ps[j]).l = (ps[k]).l) => Kept.start (K0 := k) hl hk0 hlt hd (by
        have : k - 1 = j := by omega
        simp only [this]
        exact e))
      have HNX := Lib.hid (fun (hd : dd ((ps.take k).map (·.l)) = (ps.take k).map (·.l)) (e : ¬ (ps[j]).l = (ps[k]).l) => (show dd ((ps.take (k + 1)).map (·.l)) = (ps.take (k + 1)).map (·.l) by
        subst hkj
        rw [dd_step ps j hk1, if_neg e, hd, List.take_succ_eq_append_getElem hk1, List.map_append]; rfl))
      generalize ps[j] = p at *
      generalize ps[k] = q at *
      unfold Part.v at c0 c1
      have HEQ := Lib.hid (fun n => equal_any q.A p.A q.n q.c p.n p.c q.l p.l (wr.drewN n) ((t1.below (below_drewN (Below.refl _ wr) n)).rb) ((t0.below (below_drewN (Below.refl _ wr) n)).rb))
      have hck : ¬ (c = k) := by omega
      have hjm : j < m := by omega
      clear t0 t1 hj0 hk1 hkj
      by_cases hqp : p.l = q.l
      · have HST2 := Lib.hid (HST.out HD.out hqp)
        rw [hqp, beq_self_eq_true] at HEQ
        clear HST HNX
        go_wp2_with fail
        go_quiet (first | (go_at_call 14; exact quiet_left (HEQ.out _)))
        obtain ⟨L2, hL2⟩ : ∃ L2, L2 = m - k := ⟨_, rfl⟩
        go_wp2_with fail
        rw [← hL2]
        have HL2 := Lib.hid hL2
        clear hL2 c0 c1 HEQ hw
        go_loopw [5, 7] (fun v v2 wi => ∃ (i kk : Nat) (ys : List Part), v = .int .i64 kk ∧ v2 = .int .i64 i ∧ 0 < i ∧ k + i ≤ m ∧ CRow w wi g c m ys ∧ Kept ps ys m (k + i) kk) (fun _ v2 _ => m - (intOf v2).toNat)
        case atStart => exact ⟨1, k, ps, rfl, rfl, by omega, by omega, HR.out.drewN _, HST2.out⟩
        case round =>
          obtain ⟨i, kk, ys, rfl, rfl, hi0, hiq, hcr, hkp⟩ := hrel
          have HRi := Lib.hid hcr
          have HKi := Lib.hid hkp
          clear hcr hkp
          have hL := HL2.out
          by_cases hi : i < L2
          · obtain ⟨e, hie⟩ : ∃ e, i = e + 1 := ⟨i - 1, by omega⟩
            have hw2 : IntKind.i64.wrap ((i : Int) - 1) = (e : Int) := by rw [IntKind.wrap_i64]; omega
            have heL : e < L2 := by omega
            have hyl := HKi.out.len
            have hy0 : k + e < ys.length := by omega
            have hy1 : k + i < ys.length := by omega
            have e0 := HRi.out.cell (k + e) hy0
            have e1 := HRi.out.cell (k + i) hy1
            have hp0 : k + e < ps.length := by omega
            have hp1 : k + i < ps.length := by omega
            have r0 := HKi.out.rest (k + e) (by omega) hy0 hp0 (by omega)
            have r1 := HKi.out.rest (k + i) (by omega) hy1 hp1 (by omega)
            rw [r0] at e0
            rw [r1] at e1
            have hkk := HKi.out.lt
            have hkk0 := HKi.out.pos
            have e2 := HRi.out.cell kk (by omega)
            have f2 := HRi.out.frozen kk
            have hkm : kk < m := by omega
            have hckk : ¬ (c = kk) := by omega
            have t0 := HTB.out _ (List.getElem_mem hp0) wr HRi.out.gr
            have t1 := HTB.out _ (List.getElem_mem hp1) wr HRi.out.gr
            have HSM := Lib.hid (fun (e' : (ps[k + e]).l = (ps[k + i]).l) => (show Kept ps ys m (k + i + 1) kk by
              subst hie
              exact Kept.same (q := k + e) (HKi.out) hl (by omega) e'))
            have HNX2 := Lib.hid (fun (e' : ¬ (ps[k + e]).l = (ps[k + i]).l) => (show Kept ps (ys.set kk ps[k + i]) m (k + i + 1) (kk + 1) by
              subst hie
              exact Kept.next (q := k + e) (HKi.out) hl (by omega) e'))
            generalize ps[k + e] = p2 at *
            generalize ps[k + i] = q2 at *
            generalize ys[kk] = y2 at *
            unfold Part.v at e0 e1
            have HEQ2 := Lib.hid (fun n => equal_any q2.A p2.A q2.n q2.c p2.n p2.c q2.l p2.l (wr.drewN n) ((t1.below (below_drewN (Below.refl _ wr) n)).rb) ((t0.below (below_drewN (Below.refl _ wr) n)).rb))
            clear t0 t1 hy0 hy1 hp0 hp1 r0 r1 hie
            by_cases hq2 : p2.l = q2.l
            · have HS2 := Lib.hid (HSM.out hq2)
              rw [hq2, beq_self_eq_true] at HEQ2
              clear HSM HNX2
              go_wp2_with fail
              go_quiet (first | (go_at_call 14; exact quiet_left (HEQ2.out _)))
              go_wp2_with fail
              go_roundw
              case rel => exact ⟨i + 1, kk, ys, rfl, by go_num, by omega, by omega, HRi.out.drewN _, HS2.out⟩
              case measure => simp [intOf]; omega
            · have HN2 := Lib.hid (HNX2.out hq2)
              rw [show (q2.l == p2.l) = false from by simp; exact fun e' => hq2 e'.symm] at HEQ2
              clear HSM HNX2
              go_wp2_with fail
              go_quiet (first | (go_at_call 14; exact quiet_left (HEQ2.out _)))
              go_wp2_with fail
              go_roundw
              case rel => exact ⟨i + 1, kk + 1, ys.set kk q2, by go_num, by go_num, by omega, by omega, (HRi.out.drewN _).set_ kk q2, HN2.out⟩
              case measure => simp [intOf]; omega
          · have hqm : k + i = m := by omega
            have hkp := HKi.out
            rw [hqm] at hkp
            have hkk := hkp.lt
            have hckk : ¬ (c = kk) := by omega
            have hclr := fun ty cc => Lib.run_clear_slice (P := Tryz.prog) wr 29 32 ty (.slice none 0 0) Tryz.underlying29 hz rfl rfl g kk (m - kk) cc (by omega) (fun j hj => HRi.out.some_ (kk + j) (by omega)) (fun j _ => HRi.out.frozen (kk + j))
            have hfin := HRi.out.cleared (k := kk) (Nat.le_of_lt hkk) HBG.out HCM.out (List.replicate (m - kk) (.slice none 0 0))
            have HF := Lib.hid hfin
            have HDD := Lib.hid (show (ys.take kk).map (·.l) = dd (ps.map (·.l)) by
              have := hkp.is
              rw [List.take_of_length_le (by omega)] at this
              exact this.symm)
            have HSUB := Lib.hid hkp.sub
            generalize wr.setCells g kk (List.replicate (m - kk) (.slice none 0 0)) = w9 at *
            clear hkp hfin
            go_wp2_with fail
            go_ret
            exact ⟨kk, c, ys.take kk, rfl, HF.out.1, fun p hp => HTB.out p (HSUB.out p (List.mem_of_mem_take hp)) _ HF.out.2, HDD.out, HF.out.2⟩
      · have HNX2 := Lib.hid (HNX.out HD.out hqp)
        rw [show (q.l == p.l) = false from by simp; exact fun e => hqp e.symm] at HEQ
        clear HST HNX
        go_wp2_with fail
        go_quiet (first | (go_at_call 14; exact quiet_left (HEQ.out _)))
        go_wp2_with fail
        go_roundw
        case rel => exact ⟨k + 1, by omega, by omega, by go_num, HR.out.drewN _, HNX2.out⟩
        case measure => simp [intOf]; omega
    · obtain rfl : k = m := by omega
      have HDD := Lib.hid (show ps.map (·.l) = dd (ps.map (·.l)) by
        have := HD.out
        rw [List.take_of_length_le (by omega)] at this
        exact this.symm)
      go_wp2_with fail
      go_ret
      exact ⟨k, c, ps, rfl, HR.out.own HBG.out HCM.out, fun p hp => HTB.out p hp _ HR.out.gr, HDD.out, HR.out.gr⟩
end Go.Proofs.YtkmieonfhcmimaaGreatDoor

/- spec.AddrSplit: the address ahead of the ID that stands last, and the ID. -/
namespace Go.Proofs.YtkmieonfhcmimaaGreatDoor
open Go.RowKit
attribute [local go_sem ↓] Go.wp_at_zero Go.wp_at_succ
/-- Two slices of bytes. -/
def OutBB (t u : List UInt8) (w : World) (e : Ending) (w' : World) : Prop :=
  ∃ A c B d, e = .returned (.tuple #[.slice A t.length c, .slice B u.length d]) ∧ RB w' w'.heap.size A t.length c t ∧ RB w' w'.heap.size B u.length d u ∧ Below w.heap.size w w'
/-- What stands ahead of the ID that stands last, and the ID. -/
def splitOf (hs : List Hop) (h : Hop) : List UInt8 × List UInt8 := if h.kd % 8 = 6 then (addrBytes hs, idOf h.l) else (addrBytes (hs ++ [h]), [])

set_option maxRecDepth 100000 in
set_option maxHeartbeats 2000000 in
theorem ssplit_other (A : Option Addr) (c : Nat) (hs : List Hop) (h : Hop) (w : World) (hh : HS w w.heap.size A (hs.length + 1) c (hs ++ [h])) (hn : hs.length ≤ 900) (hd : ∀ i (hi : i < (hs ++ [h]).length), ((hs ++ [h])[i]).n ≤ 100000) (hk : h.kd % 8 ≠ 6) :
    Calls Tryz.prog 10 #[.slice A (hs.length + 1) c] w (OutBB (addrBytes (hs ++ [h])) [] w) := by
  have HC := Lib.hid (addrof_any A _ c (hs ++ [h]) w hh (by omega) hd)
  obtain ⟨ad, rfl, hbk, c0, _, _⟩ := hh.at_ hs.length (by simp)
  have e1 : (hs ++ [h])[hs.length]'(by simp) = h := by simp
  rw [e1] at c0
  have k8 : ((h.kd : Int) % 8 == 6) = false := by simp; omega
  have k8' : ((h.kd : Int) % 8 != 6) = true := by simp; omega
  have k0 : (0 : Int) ≤ (hs.length : Int) := by omega
  have hz : IntKind.i64.wrap ((hs.length : Int) + 1 - 1) = (hs.length : Int) := by rw [show (hs.length : Int) + 1 - 1 = hs.length by omega]; exact IntWalk.i64_in _ (by omega)
  clear hh e1
  go_enter Tryz.func10, Tryz.ntmps10
  go_wp2_with fail
  refine HC.out.mono ?_
  rintro e w1 ⟨v, rfl, ho, hb⟩
  obtain ⟨A1, c1, rfl⟩ := own_slice ho
  have HR := Lib.hid (RB.of_own ho)
  have HB := Lib.hid hb
  clear ho hb
  go_wp2_with fail
  go_ret2
  exact ⟨A1, c1, none, 0, rfl, HR.out, RB.nil_ _ _, HB.out⟩

set_option maxRecDepth 100000 in
set_option maxHeartbeats 2000000 in
theorem ssplit_id (A : Option Addr) (c : Nat) (hs : List Hop) (h : Hop) (w : World) (hh : HS w w.heap.size A (hs.length + 1) c (hs ++ [h])) (hn : hs.length ≤ 900) (hd : ∀ i (hi : i < (hs ++ [h]).length), ((hs ++ [h])[i]).n ≤ 100000) (hk : h.kd % 8 = 6) :
    Calls Tryz.prog 10 #[.slice A (hs.length + 1) c] w (OutBB (addrBytes hs) (idOf h.l) w) := by
  have htk := hh.take (k := hs.length) (by omega)
  rw [List.take_left] at htk
  have hdi : ∀ i (hi : i < hs.length), (hs[i]).n ≤ 100000 := fun i hi => by have := hd i (by simp; omega); rwa [List.getElem_append_left hi] at this
  have hdl := hd hs.length (by simp)
  have hcap := hh.cap
  have hmax : c ≤ 9223372036854775807 := hh.max
  obtain ⟨ad, rfl, hbk, c0, c1, hr⟩ := hh.at_ hs.length (by simp)
  have e1 : (hs ++ [h])[hs.length]'(by simp) = h := by simp
  rw [e1] at c0 c1 hr hdl
  rw [add_succ _ _ 1 (by decide)] at c1
  have HTK := Lib.hid htk
  have HDI := Lib.hid hdi
  have HR := Lib.hid hr
  have k8 : ((h.kd : Int) % 8 == 6) = true := by simp; omega
  have k8' : ((h.kd : Int) % 8 != 6) = false := by simp; omega
  have k0 : (0 : Int) ≤ (hs.length : Int) := by omega
  have k1 : (hs.length : Int) ≤ (c : Int) := by omega
  have hz : IntKind.i64.wrap ((hs.length : Int) + 1 - 1) = (hs.length : Int) := by rw [show (hs.length : Int) + 1 - 1 = hs.length by omega]; exact IntWalk.i64_in _ (by omega)
  obtain ⟨aa, haa⟩ : ∃ aa, aa = ad.add (hs.length * 2) := ⟨_, rfl⟩
  have hblk : (⟨aa.block, aa.off + 1, none⟩ : Addr).block < w.heap.size := by rw [haa]; simp only [block_of_add]; exact hbk
  rw [← haa] at c0 c1
  have HAA := Lib.hid haa
  have haa' := haa.symm
  clear hh e1 htk hdi hr haa hd
  go_enter Tryz.func10, Tryz.ntmps10
  go_wp2_with fail
  go_region_held3 (fun w' => Below w.heap.size w w' ∧ w'.cell? ⟨aa.block, aa.off + 1, none⟩ = some (.slice h.A h.n h.c))
    (first | exact ⟨(Below.refl _ _).drew, c1⟩ | with_reducible assumption)
    (first
      | (go_at_call 23; have hS1 := ‹RowKit.Below w.heap.size w _ ∧ _›; refine (addrof_any _ hs.length c hs _ ((HTK.out.below hS1.1).more hS1.1.size) (by omega) HDI.out).mono ?_; rintro e w4 ⟨v4, rfl, ho4, hb4⟩; obtain ⟨A4, c4, rfl⟩ := own_slice ho4; have hR4 := RB.of_own ho4; have hS4 := keep1 hb4 hS1; clear hS1)
      | (go_at_call 30; have hS1 := ‹RowKit.Below w.heap.size w _ ∧ _›; refine (id_any h.A h.n h.c h.l _ ((HR.out.below hS1.1).more hS1.1.size) hdl).mono ?_; rintro e w5 ⟨v5, rfl, ho5, hb5⟩; obtain ⟨A5, c5, rfl⟩ := own_slice ho5; have hR5 := RB.of_own ho5; have hR6 := hR4.next hb5; have hS5 := keep1 hb5 hS1; clear hS1))
  have HR5 := Lib.hid hR5
  have HR6 := Lib.hid hR6
  have HB := Lib.hid hS5.1
  clear hR5 hR6 hS5 hR4 hS4 ho4 ho5 hb4 hb5
  go_wp2_with fail
  go_ret2
  exact ⟨A4, c4, A5, c5, rfl, HR6.out, HR5.out, HB.out⟩
end Go.Proofs.YtkmieonfhcmimaaGreatDoor

/- The guards of the laws: the sizes, and the short addresses. -/
namespace Go.Proofs.YtkmieonfhcmimaaGreatDoor
open Go.RowKit
attribute [local go_sem ↓] Go.wp_at_zero Go.wp_at_succ
/-- Some truth value. -/
def OutT (w : World) (e : Ending) (w' : World) : Prop := ∃ b, e = .returned (.bool b) ∧ Below w.heap.size w w'
set_option maxRecDepth 100000 in
set_option maxHeartbeats 2000000 in
theorem fits2_any (kd : Nat) (A : Option Addr) (n c : Nat) (w : World) : Calls Tryz.prog 42 #[.agg #[.int .u8 kd, .slice A n c]] w (OutT w) := by
  have HB := Lib.hid ((Below.refl _ w).alloc (Nat.le_refl _) (.cells #[.int .u8 kd, .slice A n c] 50))
  go_enter Tryz.func42, Tryz.ntmps42
  by_cases hn : n ≤ 2147483647
  · have hd : decide ((2147483647 : Int) < (n : Int)) = false := by simp; omega
    go_wp2_with fail
    go_ret
    exact ⟨_, rfl, HB.out⟩
  · have hd : decide ((2147483647 : Int) < (n : Int)) = true := by simp; omega
    go_wp2_with fail
    go_ret
    exact ⟨_, rfl, HB.out⟩
set_option maxRecDepth 100000 in
set_option maxHeartbeats 2000000 in
theorem fits1_any (A : Option Addr) (n c : Nat) (hs : List Hop) (w : World) (h : HS w w.heap.size A n c hs) : Calls Tryz.prog 21 #[.slice A n c] w (OutT w) := by
  have HH := Lib.hid h
  have HL := Lib.hid h.len
  clear h
  go_enter Tryz.func21, Tryz.ntmps21
  by_cases hn : n ≤ 2147483647
  · have hd : decide ((2147483647 : Int) < (n : Int)) = false := by simp; omega
    go_wp2_with fail
    go_loopw [10] (fun i wr => ∃ k : Nat, k ≤ n ∧ i = .int .i64 k ∧ Below w.heap.size w wr) (fun i _ => n - (intOf i).toNat)
    case atStart => exact ⟨0, by omega, rfl, Below.refl _ _⟩
    case round =>
      obtain ⟨k, hk, rfl, hb⟩ := hrel
      have HB := Lib.hid hb
      clear hb
      by_cases hlt : k < n
      · obtain ⟨ad, rfl, hbk, c0, c1, _⟩ := (HH.out.below HB.out).at_ k (by rw [HL.out]; exact hlt)
        generalize hs[k]'(by rw [HL.out]; exact hlt) = hp at *
        rw [add_succ _ _ 1 (by decide)] at c1
        have HBW := Lib.hid (HB.out.alloc HB.out.size (.cells #[.int .u8 hp.kd, .slice hp.A hp.n hp.c] 50))
        go_wp2_with fail
        refine (fits2_any hp.kd hp.A hp.n hp.c _).mono ?_
        rintro e w3 ⟨b, rfl, hb3⟩
        have HB3 := Lib.hid (HBW.out.trans (hb3.mono HBW.out.size))
        clear hb3
        cases b
        · go_wp2_with fail
          go_ret
          exact ⟨_, rfl, HB3.out⟩
        · go_wp2_with fail
          exact ⟨⟨k + 1, by omega, by go_num, HB3.out⟩, by simp [intOf]; omega⟩
      · go_wp2_with fail
        go_ret
        exact ⟨_, rfl, HB.out⟩
  · have hd : decide ((2147483647 : Int) < (n : Int)) = true := by simp; omega
    go_wp2_with fail
    go_ret
    exact ⟨_, rfl, Below.refl _ _⟩
set_option maxRecDepth 100000 in
set_option maxHeartbeats 2000000 in
theorem short_any (A : Option Addr) (n c g : Nat) (hs : List Hop) (w : World) (h : HS w w.heap.size A n c hs) (hg : w.cell? ⟨g, 0, none⟩ = some (.slice A n c)) :
    Calls Tryz.prog 6 #[.slice (some ⟨g, 0, none⟩) 1 1] w fun e w' => (e = .returned (.bool false) ∨ e = .returned (.bool true) ∧ n ≠ 0 ∧ n ≤ 20 ∧ ∀ i (hi : i < hs.length), (hs[i]).n ≤ 100) ∧ Below w.heap.size w w' := by
  have HH := Lib.hid h
  have HL := Lib.hid h.len
  have HG := Lib.hid hg
  clear h hg
  go_enter Tryz.func6, Tryz.ntmps6
  go_wp2_with fail
  go_loopw [9] (fun i wr => ∃ k : Nat, k ≤ 1 ∧ i = .int .i64 k ∧ (k = 0 ∨ n ≠ 0 ∧ n ≤ 20 ∧ ∀ i (hi : i < hs.length), (hs[i]).n ≤ 100) ∧ Below w.heap.size w wr) (fun i _ => 1 - (intOf i).toNat)
  case atStart => exact ⟨0, by omega, rfl, Or.inl rfl, Below.refl _ _⟩
  case round =>
    obtain ⟨k, hk, rfl, hor, hb⟩ := hrel
    have HB := Lib.hid hb
    clear hb
    by_cases hlt : k < 1
    · obtain rfl : k = 0 := by omega
      have hgw : wr.cell? ⟨g, 0, none⟩ = some (.slice A n c) := (HB.out.cell (World.block_lt_of_cell? _ _ HG.out)).trans HG.out
      clear hor
      by_cases hn0 : n = 0
      · have hd0 : ((n : Int) == 0) = true := by simp; omega
        clear hn0
        go_wp2_with fail
        go_ret
        exact ⟨Or.inl rfl, HB.out⟩
      · have hd0 : ((n : Int) == 0) = false := by simp; omega
        have HN0 := Lib.hid hn0
        clear hn0
        by_cases hn2 : n ≤ 20
        · have hd2 : decide ((20 : Int) < (n : Int)) = false := by simp; omega
          go_wp2_with fail
          go_loopw [23] (fun i wr => ∃ k : Nat, k ≤ n ∧ i = .int .i64 k ∧ (∀ i (hi : i < hs.length), i < k → (hs[i]).n ≤ 100) ∧ Below w.heap.size w wr) (fun i _ => n - (intOf i).toNat)
          case atStart => exact ⟨0, by omega, rfl, fun _ _ h => absurd h (by omega), HB.out⟩
          case round =>
            obtain ⟨k, hk, rfl, hall, hb⟩ := hrel
            have HB := Lib.hid hb
            have HALL := Lib.hid hall
            clear hb hall
            by_cases hlt : k < n
            · obtain ⟨ad, rfl, hbk, c0, c1, _⟩ := (HH.out.below HB.out).at_ k (by rw [HL.out]; exact hlt)
              generalize hhp : hs[k]'(by rw [HL.out]; exact hlt) = hp at *
              have HHP := Lib.hid hhp
              clear hhp
              rw [add_succ _ _ 1 (by decide)] at c1
              have HBW := Lib.hid (HB.out.alloc HB.out.size (.cells #[.int .u8 hp.kd, .slice hp.A hp.n hp.c] 50))
              by_cases h100 : hp.n ≤ 100
              · have hd3 : decide ((100 : Int) < (hp.n : Int)) = false := by simp; omega
                go_wp2_with fail
                go_roundw
                case rel =>
                  refine ⟨k + 1, by omega, by go_num, fun i hi hik => ?_, HBW.out⟩
                  by_cases e : i = k
                  · subst e; rw [HHP.out]; exact h100
                  · exact HALL.out i hi (by omega)
                case measure => simp [intOf]; omega
              · have hd3 : decide ((100 : Int) < (hp.n : Int)) = true := by simp; omega
                go_wp2_with fail
                go_ret
                exact ⟨Or.inl rfl, HBW.out⟩
            · have hfin : ∀ i (hi : i < hs.length), (hs[i]).n ≤ 100 := fun i hi => HALL.out i hi (by have := HL.out; omega)
              have HF := Lib.hid hfin
              clear hfin
              go_wp2_with fail
              go_roundw
              case rel => exact ⟨1, by omega, rfl, Or.inr ⟨HN0.out, hn2, HF.out⟩, HB.out⟩
              case measure => simp [intOf]
        · have hd2 : decide ((20 : Int) < (n : Int)) = true := by simp; omega
          go_wp2_with fail
          go_ret
          exact ⟨Or.inl rfl, HB.out⟩
    · obtain rfl : k = 1 := by omega
      have HOR := Lib.hid hor
      clear hor
      go_wp2_with fail
      go_ret
      exact ⟨Or.inr ⟨rfl, by have := HOR.out; simpa using this⟩, HB.out⟩
end Go.Proofs.YtkmieonfhcmimaaGreatDoor
