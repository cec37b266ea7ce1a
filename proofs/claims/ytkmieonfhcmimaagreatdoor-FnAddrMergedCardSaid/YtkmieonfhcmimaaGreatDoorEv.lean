/- laws.addrMerged: peers of two lists, each once. No condition. -/
import Derived.Test.YtkmieonfhcmimaaGreatDoorLm
import Derived.Test.YtkmieonfhcmimaaGreatDoorPt
import Derived.Test.YtkmieonfhcmimaaGreatDoorLb
import Derived.Test.YtkmieonfhcmimaaGreatDoorQh
import Derived.Test.YtkmieonfhcmimaaGreatDoorPo
import Derived.ChangeSlices
import Derived.ChangeArms
namespace Go.Proofs.YtkmieonfhcmimaaGreatDoor
open Go Go.RowKit Go.Sort
attribute [local go_sem ↓] Go.wp_at_zero Go.wp_at_succ
theorem cells_len (xs : List Peer) : (xs.flatMap Who.cells).length = xs.length * 2 := by
  induction xs with
  | nil => rfl
  | cons x xs ih => rw [List.flatMap_cons, List.length_append, ih, List.length_cons]; simp [Who.cells]; omega
theorem cells_take (xs : List Peer) (k : Nat) (hk : k ≤ xs.length) : (xs.flatMap Who.cells).take (k * 2) = (xs.take k).flatMap Who.cells ∧ (xs.flatMap Who.cells).drop (k * 2) = (xs.drop k).flatMap Who.cells := by
  have h1 : xs.flatMap Who.cells = (xs.take k).flatMap Who.cells ++ (xs.drop k).flatMap Who.cells := by rw [← List.flatMap_append, List.take_append_drop]
  have h2 : ((xs.take k).flatMap Who.cells).length = k * 2 := by rw [cells_len, List.length_take, Nat.min_eq_left hk]
  rw [h1]
  exact ⟨by rw [← h2, List.take_left], by rw [← h2, List.drop_left]⟩
theorem cells_ins (xs : List Peer) (z : Peer) (k : Nat) (hk : k ≤ xs.length) : (xs.flatMap Who.cells).take (k * 2) ++ [z.p.v, .slice z.A z.n z.c] ++ (xs.flatMap Who.cells).drop (k * 2) = (xs.take k ++ z :: xs.drop k).flatMap Who.cells := by
  rw [(cells_take xs k hk).1, (cells_take xs k hk).2, List.flatMap_append, List.flatMap_cons, List.append_assoc]
  rfl
theorem cells_set : ∀ (xs : List Peer) (k : Nat) (hk : k < xs.length) (y : Peer), y.p = (xs[k]).p → (xs.set k y).flatMap Who.cells = (xs.flatMap Who.cells).set (k * 2 + 1) (.slice y.A y.n y.c)
  | [], k, hk, _, _ => by simp at hk
  | x :: xs, 0, _, y, h => by
    have h2 : y.p = x.p := h
    show y.p.v :: .slice y.A y.n y.c :: xs.flatMap Who.cells = _
    rw [h2]
    rfl
  | x :: xs, k + 1, hk, y, h => by
    have ih := cells_set xs k (by simpa using hk) y (by simpa using h)
    show x.p.v :: .slice x.A x.n x.c :: (xs.set k y).flatMap Who.cells = _
    rw [ih, show (k + 1) * 2 + 1 = (k * 2 + 1) + 1 + 1 by omega]
    rfl
theorem cells_one (xs : List Peer) : ∀ u ∈ xs.flatMap Who.cells, u.oneCell' = true := by
  intro u hu
  obtain ⟨x, _, hx⟩ := List.mem_flatMap.1 hu
  simp [Who.cells] at hx
  rcases hx with rfl | rfl <;> rfl
theorem own_setCell {w : World} {base : Nat} {e : TypeId} {g n c s j : Nat} {xs : List Value} (h : w.ownsRow base e s (.slice (some ⟨g, 0, none⟩) n c) n xs) (u : Value) (_hj : j < xs.length) : (w.setCell ⟨g, j, none⟩ u).ownsRow base e s (.slice (some ⟨g, 0, none⟩) n c) n (xs.set j u) := by
  obtain ⟨hbg, hnc, hcm, hxl, cur, hh, hcs, htk⟩ := own_block h
  refine ⟨by simpa using hxl, .inr ⟨g, c, _, rfl, hbg, (show Blk w g e cur from hh).set_ j u, hnc, hcm, by simpa using hcs, ?_⟩⟩
  rw [Array.toList_setIfInBounds, take_set, htk]
/-- What laws.addrMerged returns. -/
def OutMerged (zs : List Peer) (w : World) (e : Ending) (w' : World) : Prop :=
  ∃ v outs, e = .returned v ∧ w'.ownsRow w.heap.size 44 2 v (List.length outs) (outs.flatMap Who.cells) ∧ (∀ o ∈ outs, PeerT w' o ∧ o.n ≤ 100 * zs.length) ∧ Merged outs zs ∧ Below w.heap.size w w'
set_option maxRecDepth 100000 in
set_option maxHeartbeats 4000000 in
theorem merged_any (A B : Option Addr) (n c m d : Nat) (xs ys : List Peer) (w : World) (h1 : Reads w w.heap.size 2 A n (xs.flatMap Who.cells)) (h2 : Reads w w.heap.size 2 B m (ys.flatMap Who.cells)) (hp : ∀ x ∈ xs ++ ys, PeerT w x ∧ x.n ≤ 100) (hl1 : xs.length = n) (hl2 : ys.length = m) (hn : n ≤ 100) (hm : m ≤ 100) :
    Calls Tryz.prog 19 #[.slice A n c, .slice B m d] w (OutMerged (xs ++ ys) w) := by
  have hw0 := (Below.refl _ w).alloc (Nat.le_refl _) (.cells #[.slice A n c, .slice B m d] 26)
  have hk0 : Blk (w.alloc (.cells #[.slice A n c, .slice B m d] 26)) w.heap.size 26 #[.slice A n c, .slice B m d] := Blk.new _ _ _
  have hsz : segSize [⟨A, n, c, xs.flatMap Who.cells⟩, ⟨B, m, d, ys.flatMap Who.cells⟩] = n + m := by simp [segSize]
  have hall : segAll [⟨A, n, c, xs.flatMap Who.cells⟩, ⟨B, m, d, ys.flatMap Who.cells⟩] = (xs ++ ys).flatMap Who.cells := by simp [segAll]
  have hcon := concatI [⟨A, n, c, xs.flatMap Who.cells⟩, ⟨B, m, d, ys.flatMap Who.cells⟩] w.heap.size 2 _ (fun k hk => by
      have hk2 : k = 0 ∨ k = 1 := by simp at hk; omega
      rcases hk2 with rfl | rfl
      · exact hk0.cell 0
      · exact hk0.cell 1) hk0.lt (by simp) (fun p hp => by
      simp at hp
      rcases hp with rfl | rfl
      · exact ⟨h1.next hw0, cells_one _⟩
      · exact ⟨h2.next hw0, cells_one _⟩) (by rw [hsz]; omega)
  rw [hsz, hall] at hcon
  have hzl : (xs ++ ys).length = n + m := by simp [hl1, hl2]
  generalize xs ++ ys = zs at *
  have HC := Lib.hid hcon
  have HW0 := Lib.hid hw0
  have HP := Lib.hid hp
  have HZL := Lib.hid hzl
  clear hcon hw0 hk0 hsz hall hp hzl h1 h2 hl1 hl2
  go_enter Tryz.func19, Tryz.ntmps19
  go_wp2_with fail
  refine HC.out.mono ?_
  rintro e w1 ⟨vz, rfl, hoz, hb1⟩
  obtain ⟨Az, cz, rfl⟩ := own_slice hoz
  have HZ := Lib.hid (Reads.of_own hoz)
  have HB1 := Lib.hid (HW0.out.trans (hb1.mono HW0.out.size))
  clear hoz hb1
  have HPZ := Lib.hid (show ∀ z ∈ zs, PeerT w1 z ∧ z.n ≤ 100 from fun z hz => ⟨(HP.out z hz).1.below HB1.out, (HP.out z hz).2⟩)
  go_wp2_with fail
  go_loopw [5, 15] (fun v i wr => ∃ k : Nat, k ≤ n + m ∧ i = .int .i64 k ∧ Below w1.heap.size w1 wr ∧ ∃ outs : List Peer, wr.ownsRow w1.heap.size 44 2 v outs.length (outs.flatMap Who.cells) ∧ (∀ o ∈ outs, PeerT wr o ∧ o.n ≤ 100 * k) ∧ Merged outs (zs.take k)) (fun _ i _ => n + m - (intOf i).toNat)
  case atStart => exact ⟨0, by omega, rfl, Below.refl _ _, [], World.ownsRow_nil _ _ _ _, fun o ho => by simp at ho, Merged.nil⟩
  case round =>
    obtain ⟨k, hk, rfl, hb, outs, hown, hpo, hmg⟩ := hrel
    have HB := Lib.hid hb
    have HO := Lib.hid hown
    have HPO := Lib.hid hpo
    have HM := Lib.hid hmg
    have hol : outs.length ≤ k := by have := hmg.len; simp at this; omega
    clear hb hown hpo hmg
    obtain ⟨Ao, co, rfl⟩ := own_slice HO.out
    by_cases hlt : k < n + m
    · have hkz : k < zs.length := by rw [HZL.out]; exact hlt
      obtain ⟨ad, rfl, hbk, hcell⟩ := (HZ.out.below HB.out).2 (by omega)
      have hg := cells_get zs k hkz
      have c0 := hcell _ _ hg.1
      have c1 := hcell _ _ hg.2
      rw [add_succ _ _ 1 (by decide)] at c1
      have hbk2 : ad.block < wr.heap.size := Nat.lt_of_lt_of_le hbk HB.out.size
      have htk : zs.take (k + 1) = zs.take k ++ [zs[k]] := List.take_succ_eq_append_getElem hkz
      have hzt := HPZ.out _ (List.getElem_mem hkz)
      generalize zs[k] = z at *
      unfold Part.v at c0
      have hba := (Below.refl _ wr).alloc (Nat.le_refl _) (.cells #[.slice z.p.A z.p.n z.p.c, .slice z.A z.n z.c] 44)
      have hka : Blk (wr.alloc (.cells #[.slice z.p.A z.p.n z.p.c, .slice z.A z.n z.c] 44)) wr.heap.size 44 #[.slice z.p.A z.p.n z.p.c, .slice z.A z.n z.c] := Blk.new _ _ _
      have hzta := (hzt.1.below HB.out).below hba
      have HBS := Lib.hid (bsearch outs Ao outs.length co z.p _ (Reads.of_own (own_below HO.out hba)) (fun o ho => (((HPO.out o ho).1).below hba).tb.rb) hzta.tb.rb HM.out.rises rfl (by omega))
      have HBA := Lib.hid hba
      have HKA := Lib.hid hka
      have HTK := Lib.hid htk
      have HZT := Lib.hid hzta
      have HZN := Lib.hid hzt.2
      have hz100 := hzt.2
      clear hcell hg hkz htk hzt hba hka hzta
      go_wp2_with fail
      refine HBS.out.mono ?_
      rintro e w3 ⟨kk, f, rfl, hst, hf, hb3⟩
      have HB3 := Lib.hid (HBA.out.trans (hb3.mono HBA.out.size))
      have HST := Lib.hid hst
      have HF := Lib.hid hf
      have hk3 := HKA.out.below hb3 HKA.out.lt
      have d0 := hk3.cell 0
      have d1 := hk3.cell 1
      have HK3 := Lib.hid hk3
      have HZ3 := Lib.hid (HZT.out.below hb3)
      have hgw : wr.heap.size < w3.heap.size := hk3.lt
      have hkl : kk ≤ outs.length := by have := hst.le; simpa using this
      clear hst hf hb3 hk3 HBS c0 c1
      cases f
      · have HI := Lib.hid (ins_any (base := w1.heap.size) Ao outs.length co kk w3.heap.size (.slice z.p.A z.p.n z.p.c) (.slice z.A z.n z.c) (outs.flatMap Who.cells) (w3.alloc (.cells #[.slice z.p.A z.p.n z.p.c, .slice z.A z.n z.c] 44)) (own_below HO.out (HB3.out.trans (((Below.refl _ w3).alloc (Nat.le_refl _) _).mono HB3.out.size))) (Blk.new _ _ _) (fun e => by have h9 := (HO.out.lt _ e).2; have := HB3.out.size; omega) hkl (by omega) (by have h8 := HB3.out.size; have h9 := HB.out.size; simp; omega) (cells_one _) (fun u hu => by simp at hu; rcases hu with rfl | rfl <;> rfl))
        have HBC := Lib.hid (HB3.out.trans (((Below.refl _ w3).alloc (Nat.le_refl _) (.cells #[.slice z.p.A z.p.n z.p.c, .slice z.A z.n z.c] 44)).mono HB3.out.size))
        have HOC := Lib.hid (own_below HO.out HBC.out)
        have HZC := Lib.hid (HZ3.out.below ((Below.refl _ w3).alloc (Nat.le_refl _) (.cells #[.slice z.p.A z.p.n z.p.c, .slice z.A z.n z.c] 44)))
        go_wp2_with fail
        refine HI.out.mono ?_
        rintro e w5 ⟨v5, rfl, ho5, hg5⟩
        have hmg := HM.out.new HST.out (fun h => by have := HF.out.2 h; cases this)
        rw [← HTK.out] at hmg
        have hcl := cells_ins outs z kk hkl
        unfold Part.v at hcl
        rw [hcl] at ho5
        have hln : (outs.take kk ++ z :: outs.drop kk).length = outs.length + 1 := by simp; omega
        rw [← hln] at ho5
        have hpn : ∀ o ∈ outs.take kk ++ z :: outs.drop kk, PeerT w5 o ∧ o.n ≤ 100 * (k + 1) := fun o ho => by
          rw [List.mem_append, List.mem_cons] at ho
          have hin : o = z ∨ o ∈ outs := by
            rcases ho with h1 | h1 | h1
            · exact .inr (List.mem_of_mem_take h1)
            · exact .inl h1
            · exact .inr (List.mem_of_mem_drop h1)
          rcases hin with rfl | h1
          · exact ⟨HZC.out.grown HOC.out hg5, by omega⟩
          · exact ⟨(((HPO.out o h1).1).below HBC.out).grown HOC.out hg5, by have := (HPO.out o h1).2; omega⟩
        have HB5 := Lib.hid ((HB.out.trans (HBC.out.mono HB.out.size)).grown hg5 (Nat.le_trans HB.out.size HBC.out.size) (fun q hq => (HOC.out.lt q hq).1))
        have HM5 := Lib.hid hmg
        have HO5 := Lib.hid ho5
        have HP5 := Lib.hid hpn
        generalize outs.take kk ++ z :: outs.drop kk = outs' at *
        clear ho5 hg5 hmg hcl hln hpn
        go_wp2_with fail
        go_roundw
        case rel => exact ⟨k + 1, by omega, by go_num, HB5.out, outs', HO5.out, HP5.out, HM5.out⟩
        case measure => simp [intOf]; omega
      · obtain ⟨hko, hke⟩ := HF.out.1 rfl
        obtain ⟨g, cg, hv, hgb⟩ : ∃ g cg, Value.slice Ao outs.length co = .slice (some ⟨g, 0, none⟩) outs.length cg ∧ w1.heap.size ≤ g := by
          rcases own_nil_or HO.out with ⟨_, h0⟩ | h0
          · omega
          · exact h0
        injection hv with e1 _ e3
        subst e1 e3
        have ho3 := own_below HO.out HB3.out
        obtain ⟨y, hy⟩ : ∃ y, y = outs[kk] := ⟨_, rfl⟩
        have hcg := cells_get outs kk hko
        have hcl := cells_len outs
        rw [← hy] at hcg hke
        have e1 : w3.cell? ⟨g, kk * 2 + 1, none⟩ = some (.slice y.A y.n y.c) := (ho3.cellAt (kk * 2 + 1) (by omega)).trans hcg.2
        have e1d : w3.drew.cell? ⟨g, kk * 2 + 1, none⟩ = some (.slice y.A y.n y.c) := e1
        have d1d : w3.drew.cell? ⟨wr.heap.size, 1, none⟩ = some (.slice z.A z.n z.c) := d1
        have HO3 := Lib.hid ho3
        have HY := Lib.hid hy
        have hyp := HPO.out y (by rw [hy]; exact List.getElem_mem hko)
        have HY3 := Lib.hid ((hyp.1).below HB3.out)
        have HYN := Lib.hid hyp.2
        have hyl := HY3.out.len
        have hzl := HZ3.out.len
        have hyn : y.n ≤ 100 * k := HYN.out
        have HCB := Lib.hid (show ∀ W : World, Below w3.heap.size w3 W → Blk W w3.heap.size 29 #[.slice y.A y.n y.c, .slice z.A z.n z.c] → Calls Tryz.prog 40 #[.slice (some ⟨w3.heap.size, 0, none⟩) 2 2] W (OwnS 32 1 (y.n + z.n) (partCells (y.x.1 ++ z.x.1)) W) from fun W hW hk => by
          have hsz : segSize [⟨y.A, y.n, y.c, partCells y.x.1⟩, ⟨z.A, z.n, z.c, partCells z.x.1⟩] = y.n + z.n := by simp [segSize]
          have hall : segAll [⟨y.A, y.n, y.c, partCells y.x.1⟩, ⟨z.A, z.n, z.c, partCells z.x.1⟩] = partCells (y.x.1 ++ z.x.1) := by simp [segAll, partCells]
          have := concatB [⟨y.A, y.n, y.c, partCells y.x.1⟩, ⟨z.A, z.n, z.c, partCells z.x.1⟩] w3.heap.size 2 W (fun q hq => by
            have hq2 : q = 0 ∨ q = 1 := by simp at hq; omega
            rcases hq2 with rfl | rfl
            · exact hk.cell 0
            · exact hk.cell 1) hk.lt (by simp) (fun q hq => by
            simp at hq
            rcases hq with rfl | rfl
            · exact ⟨HY3.out.tl.reads.next hW, partCells_one _⟩
            · exact ⟨HZ3.out.tl.reads.next hW, partCells_one _⟩) (by rw [hsz]; omega)
          rw [hsz, hall] at this
          exact this)
        have hgw3 : g < w3.heap.size := World.block_lt_of_cell? _ _ e1
        clear ho3 hy hcg hyp
        go_wp2_with fail
        go_region_law (first
          | (go_simp; go_at_call 40
             have hWB : Below w3.heap.size w3 (w3.drew.alloc (.cells #[.slice y.A y.n y.c, .slice z.A z.n z.c] 29)) := ((Below.refl _ w3).drew).alloc (Nat.le_refl _) _
             refine (HCB.out _ hWB (Blk.new w3.drew _ _)).mono ?_
             rintro e w5 ⟨v5, rfl, ho5, hb5⟩
             obtain ⟨Ac, cc, rfl⟩ := own_slice ho5
             have hb35 : Below w3.heap.size w3 w5 := hWB.trans (hb5.mono hWB.size)
             have c5 : w5.cell? ⟨g, kk * 2 + 1, none⟩ = some (.slice y.A y.n y.c) := (hb35.cell hgw3).trans e1
             have f5 : w5.frozen? ⟨g, kk * 2 + 1, none⟩ = false := (own_below HO3.out hb35).frozenAt (kk * 2 + 1)))
        all_goals (
          have hoo := own_below HO3.out hb35
          have hos := own_setCell hoo (.slice Ac (y.n + z.n) cc) (j := kk * 2 + 1) (by omega)
          obtain ⟨X, hX⟩ : ∃ X : Peer, X = ⟨y.p, Ac, y.n + z.n, cc, (y.x.1 ++ z.x.1, y.x.2 ++ z.x.2)⟩ := ⟨_, rfl⟩
          have hXp : X.p = (outs[kk]).p := by rw [hX, HY.out]
          have hcs := cells_set outs kk hko X hXp
          have hXs : Value.slice X.A X.n X.c = .slice Ac (y.n + z.n) cc := by rw [hX]
          rw [hXs] at hcs
          rw [← hcs] at hos
          have hgr : w5.grownBy (w5.setCell ⟨g, kk * 2 + 1, none⟩ (.slice Ac (y.n + z.n) cc)) (some g) := grown_set (World.grownBy.refl _ _) _ _
          have hXT : PeerT w5 X := by
            rw [hX]
            refine ⟨(HY3.out.below hb35).tb, TL.of_own ho5 (fun p hp => ?_), ?_⟩
            · rcases List.mem_append.1 hp with h1 | h1
              · exact (HY3.out.below hb35).tl.tbs p h1
              · exact (HZ3.out.below hb35).tl.tbs p h1
            · show (y.x.1 ++ z.x.1).map (·.l) = (y.x.2 ++ z.x.2).map addrBytes
              rw [List.map_append, List.map_append, HY3.out.he, HZ3.out.he]
          have hmg := HM.out.more (y := X) hko (HY.out ▸ hke) (congrArg Part.l hXp) (show X.x.2 = (outs[kk]).x.2 ++ z.x.2 from by rw [← HY.out, hX])
          rw [← HTK.out] at hmg
          have hpn : ∀ o ∈ outs.set kk X, PeerT (w5.setCell ⟨g, kk * 2 + 1, none⟩ (.slice Ac (y.n + z.n) cc)) o ∧ o.n ≤ 100 * (k + 1) := fun o ho => by
            rcases List.mem_or_eq_of_mem_set ho with h1 | h1
            · exact ⟨((((HPO.out o h1).1).below HB3.out).below hb35).grown hoo hgr, by have := (HPO.out o h1).2; omega⟩
            · rw [h1]
              exact ⟨hXT.grown hoo hgr, by rw [hX]; show y.n + z.n ≤ _; omega⟩
          have hln : (outs.set kk X).length = outs.length := by simp
          rw [← hln] at hos
          have HOS := Lib.hid hos
          have HPN := Lib.hid hpn
          have HMG := Lib.hid hmg
          have HB6 := Lib.hid ((HB.out.trans (HB3.out.mono HB.out.size)).trans (hb35.mono (Nat.le_trans HB.out.size HB3.out.size)))
          clear hoo hos hX hXp hcs hXs hgr hXT hmg hpn hb5 ho5 hb35 hWB
          go_wp2_with fail
          go_roundw
          case rel => exact ⟨k + 1, by omega, by go_num, HB6.out.setCell (p := ⟨g, kk * 2 + 1, none⟩) hgb _, outs.set kk X, hln ▸ HOS.out, HPN.out, HMG.out⟩
          case measure => simp [intOf]; omega)
    · obtain rfl : k = n + m := by omega
      have hm2 := HM.out
      rw [List.take_of_length_le (by rw [HZL.out]; exact Nat.le_refl _)] at hm2
      have HM2 := Lib.hid hm2
      have HFO := Lib.hid (show ∀ o ∈ outs, PeerT wr o ∧ o.n ≤ 100 * zs.length by rw [HZL.out]; exact HPO.out)
      clear hm2
      go_wp2_with fail
      go_ret
      exact ⟨_, outs, rfl, HO.out.mono HB1.out.size, HFO.out, HM2.out, HB1.out.trans (HB.out.mono HB1.out.size)⟩
end Go.Proofs.YtkmieonfhcmimaaGreatDoor

/- spec.AddrSame and slices.EqualFunc at peers that are the same; impl.AddrInfos at whatever addresses. No condition beyond. -/
namespace Go.Proofs.YtkmieonfhcmimaaGreatDoor
open Go Go.RowKit Go.Sort
attribute [local go_sem ↓] Go.wp_at_zero Go.wp_at_succ
set_option maxRecDepth 100000 in
set_option maxHeartbeats 2000000 in
theorem same_any (x y : Peer) (w : World) (hx : PeerT w x) (hy : PeerT w y) (hi : x.p.l = y.p.l) (ha : x.x.2 = y.x.2) :
    Calls Tryz.prog 20 #[.agg #[.slice x.p.A x.p.n x.p.c, .slice x.A x.n x.c], .agg #[.slice y.p.A y.p.n y.p.c, .slice y.A y.n y.c]] w fun e w' => e = .returned (.bool true) ∧ Below w.heap.size w w' := by
  have hn : x.n = y.n := by rw [← hx.len.2, ← hy.len.2, ha]
  obtain ⟨yp, yA, yn, yc, yx⟩ := y
  obtain rfl : x.n = yn := hn
  have hb := ((Below.refl _ w).alloc (Nat.le_refl _) (.cells #[.slice x.p.A x.p.n x.p.c, .slice x.A x.n x.c] 44)).alloc (by simp) (.cells #[.slice yp.A yp.n yp.c, .slice yA x.n yc] 44)
  have hx2 := hx.below hb
  have hy2 := hy.below hb
  have heq := equal_any x.p.A yp.A x.p.n x.p.c yp.n yp.c x.p.l yp.l _ hx2.tb.rb hy2.tb.rb
  rw [show x.p.l = yp.l from hi, beq_self_eq_true] at heq
  have hef := eqfunc_any x.A yA x.n x.c yc x.x.1 yx.1 _ hx2.tl.ls hy2.tl.ls (by rw [hx.he, show yx.1.map (·.l) = yx.2.map addrBytes from hy.he, show x.x.2 = yx.2 from ha])
  have HEQ := Lib.hid heq
  have HEF := Lib.hid hef
  have HB := Lib.hid hb
  clear hx hy hi ha hb hx2 hy2 heq hef
  go_enter Tryz.func20, Tryz.ntmps20
  go_wp2_with fail
  refine HEQ.out.mono ?_
  rintro e w3 ⟨rfl, rfl⟩
  go_wp2_with fail
  refine HEF.out.mono ?_
  rintro e w4 ⟨rfl, hb4⟩
  have HB4 := Lib.hid (HB.out.trans (hb4.mono HB.out.size))
  clear hb4
  go_wp2_with fail
  go_ret
  exact ⟨rfl, HB4.out⟩
/-- Peers that are the same, one by one. -/
structure SameAll (xs ys : List Peer) : Prop where
  len : xs.length = ys.length
  id : ∀ i (hi : i < xs.length) (hj : i < ys.length), (xs[i]).p.l = (ys[i]).p.l
  ad : ∀ i (hi : i < xs.length) (hj : i < ys.length), (xs[i]).x.2 = (ys[i]).x.2
set_option maxRecDepth 100000 in
set_option maxHeartbeats 4000000 in
theorem eqinfos_any (A B : Option Addr) (n c d : Nat) (xs ys : List Peer) (w : World) (h : Reads w w.heap.size 2 A n (xs.flatMap Who.cells)) (h' : Reads w w.heap.size 2 B n (ys.flatMap Who.cells)) (hx : ∀ x ∈ xs, PeerT w x) (hy : ∀ y ∈ ys, PeerT w y) (hs : SameAll xs ys) (hl : xs.length = n) (hn : n ≤ 1000) :
    Calls Tryz.prog 18 #[.slice A n c, .slice B n d, .func (Fn.func 20) #[] #[]] w fun e w' => e = .returned (.bool true) ∧ Below w.heap.size w w' := by
  have HH := Lib.hid h
  have HK := Lib.hid h'
  have HX := Lib.hid hx
  have HY := Lib.hid hy
  have HS := Lib.hid hs
  have HL := Lib.hid hl
  clear h h' hx hy hs hl
  go_enter Tryz.func18, Tryz.ntmps18
  go_wp2_with fail
  go_loopw [17] (fun i wr => ∃ k : Nat, k ≤ n ∧ i = .int .i64 k ∧ Below w.heap.size w wr) (fun i _ => n - (intOf i).toNat)
  case atStart => exact ⟨0, by omega, rfl, Below.refl _ _⟩
  case round =>
    obtain ⟨k, hk, rfl, hb⟩ := hrel
    have HB := Lib.hid hb
    clear hb
    by_cases hlt : k < n
    · have hkx : k < xs.length := by rw [HL.out]; exact hlt
      have hky : k < ys.length := by rw [← HS.out.len, HL.out]; exact hlt
      have hid := HS.out.id k hkx hky
      have had := HS.out.ad k hkx hky
      obtain ⟨ad, rfl, hbk, hcell⟩ := (HH.out.below HB.out).2 (by omega)
      have hg := cells_get xs k hkx
      have c0 := hcell _ _ hg.1
      have c1 := hcell _ _ hg.2
      rw [add_succ _ _ 1 (by decide)] at c1
      obtain ⟨bd, rfl, hbk', hcell'⟩ := (HK.out.below HB.out).2 (by omega)
      have hg' := cells_get ys k hky
      have e0 := hcell' _ _ hg'.1
      have e1 := hcell' _ _ hg'.2
      rw [add_succ _ _ 1 (by decide)] at e1
      have htx := (HX.out _ (List.getElem_mem hkx)).below HB.out
      have hty := (HY.out _ (List.getElem_mem hky)).below HB.out
      generalize xs[k] = x at *
      generalize ys[k] = y at *
      unfold Part.v at c0 e0
      have hb1 : ad.block < wr.heap.size := Nat.lt_of_lt_of_le hbk HB.out.size
      have hb2 : bd.block < wr.heap.size := Nat.lt_of_lt_of_le hbk' HB.out.size
      have hba := ((Below.refl _ wr).alloc (Nat.le_refl _) (.cells #[.slice x.p.A x.p.n x.p.c, .slice x.A x.n x.c] 44)).alloc (by simp) (.cells #[.slice y.p.A y.p.n y.p.c, .slice y.A y.n y.c] 44)
      have HSM := Lib.hid (same_any x y _ (htx.below hba) (hty.below hba) hid had)
      have HBA := Lib.hid (HB.out.trans (hba.mono HB.out.size))
      have f0 : (wr.alloc (.cells #[.slice x.p.A x.p.n x.p.c, .slice x.A x.n x.c] 44)).cell? (bd.add (k * 2)) = some (.slice y.p.A y.p.n y.p.c) := (World.cell?_alloc_lt wr _ _ (by rw [block_of_add]; exact hb2)).trans e0
      have f1 : (wr.alloc (.cells #[.slice x.p.A x.p.n x.p.c, .slice x.A x.n x.c] 44)).cell? ⟨(bd.add (k * 2)).block, (bd.add (k * 2)).off + 1, none⟩ = some (.slice y.A y.n y.c) := (World.cell?_alloc_lt wr _ _ (by show (bd.add (k * 2)).block < _; rw [block_of_add]; exact hb2)).trans e1
      clear hid had hcell hcell' hg hg' htx hty hba hkx hky
      go_wp2_with fail
      refine HSM.out.mono ?_
      rintro e w3 ⟨rfl, hb3⟩
      have HB3 := Lib.hid (HBA.out.trans (hb3.mono HBA.out.size))
      clear hb3
      go_wp2_with fail
      go_roundw
      case rel => exact ⟨k + 1, by omega, by go_num, HB3.out⟩
      case measure => simp [intOf]; omega
    · go_wp2_with fail
      go_ret
      exact ⟨rfl, HB.out⟩
/-- Every address ends with an ID. -/
def AllIDs (hss : List (List Hop)) : Prop := ∀ hs ∈ hss, ∃ r x, hs = r ++ [x] ∧ x.kd % 8 = 6
/-- What impl.AddrInfos returns, whatever the addresses. -/
def OutInfos (K : Nat) (hss : List (List Hop)) (w : World) (e : Ending) (w' : World) : Prop :=
  ∃ A c ys ok, e = .returned (.tuple #[.slice A (List.length ys) c, .bool ok]) ∧ (ok = true ↔ AllIDs hss) ∧ (ok = true → PeersOk K w' w.heap.size A c ys hss) ∧ Below w.heap.size w w'
theorem infos_any {K : Nat} (A : Option Addr) (n c : Nat) (ps : List Part) (hss : List (List Hop)) (w : World) (ht : Tab K w) (hu : Inv w) (hl : LS w w.heap.size A n c ps) (he : ps.map (·.l) = hss.map addrBytes)
    (hok : ∀ hs ∈ hss, AOk K hs) (hn : n ≤ 1000) : Calls Tryz.prog 8 #[.slice A n c] w (OutInfos K hss w) := by
  by_cases hg : AllIDs hss
  · refine (infos_yes A n c ps hss w ht hl he hok hn hg).mono ?_
    rintro e w' ⟨A1, c1, ys, rfl, hp, hb⟩
    exact ⟨A1, c1, ys, true, rfl, ⟨fun _ => hg, fun _ => rfl⟩, fun _ => hp, hb⟩
  · have hbad : ∃ hs ∈ hss, ∃ r x, hs = r ++ [x] ∧ x.kd % 8 ≠ 6 := by
      refine Classical.byContradiction fun h2 => hg fun hs hh => ?_
      have hne := (hok hs hh).ne
      refine ⟨_, _, (List.dropLast_concat_getLast hne).symm, ?_⟩
      refine Classical.byContradiction fun h6 => h2 ⟨hs, hh, _, _, (List.dropLast_concat_getLast hne).symm, h6⟩
    refine (infos_no A n c ps hss w ht hu hl he hok hn hbad).mono ?_
    rintro e w' ⟨rfl, hb⟩
    exact ⟨none, 0, [], false, rfl, ⟨fun h => (by cases h), fun h => absurd h hg⟩, fun h => (by cases h), hb⟩
end Go.Proofs.YtkmieonfhcmimaaGreatDoor

/- FnAddrMerged: the walk. -/
namespace Go.Proofs.YtkmieonfhcmimaaGreatDoor
open Go Go.RowKit Go.Sort
attribute [local go_sem ↓] Go.wp_at_zero Go.wp_at_succ
/-- The cells of lists of parts. -/
def rvals (rs : List Row) : List Value := rs.map Row.v
theorem rvals_length (rs : List Row) : (rvals rs).length = rs.length := by simp [rvals]
theorem rvals_one (rs : List Row) : ∀ u ∈ rvals rs, u.oneCell' = true := by
  intro u hu
  simp only [rvals, List.mem_map] at hu
  obtain ⟨t, _, rfl⟩ := hu
  rfl
theorem RS.rd {w : World} {B : Nat} {A : Option Addr} {n c : Nat} {rs : List Row} (h : RS w B A n c rs) : Reads w B 1 A n (rvals rs) := by
  refine ⟨by rw [rvals_length, h.len, Nat.mul_one], fun hn => ?_⟩
  obtain ⟨ad, e, hlt, _⟩ := h.at_ 0 (by rw [h.len]; exact hn)
  refine ⟨ad, e, hlt, fun j u hj => ?_⟩
  have hjl : j < rs.length := by rw [← rvals_length]; exact (List.getElem?_eq_some_iff.1 hj).1
  obtain ⟨ad', e', _, c0, _⟩ := h.at_ j hjl
  rw [e] at e'
  injection e' with e'
  subst e'
  rw [c0, ← hj]
  simp [rvals, hjl]
theorem RS.of_own {w : World} {base : Nat} {A : Option Addr} {n c : Nat} {rs : List Row} (h : w.ownsRow base 31 1 (.slice A n c) n (rvals rs)) (hr : ∀ r ∈ rs, HS w w.heap.size r.A r.n r.c r.hs) : RS w w.heap.size A n c rs := by
  have hrd := Reads.of_own h
  have hln : rs.length = n := by have := hrd.1; rw [rvals_length] at this; omega
  refine ⟨hln, ?_, ?_, fun i hi => ?_⟩
  · rcases h.2 with ⟨hv, h0⟩ | ⟨g, cap, cur, hv, _, _, hle, _⟩
    · injection hv with _ h1 hc; omega
    · injection hv with _ _ hc; omega
  · rcases h.2 with ⟨hv, h0⟩ | ⟨g, cap, cur, hv, _, _, _, hle, _⟩
    · injection hv with _ _ hc; subst hc; simp [maxLen]
    · injection hv with _ _ hc; subst hc; exact hle
  · obtain ⟨ad, e1, hlt, hc⟩ := hrd.2 (by omega)
    exact ⟨ad, e1, hlt, hc i _ (by simp [rvals, hi]), hr _ (List.getElem_mem hi)⟩
theorem RS.hs {w : World} {B : Nat} {A : Option Addr} {n c : Nat} {rs : List Row} (h : RS w B A n c rs) : ∀ r ∈ rs, HS w B r.A r.n r.c r.hs := fun r hr => by
  obtain ⟨i, hi, rfl⟩ := List.getElem_of_mem hr
  obtain ⟨_, _, _, _, h2⟩ := h.at_ i hi
  exact h2
theorem shorts_ok {rs : List Row} {w : World} {B : Nat} {A : Option Addr} {n c : Nat} (h : RS w B A n c rs) (hs : ∀ r ∈ rs, r.Short) : ∀ hs' ∈ rs.map (·.hs), AOk 65536 hs' := fun hs' hh => by
  obtain ⟨r, hr, rfl⟩ := List.mem_map.1 hh
  have h1 := (h.hs r hr).len
  have h2 := (hs r hr).pos
  have h3 := (hs r hr).le
  exact ⟨fun e => by rw [e] at h1; simp at h1; omega, by omega, fun _ _ => Or.inl (Nat.le_refl _)⟩
theorem allIDs_append (a b : List (List Hop)) : AllIDs (a ++ b) ↔ AllIDs a ∧ AllIDs b := by
  constructor
  · exact fun h => ⟨fun x hx => h x (List.mem_append.2 (.inl hx)), fun x hx => h x (List.mem_append.2 (.inr hx))⟩
  · rintro ⟨h1, h2⟩ x hx
    rcases List.mem_append.1 hx with h | h
    · exact h1 x h
    · exact h2 x h
/-- What two lists of addresses tell together is what they tell, peer by peer. -/
theorem same_all {K : Nat} {w1 w2 w3 : World} {b1 b2 b3 c1 c2 c3 : Nat} {A1 A2 A3 : Option Addr} {xs ys zs outs : List Peer} {a b : List (List Hop)} (h1 : PeersOk K w1 b1 A1 c1 xs a) (h2 : PeersOk K w2 b2 A2 c2 ys b) (h3 : PeersOk K w3 b3 A3 c3 zs (a ++ b)) (hm : Merged outs (xs ++ ys)) : SameAll zs outs := by
  have hids : zs.map (·.p.l) = outs.map (·.p.l) := rises_unique _ _ h3.rises hm.rises fun l => by
    rw [h3.ids l, hm.ids l, List.map_append, List.map_append, List.mem_append, List.mem_append, h1.ids l, h2.ids l]
  have hid : ∀ i (hi : i < zs.length) (hj : i < outs.length), (zs[i]).p.l = (outs[i]).p.l := fun i hi hj => by
    have := congrArg (fun l => l[i]?) hids
    simpa [hi, hj] using this
  refine ⟨by simpa using congrArg List.length hids, hid, fun i hi hj => ?_⟩
  rw [h3.addrs _ (List.getElem_mem hi), hm.addrs _ (List.getElem_mem hj), groupH_append, gath_append, gath_group h1, gath_group h2, hid i hi hj]
theorem peers_small {K : Nat} {w : World} {b c : Nat} {A : Option Addr} {xs : List Peer} {a : List (List Hop)} (h : PeersOk K w b A c xs a) (ha : a.length ≤ 60) : ∀ x ∈ xs, PeerT w x ∧ x.n ≤ 100 := fun x hx => by
  have ht := (h.oks x hx).t
  refine ⟨ht, ?_⟩
  rw [← ht.len.2, h.addrs x hx]
  have := groupH_length a x.p.l
  omega
set_option maxRecDepth 100000 in
set_option maxHeartbeats 4000000 in
theorem law_merged (A : Option Addr) (n c : Nat) (rs : List Row) (B : Option Addr) (m d : Nat) (ss : List Row) (w : World) (ht : Tab 65536 w) (hu : Inv w) (h : RS w w.heap.size A n c rs) (h' : RS w w.heap.size B m d ss) :
    Calls Tryz.prog 4 #[.slice A n c, .slice B m d] w fun e w' => e = .returned (.bool true) ∧ Below w.heap.size w w' := by
  have HAW := fun w6 (hb : Below w.heap.size w w6) => (awake (K := 65536) w6 (by decide) (ht.below hb)).mono fun e w' (h1 : e = .returned (.bool true) ∧ Below w6.heap.size w6 w') => (⟨h1.1, hb.trans (h1.2.mono hb.size)⟩ : e = .returned (.bool true) ∧ Below w.heap.size w w')
  have HFIN := Lib.hid HAW
  have HF := Lib.hid (fits3_any A n c rs w h)
  have HH := Lib.hid h
  have HK := Lib.hid h'
  have HT := Lib.hid ht
  have HU := Lib.hid hu
  clear h h' ht hu HAW
  go_enter Tryz.func4, Tryz.ntmps4
  go_wp2_with fail
  refine HF.out.mono ?_
  rintro e w1 ⟨b, rfl, hb1⟩
  have HB1 := Lib.hid hb1
  clear hb1
  cases b
  · go_wp2_with fail
    go_ret
    exact ⟨rfl, HB1.out⟩
  have HF1 := Lib.hid (fits3_any B m d ss w1 ((HK.out.below HB1.out).more HB1.out.size))
  go_wp2_with fail
  refine HF1.out.mono ?_
  rintro e w2 ⟨b, rfl, hb2⟩
  have HB2 := Lib.hid (HB1.out.trans (hb2.mono HB1.out.size))
  clear hb2
  cases b
  · go_wp2_with fail
    go_ret
    exact ⟨rfl, HB2.out⟩
  have HS1 := Lib.hid (shorts_any A n c rs w2 ((HH.out.below HB2.out).more HB2.out.size))
  clear HF HF1
  go_wp2_with fail
  refine HS1.out.mono ?_
  rintro e w3 ⟨hor, hb3⟩
  have HB3 := Lib.hid (HB2.out.trans (hb3.mono HB2.out.size))
  clear hb3
  rcases hor with rfl | ⟨rfl, hn60, hsh⟩
  · go_wp2_with fail
    refine (HFIN.out _ HB3.out).mono ?_
    rintro e w4 ⟨rfl, hb4⟩
    have HB4 := Lib.hid hb4
    clear hb4
    go_wp2_with fail
    go_ret
    exact ⟨rfl, HB4.out⟩
  have HS2 := Lib.hid (shorts_any B m d ss w3 ((HK.out.below HB3.out).more HB3.out.size))
  have HSH := Lib.hid hsh
  clear hsh HS1
  go_wp2_with fail
  refine HS2.out.mono ?_
  rintro e w4 ⟨hor, hb4⟩
  have HB4 := Lib.hid (HB3.out.trans (hb4.mono HB3.out.size))
  clear hb4
  rcases hor with rfl | ⟨rfl, hm60, hsm⟩
  · go_wp2_with fail
    refine (HFIN.out _ HB4.out).mono ?_
    rintro e w5 ⟨rfl, hb5⟩
    have HB5 := Lib.hid hb5
    clear hb5
    go_wp2_with fail
    go_ret
    exact ⟨rfl, HB5.out⟩
  have HSM := Lib.hid hsm
  clear hsm HS2
  by_cases hnm : n + m ≤ 60
  case neg =>
    have hd : decide ((60 : Int) < (n : Int) + (m : Int)) = true := by simp; omega
    go_wp2_with fail
    refine (HFIN.out _ HB4.out).mono ?_
    rintro e w5 ⟨rfl, hb5⟩
    have HB5 := Lib.hid hb5
    clear hb5
    go_wp2_with fail
    go_ret
    exact ⟨rfl, HB5.out⟩
  have hd : decide ((60 : Int) < (n : Int) + (m : Int)) = false := by simp; omega
  have hrs : ∀ r ∈ rs, r.Short := fun r hr => by
    obtain ⟨i, hi, rfl⟩ := List.getElem_of_mem hr
    exact HSH.out i hi
  have hss : ∀ r ∈ ss, r.Short := fun r hr => by
    obtain ⟨i, hi, rfl⟩ := List.getElem_of_mem hr
    exact HSM.out i hi
  have hrl : rs.length = n := HH.out.len
  have hsl : ss.length = m := HK.out.len
  have HOK1 := Lib.hid (shorts_ok HH.out hrs)
  have HOK2 := Lib.hid (shorts_ok HK.out hss)
  have HLR := Lib.hid hrl
  have HLS := Lib.hid hsl
  have HRS := Lib.hid hrs
  have HSS := Lib.hid hss
  clear hrs hss hrl hsl
  -- the first list
  have HAL := Lib.hid (addrlist_any A n c rs w4 ((HH.out.below HB4.out).more HB4.out.size) (by omega) HSH.out)
  go_wp2_with fail
  refine HAL.out.mono ?_
  rintro e w5 ⟨v5, qs, rfl, ho5, hq5, ht5, hb5⟩
  obtain ⟨A5, c5, rfl⟩ := own_slice ho5
  have hb05 := HB4.out.trans (hb5.mono HB4.out.size)
  have HI1 := Lib.hid (infos_any (K := 65536) A5 n c5 qs (rs.map (·.hs)) w5 (HT.out.below hb05) (HU.out.below hb05) (LS.of_own ho5 ht5) (by rw [hq5, List.map_map]; rfl) HOK1.out (by omega))
  have HB5 := Lib.hid hb05
  clear ho5 hq5 ht5 hb5 hb05 HAL
  go_wp2_with fail
  refine HI1.out.mono ?_
  rintro e w6 ⟨A6, c6, xs, e1, rfl, he1, hp1, hb6⟩
  have HE1 := Lib.hid he1
  have HP1 := Lib.hid hp1
  have HB6 := Lib.hid (HB5.out.trans (hb6.mono HB5.out.size))
  clear he1 hp1 hb6 HI1
  -- the second
  have HAL := Lib.hid (addrlist_any B m d ss w6 ((HK.out.below HB6.out).more HB6.out.size) (by omega) HSM.out)
  go_wp2_with fail
  refine HAL.out.mono ?_
  rintro e w7 ⟨v7, us, rfl, ho7, hq7, ht7, hb7⟩
  obtain ⟨A7, c7, rfl⟩ := own_slice ho7
  have hb07 := HB6.out.trans (hb7.mono HB6.out.size)
  have HI2 := Lib.hid (infos_any (K := 65536) A7 m c7 us (ss.map (·.hs)) w7 (HT.out.below hb07) (HU.out.below hb07) (LS.of_own ho7 ht7) (by rw [hq7, List.map_map]; rfl) HOK2.out (by omega))
  have HB7 := Lib.hid hb07
  have HB67 := Lib.hid hb7
  clear ho7 hq7 ht7 hb7 hb07 HAL
  go_wp2_with fail
  refine HI2.out.mono ?_
  rintro e w8 ⟨A8, c8, ys, e2, rfl, he2, hp2, hb8⟩
  have HE2 := Lib.hid he2
  have HP2 := Lib.hid hp2
  have HB8 := Lib.hid (HB7.out.trans (hb8.mono HB7.out.size))
  have HB68 := Lib.hid (HB67.out.trans (hb8.mono HB67.out.size))
  clear he2 hp2 hb8 HI2
  -- both
  have hba := (Below.refl _ w8).alloc (Nat.le_refl _) (.cells #[.slice A n c, .slice B m d] 22)
  have hka : Blk (w8.alloc (.cells #[.slice A n c, .slice B m d] 22)) w8.heap.size 22 #[.slice A n c, .slice B m d] := Blk.new _ _ _
  have hba0 := HB8.out.trans (hba.mono HB8.out.size)
  have hcc : Calls Tryz.prog 17 #[.slice (some ⟨w8.heap.size, 0, none⟩) 2 2] (w8.alloc (.cells #[.slice A n c, .slice B m d] 22)) (OwnS 31 1 (n + m) (rvals (rs ++ ss)) (w8.alloc (.cells #[.slice A n c, .slice B m d] 22))) := by
    have hsz : segSize [⟨A, n, c, rvals rs⟩, ⟨B, m, d, rvals ss⟩] = n + m := by simp [segSize]
    have hall : segAll [⟨A, n, c, rvals rs⟩, ⟨B, m, d, rvals ss⟩] = rvals (rs ++ ss) := by simp [segAll, rvals]
    have := concatH [⟨A, n, c, rvals rs⟩, ⟨B, m, d, rvals ss⟩] w8.heap.size 2 _ (fun q hq => by
      have hq2 : q = 0 ∨ q = 1 := by simp at hq; omega
      rcases hq2 with rfl | rfl
      · exact hka.cell 0
      · exact hka.cell 1) hka.lt (by simp) (fun q hq => by
      simp at hq
      rcases hq with rfl | rfl
      · exact ⟨((HH.out.rd).below hba0).more hba0.size, rvals_one _⟩
      · exact ⟨((HK.out.rd).below hba0).more hba0.size, rvals_one _⟩) (by rw [hsz]; omega)
    rw [hsz, hall] at this
    exact this
  have HCC := Lib.hid hcc
  have HBA := Lib.hid hba0
  have HBA8 := Lib.hid hba
  clear hba hka hba0 hcc
  go_wp2_with fail
  refine HCC.out.mono ?_
  rintro e w9 ⟨v9, rfl, ho9, hb9⟩
  obtain ⟨A9, c9, rfl⟩ := own_slice ho9
  have hb09 := HBA.out.trans (hb9.mono HBA.out.size)
  have hrs9 : RS w9 w9.heap.size A9 (n + m) c9 (rs ++ ss) := RS.of_own ho9 (fun r hr => by
    rcases List.mem_append.1 hr with h1 | h1
    · obtain ⟨i, hi, rfl⟩ := List.getElem_of_mem h1
      obtain ⟨_, _, _, _, h2⟩ := HH.out.at_ i hi
      exact (h2.below hb09).more hb09.size
    · obtain ⟨i, hi, rfl⟩ := List.getElem_of_mem h1
      obtain ⟨_, _, _, _, h2⟩ := HK.out.at_ i hi
      exact (h2.below hb09).more hb09.size)
  have hsh9 : ∀ r ∈ rs ++ ss, r.Short := fun r hr => by
    rcases List.mem_append.1 hr with h1 | h1
    · exact HRS.out r h1
    · exact HSS.out r h1
  have HAL := Lib.hid (addrlist_any A9 (n + m) c9 (rs ++ ss) w9 hrs9 (by omega) (fun i hi => hsh9 _ (List.getElem_mem hi)))
  have HOK3 := Lib.hid (shorts_ok hrs9 hsh9)
  have HB9 := Lib.hid hb09
  have HB89 := Lib.hid (HBA8.out.trans (hb9.mono HBA8.out.size))
  clear ho9 hb9 hb09 hrs9 hsh9 HCC
  go_wp2_with fail
  refine HAL.out.mono ?_
  rintro e w10 ⟨v10, ts, rfl, ho10, hq10, ht10, hb10⟩
  obtain ⟨A10, c10, rfl⟩ := own_slice ho10
  have hb010 := HB9.out.trans (hb10.mono HB9.out.size)
  have HI3 := Lib.hid (infos_any (K := 65536) A10 (n + m) c10 ts ((rs ++ ss).map (·.hs)) w10 (HT.out.below hb010) (HU.out.below hb010) (LS.of_own ho10 ht10) (by rw [hq10, List.map_map]; rfl) HOK3.out (by omega))
  have HB10 := Lib.hid hb010
  have HB810 := Lib.hid (HB89.out.trans (hb10.mono HB89.out.size))
  clear ho10 hq10 ht10 hb10 hb010 HAL
  go_wp2_with fail
  refine HI3.out.mono ?_
  rintro e w11 ⟨A11, c11, zs, e3, rfl, he3, hp3, hb11⟩
  rw [List.map_append] at he3 hp3
  have HB11 := Lib.hid (HB10.out.trans (hb11.mono HB10.out.size))
  have HB811 := Lib.hid (HB810.out.trans (hb11.mono HB810.out.size))
  have he : e3 = (e1 && e2) := by
    have h1 := HE1.out
    have h2 := HE2.out
    have h3 := he3.trans (allIDs_append _ _)
    cases e1 <;> cases e2 <;> cases e3 <;> simp_all
  subst he
  have HP3 := Lib.hid hp3
  clear he3 hp3 hb11 HI3
  have hno : (e1 && e2) = false → ∀ (e : Ending) (w' : World), True := fun _ _ _ => trivial
  clear hno
  cases e1
  · go_wp2_with fail
    refine (HFIN.out _ HB11.out).mono ?_
    rintro e w12 ⟨rfl, hb12⟩
    have HB12 := Lib.hid hb12
    clear hb12
    go_wp2_with fail
    go_ret
    exact ⟨rfl, HB12.out⟩
  · cases e2
    · go_wp2_with fail
      refine (HFIN.out _ HB11.out).mono ?_
      rintro e w12 ⟨rfl, hb12⟩
      have HB12 := Lib.hid hb12
      clear hb12
      go_wp2_with fail
      go_ret
      exact ⟨rfl, HB12.out⟩
    · have p1 := (HP1.out rfl).below (HB68.out.trans (HB811.out.mono HB68.out.size))
      have p2 := (HP2.out rfl).below HB811.out
      have p3 := HP3.out rfl
      have hl1 := p1.len
      have hl2 := p2.len
      have hl3 := p3.len
      rw [List.length_map, HLR.out] at hl1
      rw [List.length_map, HLS.out] at hl2
      rw [List.length_append, List.length_map, List.length_map, HLR.out, HLS.out] at hl3
      have HMG := Lib.hid (merged_any A6 A8 xs.length c6 ys.length c8 xs ys w11 (Reads.of_own p1.own) (Reads.of_own p2.own) (fun x hx => by
        rcases List.mem_append.1 hx with h1 | h1
        · exact peers_small p1 (by rw [List.length_map, HLR.out]; omega) x h1
        · exact peers_small p2 (by rw [List.length_map, HLS.out]; omega) x h1) rfl rfl (by omega) (by omega))
      have HQ1 := Lib.hid p1
      have HQ2 := Lib.hid p2
      have HQ3 := Lib.hid p3
      clear p1 p2 p3
      go_wp2_with fail
      refine HMG.out.mono ?_
      rintro e w12 ⟨v12, outs, rfl, ho12, hpo, hmg, hb12⟩
      obtain ⟨A12, c12, rfl⟩ := own_slice ho12
      have hsame := same_all HQ1.out HQ2.out HQ3.out hmg
      have hlen : outs.length = zs.length := hsame.len.symm
      rw [hlen] at ho12
      have q3 := HQ3.out.below hb12
      have HEQ := Lib.hid (eqinfos_any A11 A12 zs.length c11 c12 zs outs w12 (Reads.of_own q3.own) (Reads.of_own ho12) (fun z hz => (q3.oks z hz).t) (fun o ho => (hpo o ho).1) hsame rfl (by omega))
      have HB12 := Lib.hid (HB11.out.trans (hb12.mono HB11.out.size))
      rw [hlen]
      clear ho12 hpo hmg hb12 hsame hlen q3
      go_wp2_with fail
      refine HEQ.out.mono ?_
      rintro e w13 ⟨rfl, hb13⟩
      have HB13 := Lib.hid (HB12.out.trans (hb13.mono HB12.out.size))
      clear hb13
      go_wp2_with fail
      refine (HFIN.out _ HB13.out).mono ?_
      rintro e w14 ⟨rfl, hb14⟩
      have HB14 := Lib.hid hb14
      clear hb14
      go_wp2_with fail
      go_ret
      exact ⟨rfl, HB14.out⟩
end Go.Proofs.YtkmieonfhcmimaaGreatDoor

/- The argument: a slice of parts, out of what the row says of it. -/
namespace Go.Proofs.YtkmieonfhcmimaaGreatDoor
open Go.ChangeShapes Go.RowKit
theorem u8_of_wf {n : Int} (h : (Lit.int .u8 n).wf = true) : ∃ b : UInt8, n = b.toNat := by
  have h2 : 0 ≤ n ∧ n ≤ 255 := by
    unfold Lit.wf at h
    rw [Bool.and_eq_true] at h
    exact ⟨by have := of_decide_eq_true h.1; exact this, by have := of_decide_eq_true h.2; exact this⟩
  exact ⟨UInt8.ofNat n.toNat, by simp; omega⟩
section
variable {H : Type} {enc : TypeId × Value → H} {W : World} {base : Nat} {spare : Nat → Bool} {held : Bool}
theorem bytes_of {fuel : Nat} {v : Value} {x : DataW H × List MemPlace} (h : DataW.trod enc Tryz.prog W base spare held fuel 32 [v] = some x) : ∃ A n c l, v = .slice A n c ∧ RB W W.heap.size A n c l := by
  rcases open_ints Tryz.underlying32 Tryz.underlying5 (by kernel_rfl) h with ⟨hcs, _⟩ | ⟨a, len, cap, zs, hcs, _, hl, hm, hz, _, hcell, hwf⟩
  · injection hcs with hv _
    exact ⟨none, 0, 0, [], hv, RB.nil_ _ _⟩
  · injection hcs with hv _
    have hzl : len ≤ zs.length := by rw [hz]; split <;> omega
    have hf : ∀ i, i < len → ∃ b : UInt8, W.cell? (a.add i) = some (.int .u8 b.toNat) := fun i hi => by
      have hc := hcell i (by omega)
      have hmem : zs.getD i 0 ∈ zs := by simp [List.getD, List.getElem?_eq_getElem (show i < zs.length by omega)]
      obtain ⟨b, hb⟩ := u8_of_wf (hwf _ hmem)
      exact ⟨b, by rw [hc, hb]⟩
    refine ⟨some a, len, cap, (List.range len).map fun i => if h : i < len then Classical.choose (hf i h) else 0, hv, ⟨⟨by simp [bv], fun hn => ⟨a, rfl, ?_, fun j u hu => ?_⟩⟩, hl, hm⟩⟩
    · obtain ⟨b, hb⟩ := hf 0 hn
      have := World.block_lt_of_cell? _ _ hb
      rwa [block_of_add] at this
    · have hj : j < len := by
        have := (List.getElem?_eq_some_iff.1 hu).1
        simpa [bv] using this
      have : u = .int .u8 (Classical.choose (hf j hj)).toNat := by
        simp [bv, hj] at hu
        exact hu.symm
      rw [this]
      exact Classical.choose_spec (hf j hj)
theorem hops_of {fuel : Nat} {v : Value} {x : DataW H × List MemPlace} (h : DataW.trod enc Tryz.prog W base spare held fuel 31 [v] = some x) : ∃ A n c hs, v = .slice A n c ∧ HS W W.heap.size A n c hs := by
  rcases open_slice_fields Tryz.underlying31 Tryz.underlying50 (by kernel_rfl) (by kernel_rfl) h with ⟨hcs, _⟩ | ⟨a, len, cap, m, D, Pl, hcs, _, hl, hmx, hm, _, hel⟩
  · injection hcs with hv _
    exact ⟨none, 0, 0, [], hv, ⟨rfl, by decide, by simp [maxLen], fun i hi => absurd hi (by simp)⟩⟩
  · injection hcs with hv _
    have hml : len ≤ m := by rw [hm]; split <;> omega
    have hf : ∀ i, i < len → ∃ hp : Hop, W.cell? (a.add (i * 2)) = some (.int .u8 hp.kd) ∧ W.cell? (a.add (i * 2 + 1)) = some (.slice hp.A hp.n hp.c) ∧ RB W W.heap.size hp.A hp.n hp.c hp.l := fun i hi => by
      obtain ⟨ys, n, _, _, _, hfl⟩ := hel i (by omega)
      obtain ⟨v0, y0, c0, _, t0⟩ := hfl 0 _ rfl
      obtain ⟨v1, y1, c1, _, t1⟩ := hfl 1 _ rfl
      obtain ⟨k, e0, _, hwf⟩ := DataW.trod_int Tryz.underlying5 t0
      injection e0 with e0 _
      obtain ⟨b, rfl⟩ := u8_of_wf hwf
      obtain ⟨A, n1, c', l, rfl, hr⟩ := bytes_of t1
      refine ⟨⟨b.toNat, A, n1, c', l⟩, ?_, ?_, hr⟩
      · rw [e0] at c0
        exact c0
      · exact c1
    refine ⟨some a, len, cap, (List.range len).map fun i => if h : i < len then Classical.choose (hf i h) else ⟨0, none, 0, 0, []⟩, hv, ⟨by simp, hl, hmx, fun i hi => ?_⟩⟩
    have hil : i < len := by simpa using hi
    have hs := Classical.choose_spec (hf i hil)
    refine ⟨a, rfl, ?_, ?_⟩
    · have := World.block_lt_of_cell? _ _ hs.1
      rwa [block_of_add] at this
    · simp only [List.getElem_map, List.getElem_range, dif_pos hil]
      exact hs
end
end Go.Proofs.YtkmieonfhcmimaaGreatDoor

/- The argument: a slice of slices of parts, out of what the row says of it. -/
namespace Go.Proofs.YtkmieonfhcmimaaGreatDoor
open Go.ChangeShapes Go.RowKit Go.WideShapes Go.Deep
section
variable {H : Type} {enc : TypeId × Value → H} {W : World} {base : Nat} {spare : Nat → Bool} {held : Bool}
theorem cells_hslice : Tryz.prog.cellsOf 31 = 1 := by kernel_rfl
theorem rows_of {fuel : Nat} {v : Value} {x : DataW H × List MemPlace} (h : DataW.trod enc Tryz.prog W base spare held fuel 22 [v] = some x) : ∃ A n c rs, v = .slice A n c ∧ RS W W.heap.size A n c rs := by
  rcases open_slice Tryz.underlying22 h with ⟨hcs, _⟩ | ⟨a, len, cap, m, k, D, Pl, hcs, _, hl, hmx, hm, _, hel⟩
  · injection hcs with hv _
    exact ⟨none, 0, 0, [], hv, ⟨rfl, by decide, by simp [maxLen], fun i hi => absurd hi (by simp)⟩⟩
  · injection hcs with hv _
    have hml : len ≤ m := by rw [hm]; split <;> omega
    have hf : ∀ i, i < len → ∃ p : Row, W.cell? (a.add i) = some p.v ∧ HS W W.heap.size p.A p.n p.c p.hs := fun i hi => by
      obtain ⟨cs', hc, ht'⟩ := hel i (by omega)
      rw [cells_hslice, Nat.mul_one] at hc
      obtain ⟨_, hcl, hat⟩ := World.cells?_some hc
      obtain ⟨u, rfl⟩ : ∃ u, cs' = [u] := by
        rcases cs' with _ | ⟨u, _ | ⟨u2, cs'⟩⟩
        · simp at hcl
        · exact ⟨u, rfl⟩
        · simp at hcl
      obtain ⟨A, n1, c', l, rfl, hr⟩ := hops_of ht'
      refine ⟨⟨A, n1, c', l⟩, ?_, hr⟩
      have := hat 0 (by decide)
      simpa [Addr.add, Row.v] using this
    refine ⟨some a, len, cap, (List.range len).map fun i => if h : i < len then Classical.choose (hf i h) else ⟨none, 0, 0, []⟩, hv, ⟨by simp, hl, hmx, fun i hi => ?_⟩⟩
    have hil : i < len := by simpa using hi
    have hs := Classical.choose_spec (hf i hil)
    refine ⟨a, rfl, ?_, ?_⟩
    · have := World.block_lt_of_cell? _ _ hs.1
      rwa [block_of_add] at this
    · simp only [List.getElem_map, List.getElem_range, dif_pos hil]
      exact hs
end
end Go.Proofs.YtkmieonfhcmimaaGreatDoor
