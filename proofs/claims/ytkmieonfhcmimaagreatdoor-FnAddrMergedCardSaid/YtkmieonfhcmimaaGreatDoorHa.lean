/- A map from IDs to lists of addresses, as the call makes it: what it holds. No condition. -/
import Derived.Test.YtkmieonfhcmimaaGreatDoorGt
import Derived.Maps.OwnSet
import Derived.Maps.RangeWalk
import Derived.Sort.KeysCollected
import Derived.Test.YtkmieonfhcmimaaGreatDoorKb
namespace Go.Proofs.YtkmieonfhcmimaaGreatDoor
open Go.RowKit
set_option maxRecDepth 100000
/-- A map's element, raw. -/
def rawR : Value → Option (DataW Value × List MemPlace)
  | .slice A n c => some (.held (.slice A n c), [])
  | _ => none
theorem rawR_slice (A : Option Addr) (n c : Nat) : rawR (.slice A n c) = some (.held (.slice A n c), []) := rfl
theorem rawR_inv {v : Value} {y : DataW Value × List MemPlace} (h : rawR v = some y) : (∃ A n c, v = .slice A n c) ∧ y = (.held v, []) := by
  unfold rawR at h
  split at h
  · cases h; exact ⟨⟨_, _, _, rfl⟩, rfl⟩
  · cases h
theorem key_law : Maps.Keyed Tryz.prog 64 := Maps.string_keyed Tryz.underlying64
theorem key_of (L : List UInt8) (h : L.length ≤ maxLen) : keyOf Tryz.prog 64 (.string ⟨L.toArray⟩) = some (.string L) := by
  rw [WideMaps.keyOf_string_mk Tryz.underlying64 (s := ⟨L.toArray⟩) (by rw [size_toArray]; exact h)]
theorem key_lit (L : List UInt8) (h : L.length ≤ maxLen) : WideAt.IsKeyLit (.string L) := key_law.key (key_of L h)
theorem group_zero (w : World) : (zeroValue 54).run Tryz.prog w = .ok (.slice none 0 0) w := by kernel_rfl
/-- One entry put. -/
def upd {α : Type} (f : List UInt8 → α) (L : List UInt8) (x : α) : List UInt8 → α := fun k => if k = L then x else f k
theorem upd_same {α : Type} (f : List UInt8 → α) (L : List UInt8) (x : α) : upd f L x L = x := by simp [upd]
theorem upd_other {α : Type} (f : List UInt8 → α) {L k : List UInt8} (x : α) (h : k ≠ L) : upd f L x k = f k := by simp [upd, h]
/-- Block b is a map of at most n IDs; what f says it holds; the lists lie in rows of their own. -/
structure GM (w : World) (base b n : Nat) (f : List UInt8 → Option (List Tr)) (D : DataW Value) (val : List UInt8 → Value) : Prop where
  own : w.ownsMap Tryz.prog 64 rawR b n D
  has : ∀ k, Maps.has D (.string k) = (f k).isSome
  at_ : ∀ k, D.atKey (.string k) (.held (.slice none 0 0)) = .held (val k)
  row : ∀ k, w.ownsRow base 56 1 (val k) ((f k).getD []).length (trCells ((f k).getD []))
  nil_ : ∀ k, (f k).getD [] = [] → val k = .slice none 0 0
  apart : ∀ k k', k ≠ k' → (val k).ownBlock = none ∨ (val k).ownBlock ≠ (val k').ownBlock
  low : b < base
  oks : ∀ k, ∀ t ∈ (f k).getD [], TrOk w t
section
variable {w w' : World} {base b n : Nat} {f : List UInt8 → Option (List Tr)} {D : DataW Value} {val : List UInt8 → Value}
theorem GM.made (w : World) : GM (w.alloc (.map #[] 0)) (w.heap.size + 1) w.heap.size 0 (fun _ => none) (.map []) (fun _ => .slice none 0 0) :=
  ⟨World.ownsMap_made _ _ _ _, fun _ => rfl, fun _ => rfl, fun _ => World.ownsRow_nil _ _ _ _, fun _ _ => rfl, fun _ _ _ => .inl rfl, Nat.lt_succ_self _, fun _ t ht => by simp at ht⟩
theorem GM.kept (h : GM w base b n f D val) {row : Option Nat} (hg : w.grownBy w' row) (hb : some b ≠ row) (hr : ∀ k, (val k).ownBlock = none ∨ (val k).ownBlock ≠ row) (ht : ∀ k, ∀ t ∈ (f k).getD [], TrOk w' t) : GM w' base b n f D val :=
  ⟨h.own.kept hg hb, h.has, h.at_, fun k => (h.row k).kept hg (hr k), h.nil_, h.apart, h.low, ht⟩
theorem GM.below (h : GM w base b n f D val) (hb : Below w.heap.size w w') : GM w' base b n f D val :=
  h.kept (only_of_below hb none) (by simp) (fun k => by cases (val k).ownBlock <;> simp) (fun k t ht => (h.oks k t ht).below hb)
theorem GM.drew (h : GM w base b n f D val) : GM w.drew base b n f D val := h.below ((Below.refl _ w).drew)
theorem GM.more (h : GM w base b n f D val) {n' : Nat} (hn : n ≤ n') : GM w base b n' f D val := ⟨h.own.mono hn, h.has, h.at_, h.row, h.nil_, h.apart, h.low, h.oks⟩
theorem GM.slice (h : GM w base b n f D val) (k : List UInt8) : ∃ A c, val k = .slice A ((f k).getD []).length c := own_slice (h.row k)
theorem GM.lt (h : GM w base b n f D val) : b < w.heap.size := h.own.lt
/-- 'm[id]'. -/
theorem GM.look (h : GM w base b n f D val) (L : List UInt8) (hL : L.length ≤ maxLen) : (Instr.lookup 93 (.map (some b)) (.string ⟨L.toArray⟩) false).run Tryz.prog w = .ok (val L) w := by
  obtain ⟨v, ps, hrun, hv⟩ := h.own.lookup key_law Tryz.underlying93 (group_zero w) (rawR_slice none 0 0) (key_of L hL)
  have := (rawR_inv hv).2
  simp only [Prod.mk.injEq] at this
  rw [h.at_ L] at this
  have h1 := this.1
  injection h1 with h1
  rw [h1]
  exact hrun
/-- '_, ok := m[id]'. -/
theorem GM.look_ok (h : GM w base b n f D val) (L : List UInt8) (hL : L.length ≤ maxLen) : (Instr.lookup 93 (.map (some b)) (.string ⟨L.toArray⟩) true).run Tryz.prog w = .ok (.tuple #[val L, .bool (f L).isSome]) w := by
  obtain ⟨v, ps, hrun, hv⟩ := h.own.look_ok key_law Tryz.underlying93 (group_zero w) (rawR_slice none 0 0) (key_of L hL)
  have := (rawR_inv hv).2
  simp only [Prod.mk.injEq] at this
  rw [h.at_ L] at this
  have h1 := this.1
  injection h1 with h1
  rw [h1, ← h.has L]
  exact hrun
theorem upd_isSome (f : List UInt8 → Option (List Tr)) (L : List UInt8) (x : List Tr) (D : DataW Value) (v : Value) (hD : Maps.IsMap D) (hL : L.length ≤ maxLen) (h : ∀ k, Maps.has D (.string k) = (f k).isSome) : ∀ k, Maps.has (D.put (.string L) (.held v)) (.string k) = (upd f L (some x) k).isSome := by
  intro k
  by_cases e : k = L
  · subst e
    rw [Maps.has_put_same hD (key_lit k hL), upd_same]
    rfl
  · rw [Maps.has_put_other (fun h1 => e (by injection h1)), upd_other _ _ e]
    exact h k
theorem upd_at (val : List UInt8 → Value) (L : List UInt8) (D : DataW Value) (v : Value) (hD : Maps.IsMap D) (hL : L.length ≤ maxLen) (h : ∀ k, D.atKey (.string k) (.held (.slice none 0 0)) = .held (val k)) : ∀ k, (D.put (.string L) (.held v)).atKey (.string k) (.held (.slice none 0 0)) = .held (upd val L v k) := by
  intro k
  by_cases e : k = L
  · subst e
    rw [Maps.atKey_put_same hD (key_lit k hL), upd_same]
  · rw [Maps.atKey_put_other (fun h1 => e (by injection h1)), upd_other _ _ e]
    exact h k
/-- Behind 'm[id] = append(m[id], t)'. -/
theorem GM.put (h : GM w base b n f D val) (L : List UInt8) (hL : L.length ≤ maxLen) (t : Tr) {w1 w2 : World} {v' : Value} (hg : w.grownBy w1 (val L).ownBlock)
    (ho : w1.ownsRow base 56 1 v' (((f L).getD []).length + 1) (trCells ((f L).getD []) ++ [t.v])) (hloc : v'.ownBlock = (val L).ownBlock ∨ ∃ g, v'.ownBlock = some g ∧ w.heap.size ≤ g) (ht : TrOk w1 t)
    (hm : w2.ownsMap Tryz.prog 64 rawR b (n + 1) (D.put (.string L) (.held v'))) (hg2 : w1.grownBy w2 (some b)) :
    GM w2 base b (n + 1) (upd f L (some ((f L).getD [] ++ [t]))) (D.put (.string L) (.held v')) (upd val L v') := by
  have hrow : ∀ k, k ≠ L → (val k).ownBlock = none ∨ (val k).ownBlock ≠ (val L).ownBlock := fun k hk => h.apart k L hk
  have hb1 : ∃ es clock, w1.heap[b]? = some (.map es clock) := by
    obtain ⟨es, clock, hb, _⟩ := h.own
    refine ⟨es, clock, (hg.block b h.lt (fun e => ?_)).trans hb⟩
    have := ((h.row L).lt b e.symm).1
    have := h.low
    omega
  obtain ⟨es, clock, hb1⟩ := hb1
  have hnb : ∀ k, (val k).ownBlock ≠ some b := fun k e => by
    have := ((h.row k).lt b e).1
    have := h.low
    omega
  have hnb' : v'.ownBlock ≠ some b := fun e => by
    have := (ho.lt b e).1
    have := h.low
    omega
  have hnew : ∀ k, k ≠ L → (val k).ownBlock = none ∨ (val k).ownBlock ≠ v'.ownBlock := fun k hk => by
    rcases hloc with e | ⟨g, e, hge⟩
    · rw [e]; exact hrow k hk
    · rcases hv : (val k).ownBlock with _ | g'
      · exact .inl rfl
      · refine .inr (fun e2 => ?_)
        rw [e] at e2
        injection e2 with e2
        have := ((h.row k).lt g' hv).2
        omega
  have hold : ∀ t' : Tr, TrOk w t' → TrOk w2 t' := fun t' ht' => by
    have hoff := ht'.off_row (h.row L) (fun e => by rw [h.nil_ L e]; rfl)
    have h1 := ht'.kept hg hoff.1 hoff.2
    have hoff2 := h1.off_map hb1
    exact h1.kept hg2 hoff2.1 hoff2.2
  have htn : TrOk w2 t := ht.kept hg2 (ht.off_map hb1).1 (ht.off_map hb1).2
  refine ⟨hm, upd_isSome f L _ D v' h.own.isMap hL h.has, upd_at val L D v' h.own.isMap hL h.at_, fun k => ?_, fun k => ?_, fun k k' hkk => ?_, h.low, fun k t' ht' => ?_⟩
  · by_cases e : k = L
    · subst e
      rw [upd_same, upd_same, Option.getD_some, trCells_snoc, List.length_append, List.length_singleton]
      exact ho.kept hg2 (by rcases h1 : v'.ownBlock with _ | _; exact .inl rfl; exact .inr (h1 ▸ hnb'))
    · rw [upd_other _ _ e, upd_other _ _ e]
      exact ((h.row k).kept hg (hrow k e)).kept hg2 (.inr (hnb k))
  · by_cases e : k = L
    · subst e
      rw [upd_same, Option.getD_some]
      intro h0
      simp at h0
    · rw [upd_other _ _ e, upd_other _ _ e]
      exact h.nil_ k
  · by_cases e : k = L
    · subst e
      rw [upd_same, upd_other _ _ (Ne.symm hkk)]
      rcases hv : v'.ownBlock with _ | g
      · exact .inl rfl
      · rcases hnew k' (Ne.symm hkk) with h1 | h1
        · exact .inr (by rw [h1]; simp)
        · exact .inr (fun e2 => h1 (by rw [hv, e2]))
    · rw [upd_other _ _ e]
      by_cases e' : k' = L
      · subst e'
        rw [upd_same]
        exact hnew k e
      · rw [upd_other _ _ e']
        exact h.apart k k' hkk
  · by_cases e : k = L
    · subst e
      rw [upd_same, Option.getD_some, List.mem_append, List.mem_singleton] at ht'
      rcases ht' with h1 | rfl
      · exact hold t' (h.oks k t' h1)
      · exact htn
    · rw [upd_other _ _ e] at ht'
      exact hold t' (h.oks k t' ht')
/-- Behind 'm[id] = nil' at an ID that was not there. -/
theorem GM.putNil (h : GM w base b n f D val) (L : List UInt8) (hL : L.length ≤ maxLen) (hf : f L = none) {w2 : World}
    (hm : w2.ownsMap Tryz.prog 64 rawR b (n + 1) (D.put (.string L) (.held (.slice none 0 0)))) (hg2 : w.grownBy w2 (some b)) :
    GM w2 base b (n + 1) (upd f L (some ((f L).getD []))) (D.put (.string L) (.held (.slice none 0 0))) (upd val L (.slice none 0 0)) := by
  have hv : val L = .slice none 0 0 := h.nil_ L (by rw [hf]; rfl)
  have hval : upd val L (.slice none 0 0) = val := by
    funext k
    by_cases e : k = L
    · subst e; rw [upd_same, hv]
    · rw [upd_other _ _ e]
  have hget : ∀ k, (upd f L (some ((f L).getD [])) k).getD [] = (f k).getD [] := fun k => by
    by_cases e : k = L
    · subst e; rw [upd_same]; rfl
    · rw [upd_other _ _ e]
  have hb1 : ∃ es clock, w.heap[b]? = some (.map es clock) := by
    obtain ⟨es, clock, hb, _⟩ := h.own
    exact ⟨es, clock, hb⟩
  obtain ⟨es, clock, hb1⟩ := hb1
  have hnb : ∀ k, (val k).ownBlock ≠ some b := fun k e => by
    have := ((h.row k).lt b e).1
    have := h.low
    omega
  refine ⟨hm, upd_isSome f L _ D _ h.own.isMap hL h.has, upd_at val L D _ h.own.isMap hL h.at_, fun k => ?_, fun k => ?_, fun k k' hkk => ?_, h.low, fun k t' ht' => ?_⟩
  · rw [hval, hget]
    exact (h.row k).kept hg2 (.inr (hnb k))
  · rw [hval, hget]
    exact h.nil_ k
  · rw [hval]
    exact h.apart k k' hkk
  · rw [hget] at ht'
    have h1 := h.oks k t' ht'
    exact h1.kept hg2 (h1.off_map hb1).1 (h1.off_map hb1).2
end
/-- What addresses tell, one after the other: an ID, and a transport, if there is one. -/
def grp (l : List (List UInt8 × Option Tr)) : List UInt8 → Option (List Tr) := fun k => if l.any (fun p => p.1 == k) then some (l.filterMap fun p => if p.1 = k then p.2 else none) else none
theorem grp_nil : grp [] = fun _ => none := rfl
theorem grp_snoc (l : List (List UInt8 × Option Tr)) (L : List UInt8) (o : Option Tr) : grp (l ++ [(L, o)]) = upd (grp l) L (some ((grp l L).getD [] ++ o.toList)) := by
  funext k
  by_cases e : k = L
  · subst e
    rw [upd_same]
    unfold grp
    by_cases h : l.any (fun p => p.1 == k) = true
    · rw [if_pos h, if_pos (by simp [h]), Option.getD_some, List.filterMap_append]
      congr 2
      cases o <;> simp
    · rw [if_neg h, if_pos (by simp), Option.getD_none, List.filterMap_append]
      have : l.filterMap (fun p => if p.1 = k then p.2 else none) = [] := by
        rw [List.filterMap_eq_nil_iff]
        intro p hp
        rw [if_neg (fun e => h (List.any_eq_true.2 ⟨p, hp, by simp [e]⟩))]
      rw [this]
      congr 1
      cases o <;> simp
  · rw [upd_other _ _ e]
    unfold grp
    have h1 : (l ++ [(L, o)]).any (fun p => p.1 == k) = l.any (fun p => p.1 == k) := by simp [Ne.symm e]
    rw [h1, List.filterMap_append]
    have h2 : [(L, o)].filterMap (fun p : List UInt8 × Option Tr => if p.1 = k then p.2 else none) = [] := by simp [Ne.symm e]
    rw [h2, List.append_nil]
theorem upd_id {α : Type} (f : List UInt8 → α) (L : List UInt8) : upd f L (f L) = f := by
  funext k
  by_cases e : k = L
  · subst e; rw [upd_same]
  · rw [upd_other _ _ e]
theorem grp_len (l : List (List UInt8 × Option Tr)) (k : List UInt8) : ((grp l k).getD []).length ≤ l.length := by
  unfold grp
  split
  · exact List.length_filterMap_le _ _
  · simp
end Go.Proofs.YtkmieonfhcmimaaGreatDoor

/- The ID of data has two bytes at least. No condition. -/
namespace Go.Proofs.YtkmieonfhcmimaaGreatDoor
open Go.RowKit
theorem idOf_two (l : List UInt8) : 2 ≤ (idOf l).length := by
  obtain ⟨x, y, v, d, hid, _⟩ := id_form l
  rw [hid]
  simp
end Go.Proofs.YtkmieonfhcmimaaGreatDoor

/- peer.AddrInfosFromP2pAddrs where an address has no ID: an error. -/
namespace Go.Proofs.YtkmieonfhcmimaaGreatDoor
open Go.RowKit
attribute [local go_sem ↓] Go.wp_at_zero Go.wp_at_succ
/-- The package variable that says that an address has no ID holds an error. -/
structure Inv (w : World) : Prop where
  held : ∃ t v, w.cell? ⟨0, 0, none⟩ = some (.iface t v)
theorem Inv.below {w w' : World} (h : Inv w) (hb : Below w.heap.size w w') : Inv w' := by
  obtain ⟨t, v, h⟩ := h.held
  exact ⟨t, v, (hb.cell (World.block_lt_of_cell? _ _ h)).trans h⟩
/-- No answer, but an error. -/
def OutErr (w : World) (e : Ending) (w' : World) : Prop := ∃ t v, e = .returned (.tuple #[.slice none 0 0, .iface t v]) ∧ Below w.heap.size w w'
set_option maxRecDepth 100000 in
set_option maxHeartbeats 4000000 in
theorem infos_bad (A : Option Addr) (n c base : Nat) (ts : List Tr) (w : World) (ho : w.ownsRow base 56 1 (.slice A n c) n (trCells ts)) (hts : ∀ t ∈ ts, TrOk w t) (hl : ∀ t ∈ ts, t.cs.length ≤ 101) (hu : Inv w) (hn : n ≤ 1000)
    (hbad : ∃ i, ∃ hi : i < ts.length, ∃ cs x, (ts[i]).cs = cs ++ [x] ∧ x.1.kd % 8 ≠ 6) : Calls Tryz.prog 25 #[.slice A n c] w (OutErr w) := by
  obtain ⟨i0, hi0, hz0, hz1, hz2⟩ := info_parts mad_info
  have q : ∀ (w : World) (a : Option Addr) (n c n' c' : Nat), (binOp .eql 56 (.slice a n c) (.slice none n' c')).run Tryz.prog w = .ok (.bool a.isNone) w := fun w a n c n' c' => Lib.run_eql_slice_nil w _ _ a n c n' c' Tryz.underlying56
  have hln : ts.length = n := by have := (Reads.of_own ho).1; rw [trCells_length] at this; omega
  have hmm := @run_makeMap Tryz.prog
  have HO := Lib.hid ho
  have HTS := Lib.hid hts
  have HL := Lib.hid hl
  have HU := Lib.hid hu
  have HLN := Lib.hid hln
  have HBAD := Lib.hid hbad
  have hb0 := (Below.refl _ w).alloc (Nat.le_refl _) (.map #[] 0)
  have HGM := Lib.hid (GM.made w)
  have HB0 := Lib.hid hb0
  clear ho hts hl hu hln hbad hb0
  go_enter Tryz.func25, Tryz.ntmps25
  go_wp2_with fail
  go_loopw [17] (fun i wr => ∃ k : Nat, k ≤ n ∧ i = .int .i64 k ∧ Below w.heap.size w wr ∧ (∀ i (hi : i < ts.length), i < k → ∃ cs x, (ts[i]).cs = cs ++ [x] ∧ x.1.kd % 8 = 6) ∧
    ∃ gl D val, gl.length = k ∧ GM wr (w.heap.size + 1) w.heap.size k (grp gl) D val) (fun i _ => n - (intOf i).toNat)
  case atStart => exact ⟨0, by omega, rfl, HB0.out, fun _ _ h => absurd h (by omega), [], _, _, rfl, HGM.out⟩
  case round =>
    obtain ⟨k, hk, rfl, hb, hall, gl, D, val, hgl, hgm⟩ := hrel
    have HGL := Lib.hid hgl
    have HB := Lib.hid hb
    have HALL := Lib.hid hall
    have HM := Lib.hid hgm
    clear hb hall hgm hgl
    by_cases hlt : k < n
    · have hlt' : k < ts.length := by rw [HLN.out]; exact hlt
      obtain ⟨ad, eA, _, hcell⟩ := (Reads.of_own HO.out).2 (by omega)
      obtain rfl := eA
      have hck := hcell k (ts[k]).v (by simp [trCells, hlt'])
      have hto := (HTS.out _ (List.getElem_mem hlt')).below HB.out
      have hcl := HL.out _ (List.getElem_mem hlt')
      obtain ⟨cs, x, hcs⟩ : ∃ cs x, (ts[k]).cs = cs ++ [x] := by
        have hne : (ts[k]).cs ≠ [] := fun e => by have hpos := hto.pos; rw [e] at hpos; simp at hpos
        exact ⟨_, _, (List.dropLast_concat_getLast hne).symm⟩
      have hnx : x.1.kd % 8 = 6 → ∀ i (hi : i < ts.length), i < k + 1 → ∃ cs x, (ts[i]).cs = cs ++ [x] ∧ x.1.kd % 8 = 6 := fun h6 i hi hik => by
        rcases Nat.lt_or_ge i k with h1 | h1
        · exact HALL.out i hi h1
        · obtain rfl : i = k := by omega
          exact ⟨cs, x, hcs, h6⟩
      have HNX := Lib.hid hnx
      clear hnx
      generalize ts[k] = t at *
      obtain ⟨g, cg, tcs⟩ := t
      obtain rfl : tcs = cs ++ [x] := hcs
      have hcl' : cs.length ≤ 100 := by have : (cs ++ [x]).length ≤ 101 := hcl; simp at this; omega
      have c5 : wr.cell? (ad.add k) = some (.slice (some ⟨g, 0, none⟩) (cs.length + 1) cg) := ((HB.out.cell (World.block_lt_of_cell? _ _ hck)).trans hck).trans (by simp [Tr.v])
      have hms : MS wr g (cs.length + 1) cg (cs ++ [x]) := by have := hto.ms; simpa using this
      have hpr : PR wr (cs ++ [x]) := hto.pr
      clear hck hcell hto hcl
      by_cases h6 : x.1.kd % 8 = 6
      · have HS := Lib.hid (splitaddr_id g cg cs x wr (by omega) h6 hpr hms)
        have HPR := Lib.hid (show PR wr cs from fun y hy => hpr y (by simp [hy]))
        have hI2 := idOf_two x.1.l
        have hIl := idOf_le x.1.l
        have HN6 := Lib.hid (HNX.out h6)
        obtain ⟨I, hI⟩ : ∃ I, I = idOf x.1.l := ⟨_, rfl⟩
        rw [← hI] at hI2 hIl
        have hIm : I.length ≤ maxLen := by unfold maxLen; omega
        have hemp : I.isEmpty = false := by rcases I with _ | ⟨_, _⟩; · simp at hI2
                                            · rfl
        have HIq := Lib.hid hI
        clear hms hpr hI HNX
        go_wp2_with fail
        refine HS.out.mono ?_
        rintro e w1 ⟨T, rfl, hT, hb1⟩
        rw [← HIq.out]
        have HB1 := Lib.hid (HB.out.trans (hb1.mono HB.out.size))
        have HM1 := Lib.hid (HM.out.below hb1)
        have HP1 := Lib.hid (HPR.out.below hb1)
        clear hb1 HS
        have hgs := fun o => grp_snoc gl I o
        have HGS := Lib.hid hgs
        clear hgs
        rcases hT with ⟨h0, rfl⟩ | ⟨h0, b, rfl, hmb⟩
        · clear h0
          have hlk := HM1.out.look_ok I hIm
          rcases hg : grp gl I with _ | y
          · rw [hg] at hlk
            have HG := Lib.hid hg
            clear hg
            go_wp2_with (at_mapUpdate; go_loud (refine wpList_mapUpdate_own _ rfl _ _ _ 93 rfl 64 54 key_law Tryz.underlying93 rawR _ k D rfl HM1.out.own (by unfold maxLen; omega) _ _ (.string I) rfl rfl (key_of I hIm) _ [] (rawR_slice none 0 0) ?_))
            intro w2 hown2 hgrow2
            have hm2 := HM1.out.putNil I hIm HG.out hown2 hgrow2
            have hge : grp (gl ++ [(I, none)]) = upd (grp gl) I (some ((grp gl I).getD [])) := by
              rw [HGS.out none]
              simp
            rw [← hge] at hm2
            have HM3 := Lib.hid hm2
            have HB3 := Lib.hid (HB1.out.grown hgrow2 HB1.out.size (fun g hg => by injection hg with hg; omega))
            clear hown2 hgrow2 hm2 hge
            go_wp2_with fail
            go_roundw
            case rel => exact ⟨k + 1, by omega, by go_num, HB3.out, HN6.out, gl ++ [(I, none)], _, _, by rw [List.length_append, HGL.out]; rfl, HM3.out⟩
            case measure => simp [intOf]; omega
          · rw [hg] at hlk
            have HG := Lib.hid hg
            clear hg
            have HM3 := Lib.hid (show GM w1 (w.heap.size + 1) w.heap.size (k + 1) (grp (gl ++ [(I, none)])) D val by
              have e : grp (gl ++ [(I, none)]) = grp gl := by
                rw [HGS.out none]
                have h1 := upd_id (grp gl) I
                rw [HG.out] at h1
                rw [HG.out]
                simpa using h1
              rw [e]
              exact HM1.out.more (by omega))
            go_wp2_with fail
            go_roundw
            case rel => exact ⟨k + 1, by omega, by go_num, HB1.out, HN6.out, gl ++ [(I, none)], _, _, by rw [List.length_append, HGL.out]; rfl, HM3.out⟩
            case measure => simp [intOf]; omega
        · have hlk := HM1.out.look I hIm
          obtain ⟨Av, cv, hval⟩ := HM1.out.slice I
          rw [hval] at hlk
          have hba := (Below.refl _ w1).alloc (Nat.le_refl _) (.cells #[.slice (some ⟨b, 0, none⟩) cs.length cs.length] 56)
          have HM2 := Lib.hid (HM1.out.below hba)
          have HROW := Lib.hid (HM2.out.row I)
          rw [hval] at HROW
          have HRN := Lib.hid (reads_new w1 #[.slice (some ⟨b, 0, none⟩) cs.length cs.length] 56 1 1 rfl)
          have HB2 := Lib.hid (HB1.out.trans (hba.mono HB1.out.size))
          have HT2 := Lib.hid ((⟨hmb, HP1.out, h0⟩ : TrOk w1 ⟨b, cs.length, cs⟩).below hba)
          have HVAL := Lib.hid hval
          clear hval hba hmb h0
          go_wp2_with (at_builtin; go_loud (refine wpList_append_any _ rfl _ _ _ rfl (w.heap.size + 1) 56 i0 _ 1 24 Tryz.underlying54 hi0 hz0 hz1 hz2 rfl (by decide) _ _ _ rfl HROW.out _ _ 1 1 _ rfl HRN.out ?c0 ?c1 ?c2 ?c3 ?_))
          case c0 => intro u hu; simp at hu; subst hu; rfl
          case c1 => have := grp_len gl I; have := HGL.out; unfold maxLen; omega
          case c2 => have := grp_len gl I; have := HGL.out; omega
          case c3 => have := HB2.out.size; have := HM2.out.lt; omega
          intro v3 w3 hown3 hgrow3 hat3
          obtain ⟨A3, c3, rfl⟩ := own_slice hown3
          have hnb : some w.heap.size ≠ (Value.slice Av ((grp gl I).getD []).length cv).ownBlock := fun e => by
            have := (HROW.out.lt _ e.symm).1
            omega
          have HOM := Lib.hid (HM2.out.own.kept hgrow3 hnb)
          have HOW3 := Lib.hid hown3
          have HGR3 := Lib.hid hgrow3
          have HAT3 := Lib.hid hat3
          have hoff := HT2.out.off_row (HVAL.out ▸ HM2.out.row I) (fun e => by have := HM2.out.nil_ I e; rw [HVAL.out] at this; rw [this]; rfl)
          have HT3 := Lib.hid (HT2.out.kept hgrow3 hoff.1 hoff.2)
          clear hown3 hgrow3 hat3 hoff hnb
          go_wp2_with (at_mapUpdate; go_loud (refine wpList_mapUpdate_own _ rfl _ _ _ 93 rfl 64 54 key_law Tryz.underlying93 rawR _ k D rfl HOM.out (by unfold maxLen; omega) _ _ (.string I) rfl rfl (key_of I hIm) _ [] (rawR_slice _ _ _) ?_))
          intro w4 hown4 hgrow4
          have hm4 := HM2.out.put I hIm ⟨b, cs.length, cs⟩ (by rw [HVAL.out]; exact HGR3.out) HOW3.out (by rw [HVAL.out]; exact HAT3.out.imp id (fun h => ⟨_, h, by rw [World.size_alloc]; exact Nat.le_refl _⟩)) HT3.out hown4 hgrow4
          have hge : grp (gl ++ [(I, some ⟨b, cs.length, cs⟩)]) = upd (grp gl) I (some ((grp gl I).getD [] ++ [⟨b, cs.length, cs⟩])) := by
            rw [HGS.out (some ⟨b, cs.length, cs⟩)]
            rfl
          rw [← hge] at hm4
          have HM4 := Lib.hid hm4
          have HB4 := Lib.hid ((HB2.out.grown HGR3.out HB2.out.size (fun g hg => by have := (HROW.out.lt g hg).1; omega)).grown hgrow4 (Nat.le_trans HB2.out.size HGR3.out.size) (fun g hg => by injection hg with hg; omega))
          clear hown4 hgrow4 hm4 hge
          go_wp2_with fail
          go_roundw
          case rel => exact ⟨k + 1, by omega, by go_num, HB4.out, HN6.out, gl ++ [(I, some ⟨b, cs.length, cs⟩)], _, _, by rw [List.length_append, HGL.out]; rfl, HM4.out⟩
          case measure => simp [intOf]; omega
      · have HS := Lib.hid (splitaddr_other g cg cs x wr (by omega) h6 hpr hms)
        obtain ⟨ti, vi, hc⟩ := (HU.out.below HB.out).held
        have HC := Lib.hid hc
        clear hms hpr HNX hc
        go_wp2_with fail
        refine HS.out.mono ?_
        rintro e w1 ⟨rfl, hb1⟩
        have HB1 := Lib.hid (HB.out.trans (hb1.mono HB.out.size))
        have hc1 : w1.cell? ⟨0, 0, none⟩ = some (.iface ti vi) := (hb1.cell (World.block_lt_of_cell? _ _ HC.out)).trans HC.out
        clear hb1 HS
        go_wp2_with fail
        go_quiet (fail)
        go_wp2_with fail
        go_ret2
        exact ⟨ti, vi, rfl, below_drewN HB1.out _⟩
    · obtain rfl : k = n := by omega
      obtain ⟨i, hi, cs, x, hcs, h6⟩ := HBAD.out
      obtain ⟨cs', x', hcs', h6'⟩ := HALL.out i hi (by rw [← HLN.out]; exact hi)
      rw [hcs] at hcs'
      have := (List.append_inj' hcs' rfl).2
      injection this with hx
      exact absurd (by rw [hx]; exact h6') h6
end Go.Proofs.YtkmieonfhcmimaaGreatDoor
