/- A map from IDs to lists of addresses, as the call makes it: what it holds. No condition. -/
import Derived.Test.YtimakhadabenbaaGreatDoorGt
import Derived.Maps.OwnSet
import Derived.Maps.RangeWalk
import Derived.Sort.KeysCollected
namespace Go.Proofs.YtimakhadabenbaaGreatDoor
open Go.RowKit
set_option maxRecDepth 100000
/-- A map's element, raw. -/
def rawR : Value → Option (DataW Value × List MemPlace)
  | .slice A n c => some (.held (.slice A n c), [])
  | _ => none
theorem rawR_slice (A : Option Addr) (n c : Nat) : rawR (.slice A n c) = some (.held (.slice A n c), []) := rfl
theorem rawR_inv {v : Value} {y : DataW Value × List MemPlace} (h : rawR v = some y) : (∃ A n c, v = .slice A n c) ∧ y = (.held v, []) := by
  unfold rawR at h
  split at h
  · cases h; exact ⟨⟨_, _, _, rfl⟩, rfl⟩
  · cases h
theorem key_law : Maps.Keyed Tryz.prog 54 := Maps.string_keyed Tryz.underlying54
theorem key_of (L : List UInt8) (h : L.length ≤ maxLen) : keyOf Tryz.prog 54 (.string ⟨L.toArray⟩) = some (.string L) := by
  rw [WideMaps.keyOf_string_mk Tryz.underlying54 (s := ⟨L.toArray⟩) (by rw [size_toArray]; exact h)]
theorem key_lit (L : List UInt8) (h : L.length ≤ maxLen) : WideAt.IsKeyLit (.string L) := key_law.key (key_of L h)
theorem group_zero (w : World) : (zeroValue 44).run Tryz.prog w = .ok (.slice none 0 0) w := by kernel_rfl
/-- One entry put. -/
def upd {α : Type} (f : List UInt8 → α) (L : List UInt8) (x : α) : List UInt8 → α := fun k => if k = L then x else f k
theorem upd_same {α : Type} (f : List UInt8 → α) (L : List UInt8) (x : α) : upd f L x L = x := by simp [upd]
theorem upd_other {α : Type} (f : List UInt8 → α) {L k : List UInt8} (x : α) (h : k ≠ L) : upd f L x k = f k := by simp [upd, h]
/-- Block b is a map of at most n IDs; what f says it holds; the lists lie in rows of their own. -/
structure GM (w : World) (base b n : Nat) (f : List UInt8 → Option (List Tr)) (D : DataW Value) (val : List UInt8 → Value) : Prop where
  own : w.ownsMap Tryz.prog 54 rawR b n D
  has : ∀ k, Maps.has D (.string k) = (f k).isSome
  at_ : ∀ k, D.atKey (.string k) (.held (.slice none 0 0)) = .held (val k)
  row : ∀ k, w.ownsRow base 46 1 (val k) ((f k).getD []).length (trCells ((f k).getD []))
  nil_ : ∀ k, (f k).getD [] = [] → val k = .slice none 0 0
  apart : ∀ k k', k ≠ k' → (val k).ownBlock = none ∨ (val k).ownBlock ≠ (val k').ownBlock
  low : b < base
  oks : ∀ k, ∀ t ∈ (f k).getD [], TrOk w t
section
variable {w w' : World} {base b n : Nat} {f : List UInt8 → Option (List Tr)} {D : DataW Value} {val : List UInt8 → Value}
theorem GM.made (w : World) : GM (w.alloc (.map #[] 0)) (w.heap.size + 1) w.heap.size 0 (fun _ => none) (.map []) (fun _ => .slice none 0 0) :=
  ⟨World.ownsMap_made _ _ _ _, fun _ => rfl, fun _ => rfl, fun _ => World.ownsRow_nil _ _ _ _, fun _ _ => rfl, fun _ _ _ => .inl rfl, Nat.lt_succ_self _, fun _ t ht => by simp at ht⟩
theorem GM.kept (h : GM w base b n f D val) {row : Option Nat} (hg : w.grownBy w' row) (hb : some b ≠ row) (hr : ∀ k, (val k).ownBlock = none ∨ (val k).ownBlock ≠ row) (ht : ∀ k, ∀ t ∈ (f k).getD [], TrOk w' t) : GM w' base b n f D val :=
  ⟨h.own.kept hg hb, h.has, h.at_, fun k => (h.row k).kept hg (hr k), h.nil_, h.apart, h.low, ht⟩
theorem GM.below (h : GM w base b n f D val) (hb : Below w.heap.size w w') : GM w' base b n f D val :=
  h.kept (only_of_below hb none) (by simp) (fun k => by cases (val k).ownBlock <;> simp) (fun k t ht => (h.oks k t ht).below hb)
theorem GM.drew (h : GM w base b n f D val) : GM w.drew base b n f D val := h.below ((Below.refl _ w).drew)
theorem GM.more (h : GM w base b n f D val) {n' : Nat} (hn : n ≤ n') : GM w base b n' f D val := ⟨h.own.mono hn, h.has, h.at_, h.row, h.nil_, h.apart, h.low, h.oks⟩
theorem GM.slice (h : GM w base b n f D val) (k : List UInt8) : ∃ A c, val k = .slice A ((f k).getD []).length c := own_slice (h.row k)
theorem GM.lt (h : GM w base b n f D val) : b < w.heap.size := h.own.lt
/-- 'm[id]'. -/
theorem GM.look (h : GM w base b n f D val) (L : List UInt8) (hL : L.length ≤ maxLen) : (Instr.lookup 72 (.map (some b)) (.string ⟨L.toArray⟩) false).run Tryz.prog w = .ok (val L) w := by
  obtain ⟨v, ps, hrun, hv⟩ := h.own.lookup key_law Tryz.underlying72 (group_zero w) (rawR_slice none 0 0) (key_of L hL)
  have := (rawR_inv hv).2
  simp only [Prod.mk.injEq] at this
  rw [h.at_ L] at this
  have h1 := this.1
  injection h1 with h1
  rw [h1]
  exact hrun
/-- '_, ok := m[id]'. -/
theorem GM.look_ok (h : GM w base b n f D val) (L : List UInt8) (hL : L.length ≤ maxLen) : (Instr.lookup 72 (.map (some b)) (.string ⟨L.toArray⟩) true).run Tryz.prog w = .ok (.tuple #[val L, .bool (f L).isSome]) w := by
  obtain ⟨v, ps, hrun, hv⟩ := h.own.look_ok key_law Tryz.underlying72 (group_zero w) (rawR_slice none 0 0) (key_of L hL)
  have := (rawR_inv hv).2
  simp only [Prod.mk.injEq] at this
  rw [h.at_ L] at this
  have h1 := this.1
  injection h1 with h1
  rw [h1, ← h.has L]
  exact hrun
theorem upd_isSome (f : List UInt8 → Option (List Tr)) (L : List UInt8) (x : List Tr) (D : DataW Value) (v : Value) (hD : Maps.IsMap D) (hL : L.length ≤ maxLen) (h : ∀ k, Maps.has D (.string k) = (f k).isSome) : ∀ k, Maps.has (D.put (.string L) (.held v)) (.string k) = (upd f L (some x) k).isSome := by
  intro k
  by_cases e : k = L
  · subst e
    rw [Maps.has_put_same hD (key_lit k hL), upd_same]
    rfl
  · rw [Maps.has_put_other (fun h1 => e (by injection h1)), upd_other _ _ e]
    exact h k
theorem upd_at (val : List UInt8 → Value) (L : List UInt8) (D : DataW Value) (v : Value) (hD : Maps.IsMap D) (hL : L.length ≤ maxLen) (h : ∀ k, D.atKey (.string k) (.held (.slice none 0 0)) = .held (val k)) : ∀ k, (D.put (.string L) (.held v)).atKey (.string k) (.held (.slice none 0 0)) = .held (upd val L v k) := by
  intro k
  by_cases e : k = L
  · subst e
    rw [Maps.atKey_put_same hD (key_lit k hL), upd_same]
  · rw [Maps.atKey_put_other (fun h1 => e (by injection h1)), upd_other _ _ e]
    exact h k
/-- Behind 'm[id] = append(m[id], t)'. -/
theorem GM.put (h : GM w base b n f D val) (L : List UInt8) (hL : L.length ≤ maxLen) (t : Tr) {w1 w2 : World} {v' : Value} (hg : w.grownBy w1 (val L).ownBlock)
    (ho : w1.ownsRow base 46 1 v' (((f L).getD []).length + 1) (trCells ((f L).getD []) ++ [t.v])) (hloc : v'.ownBlock = (val L).ownBlock ∨ ∃ g, v'.ownBlock = some g ∧ w.heap.size ≤ g) (ht : TrOk w1 t)
    (hm : w2.ownsMap Tryz.prog 54 rawR b (n + 1) (D.put (.string L) (.held v'))) (hg2 : w1.grownBy w2 (some b)) :
    GM w2 base b (n + 1) (upd f L (some ((f L).getD [] ++ [t]))) (D.put (.string L) (.held v')) (upd val L v') := by
  have hrow : ∀ k, k ≠ L → (val k).ownBlock = none ∨ (val k).ownBlock ≠ (val L).ownBlock := fun k hk => h.apart k L hk
  have hb1 : ∃ es clock, w1.heap[b]? = some (.map es clock) := by
    obtain ⟨es, clock, hb, _⟩ := h.own
    refine ⟨es, clock, (hg.block b h.lt (fun e => ?_)).trans hb⟩
    have := ((h.row L).lt b e.symm).1
    have := h.low
    omega
  obtain ⟨es, clock, hb1⟩ := hb1
  have hnb : ∀ k, (val k).ownBlock ≠ some b := fun k e => by
    have := ((h.row k).lt b e).1
    have := h.low
    omega
  have hnb' : v'.ownBlock ≠ some b := fun e => by
    have := (ho.lt b e).1
    have := h.low
    omega
  have hnew : ∀ k, k ≠ L → (val k).ownBlock = none ∨ (val k).ownBlock ≠ v'.ownBlock := fun k hk => by
    rcases hloc with e | ⟨g, e, hge⟩
    · rw [e]; exact hrow k hk
    · rcases hv : (val k).ownBlock with _ | g'
      · exact .inl rfl
      · refine .inr (fun e2 => ?_)
        rw [e] at e2
        injection e2 with e2
        have := ((h.row k).lt g' hv).2
        omega
  have hold : ∀ t' : Tr, TrOk w t' → TrOk w2 t' := fun t' ht' => by
    have hoff := ht'.off_row (h.row L) (fun e => by rw [h.nil_ L e]; rfl)
    have h1 := ht'.kept hg hoff.1 hoff.2
    have hoff2 := h1.off_map hb1
    exact h1.kept hg2 hoff2.1 hoff2.2
  have htn : TrOk w2 t := ht.kept hg2 (ht.off_map hb1).1 (ht.off_map hb1).2
  refine ⟨hm, upd_isSome f L _ D v' h.own.isMap hL h.has, upd_at val L D v' h.own.isMap hL h.at_, fun k => ?_, fun k => ?_, fun k k' hkk => ?_, h.low, fun k t' ht' => ?_⟩
  · by_cases e : k = L
    · subst e
      rw [upd_same, upd_same, Option.getD_some, trCells_snoc, List.length_append, List.length_singleton]
      exact ho.kept hg2 (by rcases h1 : v'.ownBlock with _ | _; exact .inl rfl; exact .inr (h1 ▸ hnb'))
    · rw [upd_other _ _ e, upd_other _ _ e]
      exact ((h.row k).kept hg (hrow k e)).kept hg2 (.inr (hnb k))
  · by_cases e : k = L
    · subst e
      rw [upd_same, Option.getD_some]
      intro h0
      simp at h0
    · rw [upd_other _ _ e, upd_other _ _ e]
      exact h.nil_ k
  · by_cases e : k = L
    · subst e
      rw [upd_same, upd_other _ _ (Ne.symm hkk)]
      rcases hv : v'.ownBlock with _ | g
      · exact .inl rfl
      · rcases hnew k' (Ne.symm hkk) with h1 | h1
        · exact .inr (by rw [h1]; simp)
        · exact .inr (fun e2 => h1 (by rw [hv, e2]))
    · rw [upd_other _ _ e]
      by_cases e' : k' = L
      · subst e'
        rw [upd_same]
        exact hnew k e
      · rw [upd_other _ _ e']
        exact h.apart k k' hkk
  · by_cases e : k = L
    · subst e
      rw [upd_same, Option.getD_some, List.mem_append, List.mem_singleton] at ht'
      rcases ht' with h1 | rfl
      · exact hold t' (h.oks k t' h1)
      · exact htn
    · rw [upd_other _ _ e] at ht'
      exact hold t' (h.oks k t' ht')
/-- Behind 'm[id] = nil' at an ID that was not there. -/
theorem GM.putNil (h : GM w base b n f D val) (L : List UInt8) (hL : L.length ≤ maxLen) (hf : f L = none) {w2 : World}
    (hm : w2.ownsMap Tryz.prog 54 rawR b (n + 1) (D.put (.string L) (.held (.slice none 0 0)))) (hg2 : w.grownBy w2 (some b)) :
    GM w2 base b (n + 1) (upd f L (some ((f L).getD []))) (D.put (.string L) (.held (.slice none 0 0))) (upd val L (.slice none 0 0)) := by
  have hv : val L = .slice none 0 0 := h.nil_ L (by rw [hf]; rfl)
  have hval : upd val L (.slice none 0 0) = val := by
    funext k
    by_cases e : k = L
    · subst e; rw [upd_same, hv]
    · rw [upd_other _ _ e]
  have hget : ∀ k, (upd f L (some ((f L).getD [])) k).getD [] = (f k).getD [] := fun k => by
    by_cases e : k = L
    · subst e; rw [upd_same]; rfl
    · rw [upd_other _ _ e]
  have hb1 : ∃ es clock, w.heap[b]? = some (.map es clock) := by
    obtain ⟨es, clock, hb, _⟩ := h.own
    exact ⟨es, clock, hb⟩
  obtain ⟨es, clock, hb1⟩ := hb1
  have hnb : ∀ k, (val k).ownBlock ≠ some b := fun k e => by
    have := ((h.row k).lt b e).1
    have := h.low
    omega
  refine ⟨hm, upd_isSome f L _ D _ h.own.isMap hL h.has, upd_at val L D _ h.own.isMap hL h.at_, fun k => ?_, fun k => ?_, fun k k' hkk => ?_, h.low, fun k t' ht' => ?_⟩
  · rw [hval, hget]
    exact (h.row k).kept hg2 (.inr (hnb k))
  · rw [hval, hget]
    exact h.nil_ k
  · rw [hval]
    exact h.apart k k' hkk
  · rw [hget] at ht'
    have h1 := h.oks k t' ht'
    exact h1.kept hg2 (h1.off_map hb1).1 (h1.off_map hb1).2
end
/-- What addresses tell, one after the other: an ID, and a transport, if there is one. -/
def grp (l : List (List UInt8 × Option Tr)) : List UInt8 → Option (List Tr) := fun k => if l.any (fun p => p.1 == k) then some (l.filterMap fun p => if p.1 = k then p.2 else none) else none
theorem grp_nil : grp [] = fun _ => none := rfl
theorem grp_snoc (l : List (List UInt8 × Option Tr)) (L : List UInt8) (o : Option Tr) : grp (l ++ [(L, o)]) = upd (grp l) L (some ((grp l L).getD [] ++ o.toList)) := by
  funext k
  by_cases e : k = L
  · subst e
    rw [upd_same]
    unfold grp
    by_cases h : l.any (fun p => p.1 == k) = true
    · rw [if_pos h, if_pos (by simp [h]), Option.getD_some, List.filterMap_append]
      congr 2
      cases o <;> simp
    · rw [if_neg h, if_pos (by simp), Option.getD_none, List.filterMap_append]
      have : l.filterMap (fun p => if p.1 = k then p.2 else none) = [] := by
        rw [List.filterMap_eq_nil_iff]
        intro p hp
        rw [if_neg (fun e => h (List.any_eq_true.2 ⟨p, hp, by simp [e]⟩))]
      rw [this]
      congr 1
      cases o <;> simp
  · rw [upd_other _ _ e]
    unfold grp
    have h1 : (l ++ [(L, o)]).any (fun p => p.1 == k) = l.any (fun p => p.1 == k) := by simp [Ne.symm e]
    rw [h1, List.filterMap_append]
    have h2 : [(L, o)].filterMap (fun p : List UInt8 × Option Tr => if p.1 = k then p.2 else none) = [] := by simp [Ne.symm e]
    rw [h2, List.append_nil]
theorem upd_id {α : Type} (f : List UInt8 → α) (L : List UInt8) : upd f L (f L) = f := by
  funext k
  by_cases e : k = L
  · subst e; rw [upd_same]
  · rw [upd_other _ _ e]
theorem grp_len (l : List (List UInt8 × Option Tr)) (k : List UInt8) : ((grp l k).getD []).length ≤ l.length := by
  unfold grp
  split
  · exact List.length_filterMap_le _ _
  · simp
end Go.Proofs.YtimakhadabenbaaGreatDoor
