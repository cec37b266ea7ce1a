/- Addresses of any parts: rows of them, maps from IDs to them, peer.AddrInfosFromP2pAddrs. No condition beyond. -/
import Derived.Test.YtghddiboggdhcaaGreatDoorQe
import Derived.Maps.OwnSet
import Derived.Maps.RangeWalk
import Derived.Sort.KeysCollected
set_option maxRecDepth 100000
set_option maxHeartbeats 4000000
namespace Go.Proofs.YtghddiboggdhcaaGreatDoor
open Go.RowKit
attribute [local go_sem ↓] Go.wp_at_zero Go.wp_at_succ
namespace X
theorem idX_one {w : World} {g n c : Nat} {cs : List (Cp × Nat)} {x : Cp × Nat} (h : MS w g n c (cs ++ [x])) (hk : x.1.k = 421) : 1 ≤ (idX x.1).length := by
  have := (h.vle x (by simp)).2 hk
  unfold idX
  rw [List.length_drop]
  omega
theorem idX_le {w : World} {g n c : Nat} {cs : List (Cp × Nat)} {x : Cp × Nat} (h : MS w g n c (cs ++ [x])) : (idX x.1).length ≤ 1000 := by
  have := h.tot
  rw [compBytes_snoc, List.length_append] at this
  unfold idX
  rw [List.length_drop]
  omega
structure Tr where
  g : Nat
  c : Nat
  cs : List (Cp × Nat)
def Tr.v (t : Tr) : Value := .slice (some ⟨t.g, 0, none⟩) t.cs.length t.c
def trCells (ts : List Tr) : List Value := ts.map Tr.v
theorem trCells_length (ts : List Tr) : (trCells ts).length = ts.length := by simp [trCells]
theorem trCells_snoc (ts : List Tr) (t : Tr) : trCells (ts ++ [t]) = trCells ts ++ [t.v] := by simp [trCells]
structure TrOk (w : World) (t : Tr) : Prop where
  ms : MS w t.g t.cs.length t.c t.cs
  pr : PRX w t.cs
  pos : 0 < t.cs.length
theorem TrOk.below {w w' : World} {t : Tr} (h : TrOk w t) (hb : Below w.heap.size w w') : TrOk w' t := ⟨h.ms.below hb, h.pr.below hb, h.pos⟩
theorem TrOk.first {w : World} {t : Tr} (h : TrOk w t) : ∃ s, w.cell? ⟨t.g, 0, none⟩ = some (.string s) := by
  obtain ⟨g, c, cs⟩ := t
  rcases cs with _ | ⟨x, cs⟩
  · exact absurd h.pos (by simp)
  · exact ⟨_, h.ms.cell 0 (.string ⟨x.1.l.toArray⟩) rfl⟩
theorem TrOk.kept {w w' : World} {t : Tr} {row : Option Nat} (h : TrOk w t) (hg : w.grownBy w' row) (h1 : some t.g ≠ row) (h2 : ∀ x ∈ t.cs, some x.2 ≠ row) : TrOk w' t := by
  refine ⟨⟨h.ms.len, fun j u hu => hg.cell (h.ms.cell j u hu) h1, Nat.lt_of_lt_of_le h.ms.lt hg.size, h.ms.cap, h.ms.max, h.ms.tot, h.ms.vle⟩, fun x hx => ?_, h.pos⟩
  obtain ⟨g, XX, hXX, hb⟩ := h.pr x hx
  exact ⟨g, XX, hXX, hb.grown hg (h2 x hx)⟩
theorem TrOk.off_row {w : World} {t : Tr} (h : TrOk w t) {base : Nat} {v : Value} {ts : List Tr} (ho : w.ownsRow base 44 1 v ts.length (trCells ts)) (hn : ts = [] → v.ownBlock = none) : some t.g ≠ v.ownBlock ∧ ∀ x ∈ t.cs, some x.2 ≠ v.ownBlock := by
  refine ⟨fun e => ?_, fun x hx e => ?_⟩
  · rcases ts with _ | ⟨t0, ts⟩
    · rw [hn rfl] at e; cases e
    · obtain ⟨s, hs⟩ := h.first
      have := ho.cells e.symm 0 t0.v rfl
      rw [show (⟨t.g, 0, none⟩ : Addr).add 0 = ⟨t.g, 0, none⟩ from rfl, hs] at this
      injection this with this
      cases this
  · obtain ⟨g, XX, hXX, hb⟩ := h.pr x hx
    exact own_blk_ne ho hb (by decide) e.symm
theorem TrOk.off_map {w : World} {t : Tr} (h : TrOk w t) {b : Nat} {es : Array MapEntry} {clock : Nat} (hb : w.heap[b]? = some (.map es clock)) : some t.g ≠ some b ∧ ∀ x ∈ t.cs, some x.2 ≠ some b := by
  refine ⟨fun e => ?_, fun x hx e => ?_⟩
  · obtain ⟨s, hs⟩ := h.first
    injection e with e
    subst e
    simp [World.cell?, hb] at hs
  · obtain ⟨g, XX, hXX, hk⟩ := h.pr x hx
    injection e with e
    subst e
    unfold Blk at hk
    rw [hb] at hk
    cases hk
theorem mad_info : (Tryz.prog.info? 44).map (fun i => (i.zero, i.size, i.bytes)) = some (some (.slice none 0 0), 1, 24) := by kernel_rfl
theorem TrOk.grown_row {w w' : World} {t : Tr} (h : TrOk w t) {base : Nat} {v : Value} {ts : List Tr} (ho : w.ownsRow base 44 1 v ts.length (trCells ts)) (hn : ts = [] → v.ownBlock = none) (hg : w.grownBy w' v.ownBlock) : TrOk w' t :=
  h.kept hg (h.off_row ho hn).1 (h.off_row ho hn).2
theorem own_set {w : World} {base : Nat} {e : TypeId} {size n : Nat} {v : Value} {xs : List Value} (h : w.ownsRow base e size v n xs) {g : Nat} {t : TypeId} {cs : Array Value} (hb : Blk w g t cs) (hne : e ≠ t) (i : Nat) (u : Value) : (w.setCell ⟨g, i, none⟩ u).ownsRow base e size v n xs :=
  h.kept (only_setCell (World.grownBy.refl w _) (.inl rfl) u) (.inr (own_blk_ne h hb hne))
def rawR : Value → Option (DataW Value × List MemPlace)
  | .slice A n c => some (.held (.slice A n c), [])
  | _ => none
theorem rawR_slice (A : Option Addr) (n c : Nat) : rawR (.slice A n c) = some (.held (.slice A n c), []) := rfl
theorem rawR_inv {v : Value} {y : DataW Value × List MemPlace} (h : rawR v = some y) : (∃ A n c, v = .slice A n c) ∧ y = (.held v, []) := by
  unfold rawR at h
  split at h
  · cases h; exact ⟨⟨_, _, _, rfl⟩, rfl⟩
  · cases h
theorem key_law : Maps.Keyed Tryz.prog 47 := Maps.string_keyed Tryz.underlying47
theorem key_of (L : List UInt8) (h : L.length ≤ maxLen) : keyOf Tryz.prog 47 (.string ⟨L.toArray⟩) = some (.string L) := by
  rw [WideMaps.keyOf_string_mk Tryz.underlying47 (s := ⟨L.toArray⟩) (by rw [size_toArray]; exact h)]
theorem key_lit (L : List UInt8) (h : L.length ≤ maxLen) : WideAt.IsKeyLit (.string L) := key_law.key (key_of L h)
theorem group_zero (w : World) : (zeroValue 59).run Tryz.prog w = .ok (.slice none 0 0) w := by kernel_rfl
def upd {α : Type} (f : List UInt8 → α) (L : List UInt8) (x : α) : List UInt8 → α := fun k => if k = L then x else f k
theorem upd_same {α : Type} (f : List UInt8 → α) (L : List UInt8) (x : α) : upd f L x L = x := by simp [upd]
theorem upd_other {α : Type} (f : List UInt8 → α) {L k : List UInt8} (x : α) (h : k ≠ L) : upd f L x k = f k := by simp [upd, h]
structure GM (w : World) (base b n : Nat) (f : List UInt8 → Option (List Tr)) (D : DataW Value) (val : List UInt8 → Value) : Prop where
  own : w.ownsMap Tryz.prog 47 rawR b n D
  has : ∀ k, Maps.has D (.string k) = (f k).isSome
  at_ : ∀ k, D.atKey (.string k) (.held (.slice none 0 0)) = .held (val k)
  row : ∀ k, w.ownsRow base 44 1 (val k) ((f k).getD []).length (trCells ((f k).getD []))
  nil_ : ∀ k, (f k).getD [] = [] → val k = .slice none 0 0
  apart : ∀ k k', k ≠ k' → (val k).ownBlock = none ∨ (val k).ownBlock ≠ (val k').ownBlock
  low : b < base
  oks : ∀ k, ∀ t ∈ (f k).getD [], TrOk w t
section
variable {w w' : World} {base b n : Nat} {f : List UInt8 → Option (List Tr)} {D : DataW Value} {val : List UInt8 → Value}
theorem GM.made (w : World) : GM (w.alloc (.map #[] 0)) (w.heap.size + 1) w.heap.size 0 (fun _ => none) (.map []) (fun _ => .slice none 0 0) :=
  ⟨World.ownsMap_made _ _ _ _, fun _ => rfl, fun _ => rfl, fun _ => World.ownsRow_nil _ _ _ _, fun _ _ => rfl, fun _ _ _ => .inl rfl, Nat.lt_succ_self _, fun _ t ht => by simp at ht⟩
theorem GM.kept (h : GM w base b n f D val) {row : Option Nat} (hg : w.grownBy w' row) (hb : some b ≠ row) (hr : ∀ k, (val k).ownBlock = none ∨ (val k).ownBlock ≠ row) (ht : ∀ k, ∀ t ∈ (f k).getD [], TrOk w' t) : GM w' base b n f D val :=
  ⟨h.own.kept hg hb, h.has, h.at_, fun k => (h.row k).kept hg (hr k), h.nil_, h.apart, h.low, ht⟩
theorem GM.below (h : GM w base b n f D val) (hb : Below w.heap.size w w') : GM w' base b n f D val :=
  h.kept (only_of_below hb none) (by simp) (fun k => by cases (val k).ownBlock <;> simp) (fun k t ht => (h.oks k t ht).below hb)
theorem GM.drew (h : GM w base b n f D val) : GM w.drew base b n f D val := h.below ((Below.refl _ w).drew)
theorem GM.more (h : GM w base b n f D val) {n' : Nat} (hn : n ≤ n') : GM w base b n' f D val := ⟨h.own.mono hn, h.has, h.at_, h.row, h.nil_, h.apart, h.low, h.oks⟩
theorem GM.slice (h : GM w base b n f D val) (k : List UInt8) : ∃ A c, val k = .slice A ((f k).getD []).length c := own_slice (h.row k)
theorem GM.lt (h : GM w base b n f D val) : b < w.heap.size := h.own.lt
theorem GM.look (h : GM w base b n f D val) (L : List UInt8) (hL : L.length ≤ maxLen) : (Instr.lookup 85 (.map (some b)) (.string ⟨L.toArray⟩) false).run Tryz.prog w = .ok (val L) w := by
  obtain ⟨v, ps, hrun, hv⟩ := h.own.lookup key_law Tryz.underlying85 (group_zero w) (rawR_slice none 0 0) (key_of L hL)
  have := (rawR_inv hv).2
  simp only [Prod.mk.injEq] at this
  rw [h.at_ L] at this
  have h1 := this.1
  injection h1 with h1
  rw [h1]
  exact hrun
theorem GM.look_ok (h : GM w base b n f D val) (L : List UInt8) (hL : L.length ≤ maxLen) : (Instr.lookup 85 (.map (some b)) (.string ⟨L.toArray⟩) true).run Tryz.prog w = .ok (.tuple #[val L, .bool (f L).isSome]) w := by
  obtain ⟨v, ps, hrun, hv⟩ := h.own.look_ok key_law Tryz.underlying85 (group_zero w) (rawR_slice none 0 0) (key_of L hL)
  have := (rawR_inv hv).2
  simp only [Prod.mk.injEq] at this
  rw [h.at_ L] at this
  have h1 := this.1
  injection h1 with h1
  rw [h1, ← h.has L]
  exact hrun
theorem upd_isSome (f : List UInt8 → Option (List Tr)) (L : List UInt8) (x : List Tr) (D : DataW Value) (v : Value) (hD : Maps.IsMap D) (hL : L.length ≤ maxLen) (h : ∀ k, Maps.has D (.string k) = (f k).isSome) : ∀ k, Maps.has (D.put (.string L) (.held v)) (.string k) = (upd f L (some x) k).isSome := by
  intro k
  by_cases e : k = L
  · subst e
    rw [Maps.has_put_same hD (key_lit k hL), upd_same]
    rfl
  · rw [Maps.has_put_other (fun h1 => e (by injection h1)), upd_other _ _ e]
    exact h k
theorem upd_at (val : List UInt8 → Value) (L : List UInt8) (D : DataW Value) (v : Value) (hD : Maps.IsMap D) (hL : L.length ≤ maxLen) (h : ∀ k, D.atKey (.string k) (.held (.slice none 0 0)) = .held (val k)) : ∀ k, (D.put (.string L) (.held v)).atKey (.string k) (.held (.slice none 0 0)) = .held (upd val L v k) := by
  intro k
  by_cases e : k = L
  · subst e
    rw [Maps.atKey_put_same hD (key_lit k hL), upd_same]
  · rw [Maps.atKey_put_other (fun h1 => e (by injection h1)), upd_other _ _ e]
    exact h k
theorem GM.put (h : GM w base b n f D val) (L : List UInt8) (hL : L.length ≤ maxLen) (t : Tr) {w1 w2 : World} {v' : Value} (hg : w.grownBy w1 (val L).ownBlock)
    (ho : w1.ownsRow base 44 1 v' (((f L).getD []).length + 1) (trCells ((f L).getD []) ++ [t.v])) (hloc : v'.ownBlock = (val L).ownBlock ∨ ∃ g, v'.ownBlock = some g ∧ w.heap.size ≤ g) (ht : TrOk w1 t)
    (hm : w2.ownsMap Tryz.prog 47 rawR b (n + 1) (D.put (.string L) (.held v'))) (hg2 : w1.grownBy w2 (some b)) :
    GM w2 base b (n + 1) (upd f L (some ((f L).getD [] ++ [t]))) (D.put (.string L) (.held v')) (upd val L v') := by
  have hrow : ∀ k, k ≠ L → (val k).ownBlock = none ∨ (val k).ownBlock ≠ (val L).ownBlock := fun k hk => h.apart k L hk
  have hb1 : ∃ es clock, w1.heap[b]? = some (.map es clock) := by
    obtain ⟨es, clock, hb, _⟩ := h.own
    refine ⟨es, clock, (hg.block b h.lt (fun e => ?_)).trans hb⟩
    have := ((h.row L).lt b e.symm).1
    have := h.low
    omega
  obtain ⟨es, clock, hb1⟩ := hb1
  have hnb : ∀ k, (val k).ownBlock ≠ some b := fun k e => by
    have := ((h.row k).lt b e).1
    have := h.low
    omega
  have hnb' : v'.ownBlock ≠ some b := fun e => by
    have := (ho.lt b e).1
    have := h.low
    omega
  have hnew : ∀ k, k ≠ L → (val k).ownBlock = none ∨ (val k).ownBlock ≠ v'.ownBlock := fun k hk => by
    rcases hloc with e | ⟨g, e, hge⟩
    · rw [e]; exact hrow k hk
    · rcases hv : (val k).ownBlock with _ | g'
      · exact .inl rfl
      · refine .inr (fun e2 => ?_)
        rw [e] at e2
        injection e2 with e2
        have := ((h.row k).lt g' hv).2
        omega
  have hold : ∀ t' : Tr, TrOk w t' → TrOk w2 t' := fun t' ht' => by
    have hoff := ht'.off_row (h.row L) (fun e => by rw [h.nil_ L e]; rfl)
    have h1 := ht'.kept hg hoff.1 hoff.2
    have hoff2 := h1.off_map hb1
    exact h1.kept hg2 hoff2.1 hoff2.2
  have htn : TrOk w2 t := ht.kept hg2 (ht.off_map hb1).1 (ht.off_map hb1).2
  refine ⟨hm, upd_isSome f L _ D v' h.own.isMap hL h.has, upd_at val L D v' h.own.isMap hL h.at_, fun k => ?_, fun k => ?_, fun k k' hkk => ?_, h.low, fun k t' ht' => ?_⟩
  · by_cases e : k = L
    · subst e
      rw [upd_same, upd_same, Option.getD_some, trCells_snoc, List.length_append, List.length_singleton]
      exact ho.kept hg2 (by rcases h1 : v'.ownBlock with _ | _; exact .inl rfl; exact .inr (h1 ▸ hnb'))
    · rw [upd_other _ _ e, upd_other _ _ e]
      exact ((h.row k).kept hg (hrow k e)).kept hg2 (.inr (hnb k))
  · by_cases e : k = L
    · subst e
      rw [upd_same, Option.getD_some]
      intro h0
      simp at h0
    · rw [upd_other _ _ e, upd_other _ _ e]
      exact h.nil_ k
  · by_cases e : k = L
    · subst e
      rw [upd_same, upd_other _ _ (Ne.symm hkk)]
      rcases hv : v'.ownBlock with _ | g
      · exact .inl rfl
      · rcases hnew k' (Ne.symm hkk) with h1 | h1
        · exact .inr (by rw [h1]; simp)
        · exact .inr (fun e2 => h1 (by rw [hv, e2]))
    · rw [upd_other _ _ e]
      by_cases e' : k' = L
      · subst e'
        rw [upd_same]
        exact hnew k e
      · rw [upd_other _ _ e']
        exact h.apart k k' hkk
  · by_cases e : k = L
    · subst e
      rw [upd_same, Option.getD_some, List.mem_append, List.mem_singleton] at ht'
      rcases ht' with h1 | rfl
      · exact hold t' (h.oks k t' h1)
      · exact htn
    · rw [upd_other _ _ e] at ht'
      exact hold t' (h.oks k t' ht')
theorem GM.putNil (h : GM w base b n f D val) (L : List UInt8) (hL : L.length ≤ maxLen) (hf : f L = none) {w2 : World}
    (hm : w2.ownsMap Tryz.prog 47 rawR b (n + 1) (D.put (.string L) (.held (.slice none 0 0)))) (hg2 : w.grownBy w2 (some b)) :
    GM w2 base b (n + 1) (upd f L (some ((f L).getD []))) (D.put (.string L) (.held (.slice none 0 0))) (upd val L (.slice none 0 0)) := by
  have hv : val L = .slice none 0 0 := h.nil_ L (by rw [hf]; rfl)
  have hval : upd val L (.slice none 0 0) = val := by
    funext k
    by_cases e : k = L
    · subst e; rw [upd_same, hv]
    · rw [upd_other _ _ e]
  have hget : ∀ k, (upd f L (some ((f L).getD [])) k).getD [] = (f k).getD [] := fun k => by
    by_cases e : k = L
    · subst e; rw [upd_same]; rfl
    · rw [upd_other _ _ e]
  have hb1 : ∃ es clock, w.heap[b]? = some (.map es clock) := by
    obtain ⟨es, clock, hb, _⟩ := h.own
    exact ⟨es, clock, hb⟩
  obtain ⟨es, clock, hb1⟩ := hb1
  have hnb : ∀ k, (val k).ownBlock ≠ some b := fun k e => by
    have := ((h.row k).lt b e).1
    have := h.low
    omega
  refine ⟨hm, upd_isSome f L _ D _ h.own.isMap hL h.has, upd_at val L D _ h.own.isMap hL h.at_, fun k => ?_, fun k => ?_, fun k k' hkk => ?_, h.low, fun k t' ht' => ?_⟩
  · rw [hval, hget]
    exact (h.row k).kept hg2 (.inr (hnb k))
  · rw [hval, hget]
    exact h.nil_ k
  · rw [hval]
    exact h.apart k k' hkk
  · rw [hget] at ht'
    have h1 := h.oks k t' ht'
    exact h1.kept hg2 (h1.off_map hb1).1 (h1.off_map hb1).2
end
def grp (l : List (List UInt8 × Option Tr)) : List UInt8 → Option (List Tr) := fun k => if l.any (fun p => p.1 == k) then some (l.filterMap fun p => if p.1 = k then p.2 else none) else none
theorem grp_snoc (l : List (List UInt8 × Option Tr)) (L : List UInt8) (o : Option Tr) : grp (l ++ [(L, o)]) = upd (grp l) L (some ((grp l L).getD [] ++ o.toList)) := by
  funext k
  by_cases e : k = L
  · subst e
    rw [upd_same]
    unfold grp
    by_cases h : l.any (fun p => p.1 == k) = true
    · rw [if_pos h, if_pos (by simp [h]), Option.getD_some, List.filterMap_append]
      congr 2
      cases o <;> simp
    · rw [if_neg h, if_pos (by simp), Option.getD_none, List.filterMap_append]
      have : l.filterMap (fun p => if p.1 = k then p.2 else none) = [] := by
        rw [List.filterMap_eq_nil_iff]
        intro p hp
        rw [if_neg (fun e => h (List.any_eq_true.2 ⟨p, hp, by simp [e]⟩))]
      rw [this]
      congr 1
      cases o <;> simp
  · rw [upd_other _ _ e]
    unfold grp
    have h1 : (l ++ [(L, o)]).any (fun p => p.1 == k) = l.any (fun p => p.1 == k) := by simp [Ne.symm e]
    rw [h1, List.filterMap_append]
    have h2 : [(L, o)].filterMap (fun p : List UInt8 × Option Tr => if p.1 = k then p.2 else none) = [] := by simp [Ne.symm e]
    rw [h2, List.append_nil]
theorem upd_id {α : Type} (f : List UInt8 → α) (L : List UInt8) : upd f L (f L) = f := by
  funext k
  by_cases e : k = L
  · subst e; rw [upd_same]
  · rw [upd_other _ _ e]
theorem grp_len (l : List (List UInt8 × Option Tr)) (k : List UInt8) : ((grp l k).getD []).length ≤ l.length := by
  unfold grp
  split
  · exact List.length_filterMap_le _ _
  · simp
def OutErr (w : World) (e : Ending) (w' : World) : Prop := ∃ t v, e = .returned (.tuple #[.slice none 0 0, .iface t v]) ∧ Below w.heap.size w w'
theorem infos_bad (A : Option Addr) (n c base : Nat) (ts : List Tr) (w : World) (ho : w.ownsRow base 44 1 (.slice A n c) n (trCells ts)) (hts : ∀ t ∈ ts, TrOk w t) (hl : ∀ t ∈ ts, t.cs.length ≤ 1000) (hu : Inv w) (hn : n ≤ 1000)
    (hbad : ∃ i, ∃ hi : i < ts.length, ∃ cs x, (ts[i]).cs = cs ++ [x] ∧ x.1.k ≠ 421) : Calls Tryz.prog 19 #[.slice A n c] w (OutErr w) := by
  obtain ⟨i0, hi0, hz0, hz1, hz2⟩ := info_parts mad_info
  have q : ∀ (w : World) (a : Option Addr) (n c n' c' : Nat), (binOp .eql 44 (.slice a n c) (.slice none n' c')).run Tryz.prog w = .ok (.bool a.isNone) w := fun w a n c n' c' => Lib.run_eql_slice_nil w _ _ a n c n' c' Tryz.underlying44
  have hln : ts.length = n := by have := (Reads.of_own ho).1; rw [trCells_length] at this; omega
  have hmm := @run_makeMap Tryz.prog
  have HO := Lib.hid ho
  have HTS := Lib.hid hts
  have HL := Lib.hid hl
  have HU := Lib.hid hu
  have HLN := Lib.hid hln
  have HBAD := Lib.hid hbad
  have hb0 := (Below.refl _ w).alloc (Nat.le_refl _) (.map #[] 0)
  have HGM := Lib.hid (GM.made w)
  have HB0 := Lib.hid hb0
  clear ho hts hl hu hln hbad hb0
  go_enter Tryz.func19, Tryz.ntmps19
  go_wp2_with fail
  go_loopw [17] (fun i wr => ∃ k : Nat, k ≤ n ∧ i = .int .i64 k ∧ Below w.heap.size w wr ∧ (∀ i (hi : i < ts.length), i < k → ∃ cs x, (ts[i]).cs = cs ++ [x] ∧ x.1.k = 421) ∧
    ∃ gl D val, gl.length = k ∧ GM wr (w.heap.size + 1) w.heap.size k (grp gl) D val) (fun i _ => n - (intOf i).toNat)
  case atStart => exact ⟨0, by omega, rfl, HB0.out, fun _ _ h => absurd h (by omega), [], _, _, rfl, HGM.out⟩
  case round =>
    obtain ⟨k, hk, rfl, hb, hall, gl, D, val, hgl, hgm⟩ := hrel
    have HGL := Lib.hid hgl
    have HB := Lib.hid hb
    have HALL := Lib.hid hall
    have HM := Lib.hid hgm
    clear hb hall hgm hgl
    by_cases hlt : k < n
    · have hlt' : k < ts.length := by rw [HLN.out]; exact hlt
      obtain ⟨ad, eA, _, hcell⟩ := (Reads.of_own HO.out).2 (by omega)
      obtain rfl := eA
      have hck := hcell k (ts[k]).v (by simp [trCells, hlt'])
      have hto := (HTS.out _ (List.getElem_mem hlt')).below HB.out
      have hcl := HL.out _ (List.getElem_mem hlt')
      obtain ⟨cs, x, hcs⟩ : ∃ cs x, (ts[k]).cs = cs ++ [x] := by
        have hne : (ts[k]).cs ≠ [] := fun e => by have hpos := hto.pos; rw [e] at hpos; simp at hpos
        exact ⟨_, _, (List.dropLast_concat_getLast hne).symm⟩
      have hnx : x.1.k = 421 → ∀ i (hi : i < ts.length), i < k + 1 → ∃ cs x, (ts[i]).cs = cs ++ [x] ∧ x.1.k = 421 := fun h6 i hi hik => by
        rcases Nat.lt_or_ge i k with h1 | h1
        · exact HALL.out i hi h1
        · obtain rfl : i = k := by omega
          exact ⟨cs, x, hcs, h6⟩
      have HNX := Lib.hid hnx
      clear hnx
      generalize ts[k] = t at *
      obtain ⟨g, cg, tcs⟩ := t
      obtain rfl : tcs = cs ++ [x] := hcs
      have hcl' : cs.length ≤ 1000 := by have : (cs ++ [x]).length ≤ 1000 := hcl; simp at this; omega
      have c5 : wr.cell? (ad.add k) = some (.slice (some ⟨g, 0, none⟩) (cs.length + 1) cg) := ((HB.out.cell (World.block_lt_of_cell? _ _ hck)).trans hck).trans (by simp [Tr.v])
      have hms : MS wr g (cs.length + 1) cg (cs ++ [x]) := by have := hto.ms; simpa using this
      have hpr : PRX wr (cs ++ [x]) := hto.pr
      clear hck hcell hto hcl
      by_cases h6 : x.1.k = 421
      · have HS := Lib.hid (splitaddr_id g cg cs x wr (by omega) h6 hpr hms)
        have HPR := Lib.hid (show PRX wr cs from fun y hy => hpr y (by simp [hy]))
        have hI2 := idX_one hms h6
        have hIl := idX_le hms
        have HN6 := Lib.hid (HNX.out h6)
        obtain ⟨I, hI⟩ : ∃ I, I = idX x.1 := ⟨_, rfl⟩
        rw [← hI] at hI2 hIl
        have hIm : I.length ≤ maxLen := by unfold maxLen; omega
        have hemp : I.isEmpty = false := by rcases I with _ | ⟨_, _⟩; · simp at hI2
                                            · rfl
        have HIq := Lib.hid hI
        clear hms hpr hI HNX
        go_wp2_with fail
        refine HS.out.mono ?_
        rintro e w1 ⟨T, rfl, hT, hb1⟩
        rw [← HIq.out]
        have HB1 := Lib.hid (HB.out.trans (hb1.mono HB.out.size))
        have HM1 := Lib.hid (HM.out.below hb1)
        have HP1 := Lib.hid (HPR.out.below hb1)
        clear hb1 HS
        have hgs := fun o => grp_snoc gl I o
        have HGS := Lib.hid hgs
        clear hgs
        rcases hT with ⟨h0, rfl⟩ | ⟨h0, b, rfl, hmb⟩
        · clear h0
          have hlk := HM1.out.look_ok I hIm
          rcases hg : grp gl I with _ | y
          · rw [hg] at hlk
            have HG := Lib.hid hg
            clear hg
            go_wp2_with (at_mapUpdate; go_loud (refine wpList_mapUpdate_own _ rfl _ _ _ 85 rfl 47 59 key_law Tryz.underlying85 rawR _ k D rfl HM1.out.own (by unfold maxLen; omega) _ _ (.string I) rfl rfl (key_of I hIm) _ [] (rawR_slice none 0 0) ?_))
            intro w2 hown2 hgrow2
            have hm2 := HM1.out.putNil I hIm HG.out hown2 hgrow2
            have hge : grp (gl ++ [(I, none)]) = upd (grp gl) I (some ((grp gl I).getD [])) := by
              rw [HGS.out none]
              simp
            rw [← hge] at hm2
            have HM3 := Lib.hid hm2
            have HB3 := Lib.hid (HB1.out.grown hgrow2 HB1.out.size (fun g hg => by injection hg with hg; omega))
            clear hown2 hgrow2 hm2 hge
            go_wp2_with fail
            go_roundw
            case rel => exact ⟨k + 1, by omega, by go_num, HB3.out, HN6.out, gl ++ [(I, none)], _, _, by rw [List.length_append, HGL.out]; rfl, HM3.out⟩
            case measure => simp [intOf]; omega
          · rw [hg] at hlk
            have HG := Lib.hid hg
            clear hg
            have HM3 := Lib.hid (show GM w1 (w.heap.size + 1) w.heap.size (k + 1) (grp (gl ++ [(I, none)])) D val by
              have e : grp (gl ++ [(I, none)]) = grp gl := by
                rw [HGS.out none]
                have h1 := upd_id (grp gl) I
                rw [HG.out] at h1
                rw [HG.out]
                simpa using h1
              rw [e]
              exact HM1.out.more (by omega))
            go_wp2_with fail
            go_roundw
            case rel => exact ⟨k + 1, by omega, by go_num, HB1.out, HN6.out, gl ++ [(I, none)], _, _, by rw [List.length_append, HGL.out]; rfl, HM3.out⟩
            case measure => simp [intOf]; omega
        · have hlk := HM1.out.look I hIm
          obtain ⟨Av, cv, hval⟩ := HM1.out.slice I
          rw [hval] at hlk
          have hba := (Below.refl _ w1).alloc (Nat.le_refl _) (.cells #[.slice (some ⟨b, 0, none⟩) cs.length cs.length] 44)
          have HM2 := Lib.hid (HM1.out.below hba)
          have HROW := Lib.hid (HM2.out.row I)
          rw [hval] at HROW
          have HRN := Lib.hid (reads_new w1 #[.slice (some ⟨b, 0, none⟩) cs.length cs.length] 44 1 1 rfl)
          have HB2 := Lib.hid (HB1.out.trans (hba.mono HB1.out.size))
          have HT2 := Lib.hid ((⟨hmb, HP1.out, h0⟩ : TrOk w1 ⟨b, cs.length, cs⟩).below hba)
          have HVAL := Lib.hid hval
          clear hval hba hmb h0
          go_wp2_with (at_builtin; go_loud (refine wpList_append_any _ rfl _ _ _ rfl (w.heap.size + 1) 44 i0 _ 1 24 Tryz.underlying59 hi0 hz0 hz1 hz2 rfl (by decide) _ _ _ rfl HROW.out _ _ 1 1 _ rfl HRN.out ?c0 ?c1 ?c2 ?c3 ?_))
          case c0 => intro u hu; simp at hu; subst hu; rfl
          case c1 => have := grp_len gl I; have := HGL.out; unfold maxLen; omega
          case c2 => have := grp_len gl I; have := HGL.out; omega
          case c3 => have := HB2.out.size; have := HM2.out.lt; omega
          intro v3 w3 hown3 hgrow3 hat3
          obtain ⟨A3, c3, rfl⟩ := own_slice hown3
          have hnb : some w.heap.size ≠ (Value.slice Av ((grp gl I).getD []).length cv).ownBlock := fun e => by
            have := (HROW.out.lt _ e.symm).1
            omega
          have HOM := Lib.hid (HM2.out.own.kept hgrow3 hnb)
          have HOW3 := Lib.hid hown3
          have HGR3 := Lib.hid hgrow3
          have HAT3 := Lib.hid hat3
          have hoff := HT2.out.off_row (HVAL.out ▸ HM2.out.row I) (fun e => by have := HM2.out.nil_ I e; rw [HVAL.out] at this; rw [this]; rfl)
          have HT3 := Lib.hid (HT2.out.kept hgrow3 hoff.1 hoff.2)
          clear hown3 hgrow3 hat3 hoff hnb
          go_wp2_with (at_mapUpdate; go_loud (refine wpList_mapUpdate_own _ rfl _ _ _ 85 rfl 47 59 key_law Tryz.underlying85 rawR _ k D rfl HOM.out (by unfold maxLen; omega) _ _ (.string I) rfl rfl (key_of I hIm) _ [] (rawR_slice _ _ _) ?_))
          intro w4 hown4 hgrow4
          have hm4 := HM2.out.put I hIm ⟨b, cs.length, cs⟩ (by rw [HVAL.out]; exact HGR3.out) HOW3.out (by rw [HVAL.out]; exact HAT3.out.imp id (fun h => ⟨_, h, by rw [World.size_alloc]; exact Nat.le_refl _⟩)) HT3.out hown4 hgrow4
          have hge : grp (gl ++ [(I, some ⟨b, cs.length, cs⟩)]) = upd (grp gl) I (some ((grp gl I).getD [] ++ [⟨b, cs.length, cs⟩])) := by
            rw [HGS.out (some ⟨b, cs.length, cs⟩)]
            rfl
          rw [← hge] at hm4
          have HM4 := Lib.hid hm4
          have HB4 := Lib.hid ((HB2.out.grown HGR3.out HB2.out.size (fun g hg => by have := (HROW.out.lt g hg).1; omega)).grown hgrow4 (Nat.le_trans HB2.out.size HGR3.out.size) (fun g hg => by injection hg with hg; omega))
          clear hown4 hgrow4 hm4 hge
          go_wp2_with fail
          go_roundw
          case rel => exact ⟨k + 1, by omega, by go_num, HB4.out, HN6.out, gl ++ [(I, some ⟨b, cs.length, cs⟩)], _, _, by rw [List.length_append, HGL.out]; rfl, HM4.out⟩
          case measure => simp [intOf]; omega
      · have HS := Lib.hid (splitaddr_other g cg cs x wr (by omega) h6 hpr hms)
        obtain ⟨ti, vi, hc⟩ := (HU.out.below HB.out).held
        have HC := Lib.hid hc
        clear hms hpr HNX hc
        go_wp2_with fail
        refine HS.out.mono ?_
        rintro e w1 ⟨rfl, hb1⟩
        have HB1 := Lib.hid (HB.out.trans (hb1.mono HB.out.size))
        have hc1 : w1.cell? ⟨0, 0, none⟩ = some (.iface ti vi) := (hb1.cell (World.block_lt_of_cell? _ _ HC.out)).trans HC.out
        clear hb1 HS
        go_wp2_with fail
        go_quiet (fail)
        go_wp2_with fail
        go_ret2
        exact ⟨ti, vi, rfl, below_drewN HB1.out _⟩
    · obtain rfl : k = n := by omega
      obtain ⟨i, hi, cs, x, hcs, h6⟩ := HBAD.out
      obtain ⟨cs', x', hcs', h6'⟩ := HALL.out i hi (by rw [← HLN.out]; exact hi)
      rw [hcs] at hcs'
      have := (List.append_inj' hcs' rfl).2
      injection this with hx
      exact absurd (by rw [hx]; exact h6') h6
theorem pinf_info : (Tryz.prog.info? 61).map (fun i => (i.zero, i.size, i.bytes)) = some (some (.agg #[.string ⟨#[]⟩, .slice none 0 0]), 2, 40) := by kernel_rfl
def told (t : Tr) : List UInt8 × Option (List Cp) := (((t.cs.getLast?).map fun x => idX x.1).getD [], if t.cs.dropLast = [] then none else some (t.cs.dropLast.map (·.1)))
theorem told_snoc (g c : Nat) (cs : List (Cp × Nat)) (x : Cp × Nat) : told ⟨g, c, cs ++ [x]⟩ = (idX x.1, if cs = [] then none else some (cs.map (·.1))) := by simp [told]
def said (p : List UInt8 × Option Tr) : List UInt8 × Option (List Cp) := (p.1, p.2.map fun t => t.cs.map (·.1))
theorem key_inv {key : Value} {kl : Lit} (h : keyOf Tryz.prog 47 key = some kl) : ∃ L : List UInt8, key = .string ⟨L.toArray⟩ ∧ kl = .string L ∧ L.length ≤ maxLen := by
  have hu := Tryz.underlying47
  have hs : ∃ s, key = .string s := by
    cases key <;> first | exact ⟨_, rfl⟩ | (simp [keyOf, hu, mapKey] at h)
  obtain ⟨s, rfl⟩ := hs
  by_cases hm : s.size ≤ maxLen
  · rw [WideMaps.keyOf_string_mk hu hm] at h
    injection h with h
    refine ⟨s.data.toList, ?_, h.symm, ?_⟩
    · simp
    · rw [Array.length_toList]; exact hm
  · exfalso
    simp [keyOf, hu, mapKey] at h
    first | exact hm h.1 | exact hm (by omega)
theorem own_iter_ne {w : World} {base : Nat} {e : TypeId} {size m : Nat} {v : Value} {xs : List Value} (ho : w.ownsRow base e size v m xs) {P : Program} {k : TypeId} {R : Value → Option (DataW Value × List MemPlace)} {b r n : Nat} {D : DataW Value} {left : Lit → Bool} {cnt : Nat} (h : w.ranges P k R b r n D left cnt) : some b ≠ v.ownBlock ∧ some r ≠ v.ownBlock := by
  obtain ⟨es, clock, since, seen, c0, hb, _, _, _, hr, _⟩ := h
  rcases ho.2 with ⟨rfl, _⟩ | ⟨g, cap, cur, rfl, _, hg, _⟩
  · exact ⟨by simp [Value.ownBlock], by simp [Value.ownBlock]⟩
  · refine ⟨fun e => ?_, fun e => ?_⟩
    · injection e with e; subst e; rw [hb] at hg; cases hg
    · injection e with e; subst e; rw [hr] at hg; cases hg
def peerRow (val : List UInt8 → Value) (ks : List (List UInt8)) : List Value := ks.flatMap fun k => [.string ⟨k.toArray⟩, val k]
theorem peerRow_snoc (val : List UInt8 → Value) (ks : List (List UInt8)) (k : List UInt8) : peerRow val (ks ++ [k]) = peerRow val ks ++ [.string ⟨k.toArray⟩, val k] := by simp [peerRow]
theorem same_str (a b : List UInt8) : (Lit.string a).sameKey (.string b) = (a == b) := by
  simp [Lit.sameKey]
theorem infos_good (A : Option Addr) (n c base : Nat) (ts : List Tr) (w : World) (ho : w.ownsRow base 44 1 (.slice A n c) n (trCells ts)) (hts : ∀ t ∈ ts, TrOk w t) (hl : ∀ t ∈ ts, t.cs.length ≤ 1000) (hn : n ≤ 1000)
    (hgood : ∀ i (hi : i < ts.length), ∃ cs x, (ts[i]).cs = cs ++ [x] ∧ x.1.k = 421) : Calls Tryz.prog 19 #[.slice A n c] w fun e w' =>
    ∃ v ks gl D val, e = .returned (.tuple #[v, .nilIface]) ∧ w'.ownsRow w.heap.size 61 2 v ks.length (peerRow val ks) ∧ ks.Nodup ∧ (∀ k, k ∈ ks ↔ (grp gl k).isSome = true) ∧ gl.map said = ts.map told ∧
      GM w' (w.heap.size + 1) w.heap.size n (grp gl) D val ∧ Below w.heap.size w w' := by
  obtain ⟨i0, hi0, hz0, hz1, hz2⟩ := info_parts mad_info
  have q : ∀ (w : World) (a : Option Addr) (n c n' c' : Nat), (binOp .eql 44 (.slice a n c) (.slice none n' c')).run Tryz.prog w = .ok (.bool a.isNone) w := fun w a n c n' c' => Lib.run_eql_slice_nil w _ _ a n c n' c' Tryz.underlying44
  have hln : ts.length = n := by have := (Reads.of_own ho).1; rw [trCells_length] at this; omega
  have hmm := @run_makeMap Tryz.prog
  have HO := Lib.hid ho
  have HTS := Lib.hid hts
  have HL := Lib.hid hl
  have HLN := Lib.hid hln
  have HGOOD := Lib.hid hgood
  have hb0 := (Below.refl _ w).alloc (Nat.le_refl _) (.map #[] 0)
  have HGM := Lib.hid (GM.made w)
  have HB0 := Lib.hid hb0
  clear ho hts hl hln hgood hb0
  go_enter Tryz.func19, Tryz.ntmps19
  go_wp2_with fail
  go_loopw [17] (fun i wr => ∃ k : Nat, k ≤ n ∧ i = .int .i64 k ∧ Below w.heap.size w wr ∧
    ∃ gl D val, gl.map said = (ts.take k).map told ∧ gl.length = k ∧ GM wr (w.heap.size + 1) w.heap.size k (grp gl) D val) (fun i _ => n - (intOf i).toNat)
  case atStart => exact ⟨0, by omega, rfl, HB0.out, [], _, _, rfl, rfl, HGM.out⟩
  case round =>
    obtain ⟨k, hk, rfl, hb, gl, D, val, hsay, hgl, hgm⟩ := hrel
    have HSAY := Lib.hid hsay
    have HGL := Lib.hid hgl
    have HB := Lib.hid hb
    have HM := Lib.hid hgm
    clear hb hgm hgl hsay
    by_cases hlt : k < n
    · have hlt' : k < ts.length := by rw [HLN.out]; exact hlt
      obtain ⟨ad, eA, _, hcell⟩ := (Reads.of_own HO.out).2 (by omega)
      obtain rfl := eA
      have hck := hcell k (ts[k]).v (by simp [trCells, hlt'])
      have hto := (HTS.out _ (List.getElem_mem hlt')).below HB.out
      have hcl := HL.out _ (List.getElem_mem hlt')
      obtain ⟨cs, x, hcs⟩ : ∃ cs x, (ts[k]).cs = cs ++ [x] := by
        have hne : (ts[k]).cs ≠ [] := fun e => by have hpos := hto.pos; rw [e] at hpos; simp at hpos
        exact ⟨_, _, (List.dropLast_concat_getLast hne).symm⟩
      have h6 : x.1.k = 421 := by
        obtain ⟨cs', x', e', h6'⟩ := HGOOD.out k hlt'
        rw [hcs] at e'
        have := (List.append_inj' e' rfl).2
        injection this with hx
        rw [hx]; exact h6'
      have htk : (ts.take (k + 1)).map told = (ts.take k).map told ++ [told ts[k]] := by rw [List.take_succ_eq_append_getElem hlt', List.map_append]; rfl
      generalize ts[k] = t at *
      obtain ⟨g, cg, tcs⟩ := t
      obtain rfl : tcs = cs ++ [x] := hcs
      rw [told_snoc] at htk
      have hcl' : cs.length ≤ 1000 := by have : (cs ++ [x]).length ≤ 1000 := hcl; simp at this; omega
      have c5 : wr.cell? (ad.add k) = some (.slice (some ⟨g, 0, none⟩) (cs.length + 1) cg) := ((HB.out.cell (World.block_lt_of_cell? _ _ hck)).trans hck).trans (by simp [Tr.v])
      have hms : MS wr g (cs.length + 1) cg (cs ++ [x]) := by have := hto.ms; simpa using this
      have hpr : PRX wr (cs ++ [x]) := hto.pr
      clear hck hcell hto hcl
      have HS := Lib.hid (splitaddr_id g cg cs x wr (by omega) h6 hpr hms)
      have HPR := Lib.hid (show PRX wr cs from fun y hy => hpr y (by simp [hy]))
      have hI2 := idX_one hms h6
      have hIl := idX_le hms
      obtain ⟨I, hI⟩ : ∃ I, I = idX x.1 := ⟨_, rfl⟩
      rw [← hI] at hI2 hIl htk
      have HTK := Lib.hid htk
      clear htk
      have hIm : I.length ≤ maxLen := by unfold maxLen; omega
      have hemp : I.isEmpty = false := by rcases I with _ | ⟨_, _⟩; · simp at hI2
                                          · rfl
      have HIq := Lib.hid hI
      clear hms hpr hI
      go_wp2_with fail
      refine HS.out.mono ?_
      rintro e w1 ⟨T, rfl, hT, hb1⟩
      rw [← HIq.out]
      have HB1 := Lib.hid (HB.out.trans (hb1.mono HB.out.size))
      have HM1 := Lib.hid (HM.out.below hb1)
      have HP1 := Lib.hid (HPR.out.below hb1)
      clear hb1 HS
      have hgs := fun o => grp_snoc gl I o
      have HGS := Lib.hid hgs
      clear hgs
      rcases hT with ⟨h0, rfl⟩ | ⟨h0, b, rfl, hmb⟩
      · have H0 := Lib.hid h0
        clear h0
        have hlk := HM1.out.look_ok I hIm
        rcases hg : grp gl I with _ | y
        · rw [hg] at hlk
          have HG := Lib.hid hg
          clear hg
          go_wp2_with (at_mapUpdate; go_loud (refine wpList_mapUpdate_own _ rfl _ _ _ 85 rfl 47 59 key_law Tryz.underlying85 rawR _ k D rfl HM1.out.own (by unfold maxLen; omega) _ _ (.string I) rfl rfl (key_of I hIm) _ [] (rawR_slice none 0 0) ?_))
          intro w2 hown2 hgrow2
          have hm2 := HM1.out.putNil I hIm HG.out hown2 hgrow2
          have hge : grp (gl ++ [(I, none)]) = upd (grp gl) I (some ((grp gl I).getD [])) := by
            rw [HGS.out none]
            simp
          rw [← hge] at hm2
          have HM3 := Lib.hid hm2
          have HB3 := Lib.hid (HB1.out.grown hgrow2 HB1.out.size (fun g hg => by injection hg with hg; omega))
          clear hown2 hgrow2 hm2 hge
          go_wp2_with fail
          go_roundw
          case rel => exact ⟨k + 1, by omega, by go_num, HB3.out, gl ++ [(I, none)], _, _, by rw [List.map_append, HTK.out, HSAY.out, if_pos H0.out]; rfl, by rw [List.length_append, HGL.out]; rfl, HM3.out⟩
          case measure => simp [intOf]; omega
        · rw [hg] at hlk
          have HG := Lib.hid hg
          clear hg
          have HM3 := Lib.hid (show GM w1 (w.heap.size + 1) w.heap.size (k + 1) (grp (gl ++ [(I, none)])) D val by
            have e : grp (gl ++ [(I, none)]) = grp gl := by
              rw [HGS.out none]
              have h1 := upd_id (grp gl) I
              rw [HG.out] at h1
              rw [HG.out]
              simpa using h1
            rw [e]
            exact HM1.out.more (by omega))
          go_wp2_with fail
          go_roundw
          case rel => exact ⟨k + 1, by omega, by go_num, HB1.out, gl ++ [(I, none)], _, _, by rw [List.map_append, HTK.out, HSAY.out, if_pos H0.out]; rfl, by rw [List.length_append, HGL.out]; rfl, HM3.out⟩
          case measure => simp [intOf]; omega
      · have hlk := HM1.out.look I hIm
        obtain ⟨Av, cv, hval⟩ := HM1.out.slice I
        rw [hval] at hlk
        have hba := (Below.refl _ w1).alloc (Nat.le_refl _) (.cells #[.slice (some ⟨b, 0, none⟩) cs.length cs.length] 44)
        have HM2 := Lib.hid (HM1.out.below hba)
        have HROW := Lib.hid (HM2.out.row I)
        rw [hval] at HROW
        have HRN := Lib.hid (reads_new w1 #[.slice (some ⟨b, 0, none⟩) cs.length cs.length] 44 1 1 rfl)
        have HB2 := Lib.hid (HB1.out.trans (hba.mono HB1.out.size))
        have HT2 := Lib.hid ((⟨hmb, HP1.out, h0⟩ : TrOk w1 ⟨b, cs.length, cs⟩).below hba)
        have HVAL := Lib.hid hval
        have H0 := Lib.hid (show cs ≠ [] from fun e => by rw [e] at h0; simp at h0)
        clear hval hba hmb h0
        go_wp2_with (at_builtin; go_loud (refine wpList_append_any _ rfl _ _ _ rfl (w.heap.size + 1) 44 i0 _ 1 24 Tryz.underlying59 hi0 hz0 hz1 hz2 rfl (by decide) _ _ _ rfl HROW.out _ _ 1 1 _ rfl HRN.out ?c0 ?c1 ?c2 ?c3 ?_))
        case c0 => intro u hu; simp at hu; subst hu; rfl
        case c1 => have := grp_len gl I; have := HGL.out; unfold maxLen; omega
        case c2 => have := grp_len gl I; have := HGL.out; omega
        case c3 => have := HB2.out.size; have := HM2.out.lt; omega
        intro v3 w3 hown3 hgrow3 hat3
        obtain ⟨A3, c3, rfl⟩ := own_slice hown3
        have hnb : some w.heap.size ≠ (Value.slice Av ((grp gl I).getD []).length cv).ownBlock := fun e => by
          have := (HROW.out.lt _ e.symm).1
          omega
        have HOM := Lib.hid (HM2.out.own.kept hgrow3 hnb)
        have HOW3 := Lib.hid hown3
        have HGR3 := Lib.hid hgrow3
        have HAT3 := Lib.hid hat3
        have hoff := HT2.out.off_row (HVAL.out ▸ HM2.out.row I) (fun e => by have := HM2.out.nil_ I e; rw [HVAL.out] at this; rw [this]; rfl)
        have HT3 := Lib.hid (HT2.out.kept hgrow3 hoff.1 hoff.2)
        clear hown3 hgrow3 hat3 hoff hnb
        go_wp2_with (at_mapUpdate; go_loud (refine wpList_mapUpdate_own _ rfl _ _ _ 85 rfl 47 59 key_law Tryz.underlying85 rawR _ k D rfl HOM.out (by unfold maxLen; omega) _ _ (.string I) rfl rfl (key_of I hIm) _ [] (rawR_slice _ _ _) ?_))
        intro w4 hown4 hgrow4
        have hm4 := HM2.out.put I hIm ⟨b, cs.length, cs⟩ (by rw [HVAL.out]; exact HGR3.out) HOW3.out (by rw [HVAL.out]; exact HAT3.out.imp id (fun h => ⟨_, h, by rw [World.size_alloc]; exact Nat.le_refl _⟩)) HT3.out hown4 hgrow4
        have hge : grp (gl ++ [(I, some ⟨b, cs.length, cs⟩)]) = upd (grp gl) I (some ((grp gl I).getD [] ++ [⟨b, cs.length, cs⟩])) := by
          rw [HGS.out (some ⟨b, cs.length, cs⟩)]
          rfl
        rw [← hge] at hm4
        have HM4 := Lib.hid hm4
        have HB4 := Lib.hid ((HB2.out.grown HGR3.out HB2.out.size (fun g hg => by have := (HROW.out.lt g hg).1; omega)).grown hgrow4 (Nat.le_trans HB2.out.size HGR3.out.size) (fun g hg => by injection hg with hg; omega))
        clear hown4 hgrow4 hm4 hge
        go_wp2_with fail
        go_roundw
        case rel => exact ⟨k + 1, by omega, by go_num, HB4.out, gl ++ [(I, some ⟨b, cs.length, cs⟩)], _, _, by rw [List.map_append, HTK.out, HSAY.out, if_neg H0.out]; rfl, by rw [List.length_append, HGL.out]; rfl, HM4.out⟩
        case measure => simp [intOf]; omega
    · obtain rfl : k = n := by omega
      obtain ⟨v1, rfl⟩ : ∃ v1, v1 = wr := ⟨wr, rfl⟩
      have hsay := HSAY.out
      rw [List.take_of_length_le (by rw [HLN.out]; exact Nat.le_refl _)] at hsay
      have HSAY2 := Lib.hid hsay
      obtain ⟨p0, hp0, pz0, pz1, pz2⟩ := info_parts pinf_info
      have hSn : Maps.size D ≤ k := HM.out.own.size_le
      have hlm := fun ty => HM.out.own.len Tryz.underlying85 ty
      generalize hS : Maps.size D = S at hSn hlm
      have HSq := Lib.hid hS
      have hmk := fun W : World => run_make_rowN (P := Tryz.prog) 62 61 p0 _ Tryz.underlying62 hp0 pz0 .i64 .i64 0 S (Nat.zero_le _) (by rw [pz2]; omega) (by omega) W
      rw [pz1, show ((0 : Nat) : Int) = 0 from rfl] at hmk
      clear hsay hS
      go_wp2_with (at_range; go_loud (refine wpList_range_own _ rfl _ 85 rfl 47 59 key_law Tryz.underlying85 rawR w.heap.size k D rfl (HM.out.own.alloc _) ?_))
      intro w0 hrg0 hg0 hs0
      have hba := (Below.refl _ v1).alloc (Nat.le_refl _) (.cells (madeCells #[.string ⟨#[]⟩, .slice none 0 0] (S * 2)) 61)
      have hb0 : Below v1.heap.size v1 w0 := hba.grown hg0 hba.size (fun g hg => by cases hg)
      have ho0 : w0.ownsRow v1.heap.size 61 2 (.slice (some ⟨v1.heap.size, 0, none⟩) 0 S) 0 [] :=
        (World.ownsRow_made v1 (madeCells #[.string ⟨#[]⟩, .slice none 0 0] (S * 2)) S (Nat.le_refl _) (by unfold maxLen; omega) (by simp [size_madeCells])).kept hg0 (.inr (by simp [Value.ownBlock]))
      have HRG0 := Lib.hid hrg0
      have HB0' := Lib.hid hb0
      have HO0 := Lib.hid ho0
      clear hrg0 hg0 hs0 hba hb0 ho0 hmk hlm
      go_wp2_with fail
      go_loopw [11] (fun v w2 => ∃ (left : Lit → Bool) (cnt : Nat) (ks : List (List UInt8)), w2.ranges Tryz.prog 47 rawR w.heap.size (v1.heap.size + 1) k D left cnt ∧ w2.ownsRow v1.heap.size 61 2 v ks.length (peerRow val ks) ∧ ks.Nodup ∧
        (∀ x, x ∈ ks ↔ Maps.has D (.string x) = true ∧ left (.string x) = false) ∧ (∀ x, left (.string x) = true → Maps.has D (.string x) = true) ∧ ks.length + cnt ≤ S ∧ Below v1.heap.size v1 w2) (fun _ w2 => w2.rangeLeft w.heap.size (v1.heap.size + 1))
      case atStart => exact ⟨_, _, [], HRG0.out, HO0.out, List.nodup_nil, fun x => by simp, fun x h => h, by rw [HSq.out]; simp, HB0'.out⟩
      case round =>
        obtain ⟨left, cnt, ks, hrg, hown, hnd, hin, hlh, hlen, hb2⟩ := hrel
        have HRG := Lib.hid hrg
        have HOW := Lib.hid hown
        have HND := Lib.hid hnd
        have HIN := Lib.hid hin
        have HLH := Lib.hid hlh
        have HLE := Lib.hid hlen
        have HB2 := Lib.hid hb2
        clear hrg hown hnd hin hlh hlen hb2
        go_wp2_with (at_next; go_loud (refine wpList_next_ranges _ rfl _ rfl 47 key_law rawR (fun L : List UInt8 => Value.string ⟨L.toArray⟩) (fun p : Option Addr × Nat × Nat => Value.slice p.1 p.2.1 p.2.2) (fun key kl hk => by obtain ⟨L, e, _⟩ := key_inv hk; exact ⟨L, e⟩) (fun v y hv => by obtain ⟨⟨a, n, c, e⟩, _⟩ := rawR_inv hv; exact ⟨(a, n, c), e⟩) w.heap.size (v1.heap.size + 1) k D left cnt rfl HRG.out ?_ ?_))
        · intro hc0 hl0
          have HFIN := Lib.hid (show ∀ x, x ∈ ks ↔ (grp gl x).isSome = true from fun x => (HIN.out x).trans (by rw [HM.out.has x, hl0]; simp))
          clear hc0 hl0
          go_wp2_with fail
          go_ret2
          exact ⟨_, ks, gl, D, val, rfl, HOW.out.mono HB.out.size, HND.out, HFIN.out, HSAY2.out, HM.out.below HB2.out, HB.out.trans (HB2.out.mono HB.out.size)⟩
        · intro x pa pn pc kl y1 y2 w3 cnt1 hkey hlk hRv hat hrg1 hlt1 hg1 hs1 hen
          obtain ⟨L, eL, rfl, hLm⟩ := key_inv hkey
          obtain rfl : x = L := by simpa using eL
          have hval : val x = .slice pa pn pc := by
            have h1 := hat (.held (.slice none 0 0))
            have h2 := (rawR_inv hRv).2
            simp only [Prod.mk.injEq] at h2
            rw [HM.out.at_ x, h2.1] at h1
            injection h1
          have hne := own_iter_ne HOW.out HRG.out
          have ho3 := HOW.out.kept hg1 (.inr (Ne.symm hne.2))
          have hb3 := HB2.out.grown hg1 HB2.out.size (fun g hg => by injection hg with hg; omega)
          have hba := (Below.refl _ w3).alloc (Nat.le_refl _) (.cells #[.string ⟨x.toArray⟩, .slice pa pn pc] 61)
          have HOO := Lib.hid (own_below ho3 hba)
          have HRG1 := Lib.hid (hrg1.alloc (.cells #[.string ⟨x.toArray⟩, .slice pa pn pc] 61))
          have HRN := Lib.hid (reads_new w3 #[.string ⟨x.toArray⟩, .slice pa pn pc] 61 2 1 rfl)
          have HB4 := Lib.hid (hb3.trans (hba.mono hb3.size))
          have HIN4 := Lib.hid (show ∀ z, z ∈ ks ++ [x] ↔ Maps.has D (.string z) = true ∧ (left (.string z) && !(Lit.string z).sameKey (.string x)) = false from fun z => by
            rw [List.mem_append, List.mem_singleton, HIN.out z, same_str]
            by_cases e : z = x
            · subst e
              simp [HLH.out z hlk]
            · simp [e])
          have HLH4 := Lib.hid (show ∀ z, (left (.string z) && !(Lit.string z).sameKey (.string x)) = true → Maps.has D (.string z) = true from fun z h => HLH.out z (by simp at h; exact h.1))
          have HND4 := Lib.hid (show (ks ++ [x]).Nodup from List.nodup_append.2 ⟨HND.out, by simp, fun a ha b hb => by
            rw [List.mem_singleton] at hb
            subst hb
            rintro rfl
            have := ((HIN.out a).1 ha).2
            rw [hlk] at this
            cases this⟩)
          have HLE4 := Lib.hid (show (ks ++ [x]).length + cnt1 ≤ S by have := HLE.out; rw [List.length_append, List.length_singleton]; omega)
          have HEN := Lib.hid hrg1
          have HVAL := Lib.hid hval
          have HLT1 := Lib.hid hlt1
          have hkb : ks.length ≤ 1000 := by have := HLE.out; omega
          have hsz : v1.heap.size ≤ (w3.alloc (.cells #[.string ⟨x.toArray⟩, .slice pa pn pc] 61)).heap.size := HB4.out.size
          have HSZ := Lib.hid hsz
          clear hkey hlk hRv hat hrg1 hlt1 hg1 hs1 eL hLm hval hne ho3 hb3 hba hsz
          go_wp2_with (at_builtin; go_loud (refine wpList_append_any _ rfl _ _ _ rfl v1.heap.size 61 p0 _ 2 40 Tryz.underlying62 hp0 pz0 pz1 pz2 rfl (by decide) _ _ _ rfl HOO.out _ _ 1 1 _ rfl HRN.out ?c0 ?c1 ?c2 ?c3 ?_))
          case c0 => exact ⟨rfl, rfl⟩
          case c1 => unfold maxLen; omega
          case c2 => omega
          case c3 => have h := HSZ.out; rw [World.size_alloc] at h; exact h
          intro v4 w4 hown4 hgrow4 _hat
          have hne4 := own_iter_ne HOO.out HRG1.out
          have HRG4 := Lib.hid (HRG1.out.kept hgrow4 hne4.1 hne4.2)
          have hof : w4.ownsRow v1.heap.size 61 2 v4 (ks ++ [x]).length (peerRow val (ks ++ [x])) := by
            rw [peerRow_snoc, List.length_append, HVAL.out]
            exact hown4
          have HOF := Lib.hid hof
          have HB5 := Lib.hid (HB4.out.grown hgrow4 HB4.out.size (fun g hg => (HOO.out.lt g hg).1))
          clear hown4 hgrow4 _hat hne4 hof
          go_wp2_with fail
          go_roundw
          case rel => exact ⟨_, cnt1, ks ++ [x], HRG4.out, HOF.out, HND4.out, HIN4.out, HLH4.out, HLE4.out, HB5.out⟩
          case measure => rw [HRG4.out.left_eq, HRG.out.left_eq]; exact HLT1.out
end X
end Go.Proofs.YtghddiboggdhcaaGreatDoor
