/- NewMultiaddr at the text of an address: the deferred call finds no panic. No condition beyond. -/
import Derived.Test.YthpcfnegfdcbjaaGreatDoorIa
import Derived.Test.YthpcfnegfdcbjaaGreatDoorPr
import Derived.Test.YthpcfnegfdcbjaaGreatDoorMk
import Derived.Maps.OwnSet
import Derived.Maps.RangeWalk
import Derived.Sort.KeysCollected
namespace Go.Proofs.YthpcfnegfdcbjaaGreatDoor
open Go.RowKit
variable {K : Nat}
theorem catch_idle_s (p : Addr) (w : World) :
    CallsD Tryz.prog 56 #[.pointer (some p)] .returning w fun e u' w' => e = .returned (.tuple #[]) ∧ u' = .returning ∧ w' = w := by
  have q0 : ∀ w : World, (binOp .neq 20 .nilIface .nilIface).run Tryz.prog w = .ok (.bool false) w := fun _ => by kernel_rfl
  refine callsD_of_wpS Tryz.func56 rfl fun c₀ cs hu => ?_
  apply wpS_seq
  apply wpS_region
  simp [wpOpsS, go_sem, recoverD, hu, Tryz.ntmps56, Exit.thenS]
  apply wpS_seq
  apply wpS_region
  simp [wpOpsS, go_sem, q0, Exit.thenS]
  refine wpS_cond (t := false) (by simp [Act.eval, Array.replicate]) ?_
  simp only [Bool.false_eq_true, if_false]
  refine wpS_of_wp (wp_skip ?_)
  cases c₀
  simp_all [bodyPostS, results, Tryz.results56]
theorem setCell_id {w : World} {g : Nat} {t : TypeId} {v : Value} (h : Blk w g t #[v]) : w.setCell ⟨g, 0, none⟩ v = w := by
  have hh : (w.setCell ⟨g, 0, none⟩ v).heap = w.heap := by
    unfold World.setCell
    apply Array.ext
    · simp
    · intro i h1 h2
      simp only [Array.getElem_modify]
      split
      · rename_i e
        subst e
        unfold Blk at h
        rw [Array.getElem?_eq_getElem h2] at h
        injection h with h
        rw [h]
        rfl
      · rfl
  have e : ({ w with heap := (w.setCell ⟨g, 0, none⟩ v).heap } : World) = w := by rw [hh]
  exact e
set_option maxRecDepth 100000 in
set_option maxHeartbeats 2000000 in
theorem newmas_x (s : ByteArray) (hs : List Hop) (w : World) (ht : Tab K w) (hok : ∀ x ∈ hs, HopOk K x.kd x.l) (hstb : ∀ w, Calls Tryz.prog 57 #[.string s] w (OutBN (addrBytes hs) w)) (hn : hs.length ≤ 100) (hne : hs ≠ []) :
    Calls Tryz.prog 40 #[.string s] w (OutMA hs w) := by
  have hmf : ∀ (fn : Fn) (first cap : Array Value) (w : World), (Instr.makeFunc fn first cap).run Tryz.prog w = .ok (.func fn first cap) w := fun _ _ _ _ => rfl
  have q0 : ∀ w : World, (binOp .neq 56 .nilIface .nilIface).run Tryz.prog w = .ok (.bool false) w := fun _ => by kernel_rfl
  obtain ⟨w1, hw1⟩ : ∃ w1, w1 = w.alloc (.cells #[.nilIface] 56) := ⟨_, rfl⟩
  have hb1 : Below w.heap.size w w1 := by rw [hw1]; exact (Below.refl _ w).alloc (Nat.le_refl _) _
  have hk1 : Blk w1 w.heap.size 56 #[.nilIface] := by rw [hw1]; exact Blk.new _ _ _
  have HST := Lib.hid (hstb w1)
  have HT := Lib.hid ht
  have HOK := Lib.hid hok
  have HNE := Lib.hid hne
  have HB1 := Lib.hid hb1
  have HK1 := Lib.hid hk1
  have HW1 := Lib.hid hw1
  have hs0 : 0 < hs.length := by rcases hs with _ | ⟨x, hs⟩; exact absurd rfl hne; simp
  clear ht hok hne hb1 hk1 hw1 hstb
  go_enter_defers Tryz.func40, Tryz.ntmps40
  go_wp2_with fail
  rw [← HW1.out]
  refine HST.out.mono ?_
  rintro e w2 ⟨A2, c2, rfl, hr2, hb2⟩
  have hk2 := HK1.out.below hb2 HK1.out.lt
  have c20 : w2.cell? ⟨w.heap.size, 0, none⟩ = some .nilIface := hk2.cell 0
  have f20 := hk2.frozen 0
  have HB2 := Lib.hid (HB1.out.trans (hb2.mono HB1.out.size))
  have hsc := setCell_id hk2
  have HK2 := Lib.hid hk2
  have HNM := Lib.hid (newma_any A2 _ c2 hs w2 (HT.out.below HB2.out) HOK.out hr2 hn HNE.out)
  clear hb2 hk2 hr2
  go_wp2_with fail
  refine HNM.out.mono ?_
  rintro e w3 ⟨v, cs, rfl, hcs, hpr, hown, hb3⟩
  obtain ⟨A3, c3, rfl⟩ := own_slice hown
  have hk3 := HK2.out.below hb3 HK2.out.lt
  have hsc3 := setCell_id hk3
  have c30 : w3.cell? ⟨w.heap.size, 0, none⟩ = some .nilIface := hk3.cell 0
  have f30 := hk3.frozen 0
  have HO := Lib.hid hown
  have HP := Lib.hid hpr
  have HCS := Lib.hid hcs
  have HB3 := Lib.hid (HB2.out.trans (hb3.mono HB2.out.size))
  clear hown hpr hcs hb3 hk3 hsc
  go_wp2_with fail
  refine leaves_cons (f := 56) (args := #[.pointer (some ⟨w.heap.size, 0, none⟩)]) (by simp) (by simp [go_sem]) ?_
  refine (catch_idle_s ⟨w.heap.size, 0, none⟩ _).mono ?_
  rintro e u' w'' ⟨rfl, rfl, rfl⟩
  have hfin : OutMA hs w (.returned (.tuple #[.slice A3 cs.length c3, .nilIface])) w'' := ⟨_, cs, rfl, HCS.out, HP.out, own_base HO.out HB2.out.size, HB3.out⟩
  simp [Leaves, settle, results, Tryz.results40, go_sem, c30]
  exact hfin
end Go.Proofs.YthpcfnegfdcbjaaGreatDoor

/- Addresses in memory: what a row of them holds. No condition. -/
namespace Go.Proofs.YthpcfnegfdcbjaaGreatDoor
open Go.RowKit
set_option maxRecDepth 100000
/-- An address in memory: its block, its components. -/
structure Tr where
  g : Nat
  c : Nat
  cs : List (Hop × Nat)
def Tr.v (t : Tr) : Value := .slice (some ⟨t.g, 0, none⟩) t.cs.length t.c
def trCells (ts : List Tr) : List Value := ts.map Tr.v
theorem trCells_length (ts : List Tr) : (trCells ts).length = ts.length := by simp [trCells]
theorem trCells_snoc (ts : List Tr) (t : Tr) : trCells (ts ++ [t]) = trCells ts ++ [t.v] := by simp [trCells]
theorem trCells_one (ts : List Tr) : ∀ u ∈ trCells ts, u.oneCell' = true := by
  intro u hu
  simp only [trCells, List.mem_map] at hu
  obtain ⟨t, _, rfl⟩ := hu
  rfl
structure TrOk (w : World) (t : Tr) : Prop where
  ms : MS w t.g t.cs.length t.c t.cs
  pr : PR w t.cs
  pos : 0 < t.cs.length
theorem TrOk.below {w w' : World} {t : Tr} (h : TrOk w t) (hb : Below w.heap.size w w') : TrOk w' t := ⟨h.ms.below hb, h.pr.below hb, h.pos⟩
theorem TrOk.first {w : World} {t : Tr} (h : TrOk w t) : ∃ s, w.cell? ⟨t.g, 0, none⟩ = some (.string s) := by
  obtain ⟨g, c, cs⟩ := t
  rcases cs with _ | ⟨x, cs⟩
  · exact absurd h.pos (by simp)
  · exact ⟨_, h.ms.cell 0 (.string ⟨x.1.bytes.toArray⟩) rfl⟩
theorem TrOk.kept {w w' : World} {t : Tr} {row : Option Nat} (h : TrOk w t) (hg : w.grownBy w' row) (h1 : some t.g ≠ row) (h2 : ∀ x ∈ t.cs, some x.2 ≠ row) : TrOk w' t := by
  refine ⟨⟨h.ms.len, fun j u hu => hg.cell (h.ms.cell j u hu) h1, Nat.lt_of_lt_of_le h.ms.lt hg.size, h.ms.cap, h.ms.max⟩, fun x hx => ?_, h.pos⟩
  obtain ⟨g, hb⟩ := h.pr x hx
  exact ⟨g, hb.grown hg (h2 x hx)⟩
/-- A row of addresses is no address's own block. -/
theorem TrOk.off_row {w : World} {t : Tr} (h : TrOk w t) {base : Nat} {v : Value} {ts : List Tr} (ho : w.ownsRow base 51 1 v ts.length (trCells ts)) (hn : ts = [] → v.ownBlock = none) : some t.g ≠ v.ownBlock ∧ ∀ x ∈ t.cs, some x.2 ≠ v.ownBlock := by
  refine ⟨fun e => ?_, fun x hx e => ?_⟩
  · rcases ts with _ | ⟨t0, ts⟩
    · rw [hn rfl] at e; cases e
    · obtain ⟨s, hs⟩ := h.first
      have := ho.cells e.symm 0 t0.v rfl
      rw [show (⟨t.g, 0, none⟩ : Addr).add 0 = ⟨t.g, 0, none⟩ from rfl, hs] at this
      injection this with this
      cases this
  · obtain ⟨g, hb⟩ := h.pr x hx
    exact own_blk_ne ho hb (by decide) e.symm
theorem TrOk.off_map {w : World} {t : Tr} (h : TrOk w t) {b : Nat} {es : Array MapEntry} {clock : Nat} (hb : w.heap[b]? = some (.map es clock)) : some t.g ≠ some b ∧ ∀ x ∈ t.cs, some x.2 ≠ some b := by
  refine ⟨fun e => ?_, fun x hx e => ?_⟩
  · obtain ⟨s, hs⟩ := h.first
    injection e with e
    subst e
    simp [World.cell?, hb] at hs
  · obtain ⟨g, hk⟩ := h.pr x hx
    injection e with e
    subst e
    unfold Blk at hk
    rw [hb] at hk
    cases hk
theorem mad_info : (Tryz.prog.info? 51).map (fun i => (i.zero, i.size, i.bytes)) = some (some (.slice none 0 0), 1, 24) := by kernel_rfl
/-- What addresses are read of. -/
structure AOk (K : Nat) (hs : List Hop) : Prop where
  ne : hs ≠ []
  le : hs.length ≤ 100
  ok : ∀ x ∈ hs, HopOk K x.kd x.l
theorem TrOk.grown_row {w w' : World} {t : Tr} (h : TrOk w t) {base : Nat} {v : Value} {ts : List Tr} (ho : w.ownsRow base 51 1 v ts.length (trCells ts)) (hn : ts = [] → v.ownBlock = none) (hg : w.grownBy w' v.ownBlock) : TrOk w' t :=
  h.kept hg (h.off_row ho hn).1 (h.off_row ho hn).2
theorem own_set {w : World} {base : Nat} {e : TypeId} {size n : Nat} {v : Value} {xs : List Value} (h : w.ownsRow base e size v n xs) {g : Nat} {t : TypeId} {cs : Array Value} (hb : Blk w g t cs) (hne : e ≠ t) (i : Nat) (u : Value) : (w.setCell ⟨g, i, none⟩ u).ownsRow base e size v n xs :=
  h.kept (only_setCell (World.grownBy.refl w _) (.inl rfl) u) (.inr (own_blk_ne h hb hne))
end Go.Proofs.YthpcfnegfdcbjaaGreatDoor

/- A map from IDs to lists of addresses, as the call makes it: what it holds. No condition. -/
namespace Go.Proofs.YthpcfnegfdcbjaaGreatDoor
open Go.RowKit
set_option maxRecDepth 100000
/-- A map's element, raw. -/
def rawR : Value → Option (DataW Value × List MemPlace)
  | .slice A n c => some (.held (.slice A n c), [])
  | _ => none
theorem rawR_slice (A : Option Addr) (n c : Nat) : rawR (.slice A n c) = some (.held (.slice A n c), []) := rfl
theorem rawR_inv {v : Value} {y : DataW Value × List MemPlace} (h : rawR v = some y) : (∃ A n c, v = .slice A n c) ∧ y = (.held v, []) := by
  unfold rawR at h
  split at h
  · cases h; exact ⟨⟨_, _, _, rfl⟩, rfl⟩
  · cases h
theorem key_law : Maps.Keyed Tryz.prog 60 := Maps.string_keyed Tryz.underlying60
theorem key_of (L : List UInt8) (h : L.length ≤ maxLen) : keyOf Tryz.prog 60 (.string ⟨L.toArray⟩) = some (.string L) := by
  rw [WideMaps.keyOf_string_mk Tryz.underlying60 (s := ⟨L.toArray⟩) (by rw [size_toArray]; exact h)]
theorem key_lit (L : List UInt8) (h : L.length ≤ maxLen) : WideAt.IsKeyLit (.string L) := key_law.key (key_of L h)
theorem group_zero (w : World) : (zeroValue 61).run Tryz.prog w = .ok (.slice none 0 0) w := by kernel_rfl
/-- One entry put. -/
def upd {α : Type} (f : List UInt8 → α) (L : List UInt8) (x : α) : List UInt8 → α := fun k => if k = L then x else f k
theorem upd_same {α : Type} (f : List UInt8 → α) (L : List UInt8) (x : α) : upd f L x L = x := by simp [upd]
theorem upd_other {α : Type} (f : List UInt8 → α) {L k : List UInt8} (x : α) (h : k ≠ L) : upd f L x k = f k := by simp [upd, h]
/-- Block b is a map of at most n IDs; what f says it holds; the lists lie in rows of their own. -/
structure GM (w : World) (base b n : Nat) (f : List UInt8 → Option (List Tr)) (D : DataW Value) (val : List UInt8 → Value) : Prop where
  own : w.ownsMap Tryz.prog 60 rawR b n D
  has : ∀ k, Maps.has D (.string k) = (f k).isSome
  at_ : ∀ k, D.atKey (.string k) (.held (.slice none 0 0)) = .held (val k)
  row : ∀ k, w.ownsRow base 51 1 (val k) ((f k).getD []).length (trCells ((f k).getD []))
  nil_ : ∀ k, (f k).getD [] = [] → val k = .slice none 0 0
  apart : ∀ k k', k ≠ k' → (val k).ownBlock = none ∨ (val k).ownBlock ≠ (val k').ownBlock
  low : b < base
  oks : ∀ k, ∀ t ∈ (f k).getD [], TrOk w t
section
variable {w w' : World} {base b n : Nat} {f : List UInt8 → Option (List Tr)} {D : DataW Value} {val : List UInt8 → Value}
theorem GM.made (w : World) : GM (w.alloc (.map #[] 0)) (w.heap.size + 1) w.heap.size 0 (fun _ => none) (.map []) (fun _ => .slice none 0 0) :=
  ⟨World.ownsMap_made _ _ _ _, fun _ => rfl, fun _ => rfl, fun _ => World.ownsRow_nil _ _ _ _, fun _ _ => rfl, fun _ _ _ => .inl rfl, Nat.lt_succ_self _, fun _ t ht => by simp at ht⟩
theorem GM.kept (h : GM w base b n f D val) {row : Option Nat} (hg : w.grownBy w' row) (hb : some b ≠ row) (hr : ∀ k, (val k).ownBlock = none ∨ (val k).ownBlock ≠ row) (ht : ∀ k, ∀ t ∈ (f k).getD [], TrOk w' t) : GM w' base b n f D val :=
  ⟨h.own.kept hg hb, h.has, h.at_, fun k => (h.row k).kept hg (hr k), h.nil_, h.apart, h.low, ht⟩
theorem GM.below (h : GM w base b n f D val) (hb : Below w.heap.size w w') : GM w' base b n f D val :=
  h.kept (only_of_below hb none) (by simp) (fun k => by cases (val k).ownBlock <;> simp) (fun k t ht => (h.oks k t ht).below hb)
theorem GM.drew (h : GM w base b n f D val) : GM w.drew base b n f D val := h.below ((Below.refl _ w).drew)
theorem GM.more (h : GM w base b n f D val) {n' : Nat} (hn : n ≤ n') : GM w base b n' f D val := ⟨h.own.mono hn, h.has, h.at_, h.row, h.nil_, h.apart, h.low, h.oks⟩
theorem GM.slice (h : GM w base b n f D val) (k : List UInt8) : ∃ A c, val k = .slice A ((f k).getD []).length c := own_slice (h.row k)
theorem GM.lt (h : GM w base b n f D val) : b < w.heap.size := h.own.lt
/-- 'm[id]'. -/
theorem GM.look (h : GM w base b n f D val) (L : List UInt8) (hL : L.length ≤ maxLen) : (Instr.lookup 104 (.map (some b)) (.string ⟨L.toArray⟩) false).run Tryz.prog w = .ok (val L) w := by
  obtain ⟨v, ps, hrun, hv⟩ := h.own.lookup key_law Tryz.underlying104 (group_zero w) (rawR_slice none 0 0) (key_of L hL)
  have := (rawR_inv hv).2
  simp only [Prod.mk.injEq] at this
  rw [h.at_ L] at this
  have h1 := this.1
  injection h1 with h1
  rw [h1]
  exact hrun
/-- '_, ok := m[id]'. -/
theorem GM.look_ok (h : GM w base b n f D val) (L : List UInt8) (hL : L.length ≤ maxLen) : (Instr.lookup 104 (.map (some b)) (.string ⟨L.toArray⟩) true).run Tryz.prog w = .ok (.tuple #[val L, .bool (f L).isSome]) w := by
  obtain ⟨v, ps, hrun, hv⟩ := h.own.look_ok key_law Tryz.underlying104 (group_zero w) (rawR_slice none 0 0) (key_of L hL)
  have := (rawR_inv hv).2
  simp only [Prod.mk.injEq] at this
  rw [h.at_ L] at this
  have h1 := this.1
  injection h1 with h1
  rw [h1, ← h.has L]
  exact hrun
theorem upd_isSome (f : List UInt8 → Option (List Tr)) (L : List UInt8) (x : List Tr) (D : DataW Value) (v : Value) (hD : Maps.IsMap D) (hL : L.length ≤ maxLen) (h : ∀ k, Maps.has D (.string k) = (f k).isSome) : ∀ k, Maps.has (D.put (.string L) (.held v)) (.string k) = (upd f L (some x) k).isSome := by
  intro k
  by_cases e : k = L
  · subst e
    rw [Maps.has_put_same hD (key_lit k hL), upd_same]
    rfl
  · rw [Maps.has_put_other (fun h1 => e (by injection h1)), upd_other _ _ e]
    exact h k
theorem upd_at (val : List UInt8 → Value) (L : List UInt8) (D : DataW Value) (v : Value) (hD : Maps.IsMap D) (hL : L.length ≤ maxLen) (h : ∀ k, D.atKey (.string k) (.held (.slice none 0 0)) = .held (val k)) : ∀ k, (D.put (.string L) (.held v)).atKey (.string k) (.held (.slice none 0 0)) = .held (upd val L v k) := by
  intro k
  by_cases e : k = L
  · subst e
    rw [Maps.atKey_put_same hD (key_lit k hL), upd_same]
  · rw [Maps.atKey_put_other (fun h1 => e (by injection h1)), upd_other _ _ e]
    exact h k
/-- Behind 'm[id] = append(m[id], t)'. -/
theorem GM.put (h : GM w base b n f D val) (L : List UInt8) (hL : L.length ≤ maxLen) (t : Tr) {w1 w2 : World} {v' : Value} (hg : w.grownBy w1 (val L).ownBlock)
    (ho : w1.ownsRow base 51 1 v' (((f L).getD []).length + 1) (trCells ((f L).getD []) ++ [t.v])) (hloc : v'.ownBlock = (val L).ownBlock ∨ ∃ g, v'.ownBlock = some g ∧ w.heap.size ≤ g) (ht : TrOk w1 t)
    (hm : w2.ownsMap Tryz.prog 60 rawR b (n + 1) (D.put (.string L) (.held v'))) (hg2 : w1.grownBy w2 (some b)) :
    GM w2 base b (n + 1) (upd f L (some ((f L).getD [] ++ [t]))) (D.put (.string L) (.held v')) (upd val L v') := by
  have hrow : ∀ k, k ≠ L → (val k).ownBlock = none ∨ (val k).ownBlock ≠ (val L).ownBlock := fun k hk => h.apart k L hk
  have hb1 : ∃ es clock, w1.heap[b]? = some (.map es clock) := by
    obtain ⟨es, clock, hb, _⟩ := h.own
    refine ⟨es, clock, (hg.block b h.lt (fun e => ?_)).trans hb⟩
    have := ((h.row L).lt b e.symm).1
    have := h.low
    omega
  obtain ⟨es, clock, hb1⟩ := hb1
  have hnb : ∀ k, (val k).ownBlock ≠ some b := fun k e => by
    have := ((h.row k).lt b e).1
    have := h.low
    omega
  have hnb' : v'.ownBlock ≠ some b := fun e => by
    have := (ho.lt b e).1
    have := h.low
    omega
  have hnew : ∀ k, k ≠ L → (val k).ownBlock = none ∨ (val k).ownBlock ≠ v'.ownBlock := fun k hk => by
    rcases hloc with e | ⟨g, e, hge⟩
    · rw [e]; exact hrow k hk
    · rcases hv : (val k).ownBlock with _ | g'
      · exact .inl rfl
      · refine .inr (fun e2 => ?_)
        rw [e] at e2
        injection e2 with e2
        have := ((h.row k).lt g' hv).2
        omega
  have hold : ∀ t' : Tr, TrOk w t' → TrOk w2 t' := fun t' ht' => by
    have hoff := ht'.off_row (h.row L) (fun e => by rw [h.nil_ L e]; rfl)
    have h1 := ht'.kept hg hoff.1 hoff.2
    have hoff2 := h1.off_map hb1
    exact h1.kept hg2 hoff2.1 hoff2.2
  have htn : TrOk w2 t := ht.kept hg2 (ht.off_map hb1).1 (ht.off_map hb1).2
  refine ⟨hm, upd_isSome f L _ D v' h.own.isMap hL h.has, upd_at val L D v' h.own.isMap hL h.at_, fun k => ?_, fun k => ?_, fun k k' hkk => ?_, h.low, fun k t' ht' => ?_⟩
  · by_cases e : k = L
    · subst e
      rw [upd_same, upd_same, Option.getD_some, trCells_snoc, List.length_append, List.length_singleton]
      exact ho.kept hg2 (by rcases h1 : v'.ownBlock with _ | _; exact .inl rfl; exact .inr (h1 ▸ hnb'))
    · rw [upd_other _ _ e, upd_other _ _ e]
      exact ((h.row k).kept hg (hrow k e)).kept hg2 (.inr (hnb k))
  · by_cases e : k = L
    · subst e
      rw [upd_same, Option.getD_some]
      intro h0
      simp at h0
    · rw [upd_other _ _ e, upd_other _ _ e]
      exact h.nil_ k
  · by_cases e : k = L
    · subst e
      rw [upd_same, upd_other _ _ (Ne.symm hkk)]
      rcases hv : v'.ownBlock with _ | g
      · exact .inl rfl
      · rcases hnew k' (Ne.symm hkk) with h1 | h1
        · exact .inr (by rw [h1]; simp)
        · exact .inr (fun e2 => h1 (by rw [hv, e2]))
    · rw [upd_other _ _ e]
      by_cases e' : k' = L
      · subst e'
        rw [upd_same]
        exact hnew k e
      · rw [upd_other _ _ e']
        exact h.apart k k' hkk
  · by_cases e : k = L
    · subst e
      rw [upd_same, Option.getD_some, List.mem_append, List.mem_singleton] at ht'
      rcases ht' with h1 | rfl
      · exact hold t' (h.oks k t' h1)
      · exact htn
    · rw [upd_other _ _ e] at ht'
      exact hold t' (h.oks k t' ht')
/-- Behind 'm[id] = nil' at an ID that was not there. -/
theorem GM.putNil (h : GM w base b n f D val) (L : List UInt8) (hL : L.length ≤ maxLen) (hf : f L = none) {w2 : World}
    (hm : w2.ownsMap Tryz.prog 60 rawR b (n + 1) (D.put (.string L) (.held (.slice none 0 0)))) (hg2 : w.grownBy w2 (some b)) :
    GM w2 base b (n + 1) (upd f L (some ((f L).getD []))) (D.put (.string L) (.held (.slice none 0 0))) (upd val L (.slice none 0 0)) := by
  have hv : val L = .slice none 0 0 := h.nil_ L (by rw [hf]; rfl)
  have hval : upd val L (.slice none 0 0) = val := by
    funext k
    by_cases e : k = L
    · subst e; rw [upd_same, hv]
    · rw [upd_other _ _ e]
  have hget : ∀ k, (upd f L (some ((f L).getD [])) k).getD [] = (f k).getD [] := fun k => by
    by_cases e : k = L
    · subst e; rw [upd_same]; rfl
    · rw [upd_other _ _ e]
  have hb1 : ∃ es clock, w.heap[b]? = some (.map es clock) := by
    obtain ⟨es, clock, hb, _⟩ := h.own
    exact ⟨es, clock, hb⟩
  obtain ⟨es, clock, hb1⟩ := hb1
  have hnb : ∀ k, (val k).ownBlock ≠ some b := fun k e => by
    have := ((h.row k).lt b e).1
    have := h.low
    omega
  refine ⟨hm, upd_isSome f L _ D _ h.own.isMap hL h.has, upd_at val L D _ h.own.isMap hL h.at_, fun k => ?_, fun k => ?_, fun k k' hkk => ?_, h.low, fun k t' ht' => ?_⟩
  · rw [hval, hget]
    exact (h.row k).kept hg2 (.inr (hnb k))
  · rw [hval, hget]
    exact h.nil_ k
  · rw [hval]
    exact h.apart k k' hkk
  · rw [hget] at ht'
    have h1 := h.oks k t' ht'
    exact h1.kept hg2 (h1.off_map hb1).1 (h1.off_map hb1).2
end
/-- What addresses tell, one after the other: an ID, and a transport, if there is one. -/
def grp (l : List (List UInt8 × Option Tr)) : List UInt8 → Option (List Tr) := fun k => if l.any (fun p => p.1 == k) then some (l.filterMap fun p => if p.1 = k then p.2 else none) else none
theorem grp_nil : grp [] = fun _ => none := rfl
theorem grp_snoc (l : List (List UInt8 × Option Tr)) (L : List UInt8) (o : Option Tr) : grp (l ++ [(L, o)]) = upd (grp l) L (some ((grp l L).getD [] ++ o.toList)) := by
  funext k
  by_cases e : k = L
  · subst e
    rw [upd_same]
    unfold grp
    by_cases h : l.any (fun p => p.1 == k) = true
    · rw [if_pos h, if_pos (by simp [h]), Option.getD_some, List.filterMap_append]
      congr 2
      cases o <;> simp
    · rw [if_neg h, if_pos (by simp), Option.getD_none, List.filterMap_append]
      have : l.filterMap (fun p => if p.1 = k then p.2 else none) = [] := by
        rw [List.filterMap_eq_nil_iff]
        intro p hp
        rw [if_neg (fun e => h (List.any_eq_true.2 ⟨p, hp, by simp [e]⟩))]
      rw [this]
      congr 1
      cases o <;> simp
  · rw [upd_other _ _ e]
    unfold grp
    have h1 : (l ++ [(L, o)]).any (fun p => p.1 == k) = l.any (fun p => p.1 == k) := by simp [Ne.symm e]
    rw [h1, List.filterMap_append]
    have h2 : [(L, o)].filterMap (fun p : List UInt8 × Option Tr => if p.1 = k then p.2 else none) = [] := by simp [Ne.symm e]
    rw [h2, List.append_nil]
theorem upd_id {α : Type} (f : List UInt8 → α) (L : List UInt8) : upd f L (f L) = f := by
  funext k
  by_cases e : k = L
  · subst e; rw [upd_same]
  · rw [upd_other _ _ e]
theorem grp_len (l : List (List UInt8 × Option Tr)) (k : List UInt8) : ((grp l k).getD []).length ≤ l.length := by
  unfold grp
  split
  · exact List.length_filterMap_le _ _
  · simp
end Go.Proofs.YthpcfnegfdcbjaaGreatDoor
