/- Rows of byte strings sorted by the library: what the row owns behind it. No condition. -/
import Derived.Test.YtkmieonfhcmimaaGreatDoorKb
import Derived.Sort.OwnSorted
import Derived.Shelf.SlSortCmp.Kit1
import Derived.Shelf.SlSortCmp.InsertionK
import Derived.Test.YtkmieonfhcmimaaGreatDoorSs
import Derived.Test.YtkmieonfhcmimaaGreatDoorPq
namespace Go.Proofs.YtkmieonfhcmimaaGreatDoor
open Go Go.RowKit Go.Sort
section
variable {α : Type} [Inhabited α] (enc : α → Value)
theorem holds_row {w : World} {g : Nat} {cur : Array Value} {e : TypeId} {ds : List α} (hb : w.heap[g]? = some (.cells cur e (0, 0))) (ht : cur.toList.take ds.length = ds.map enc) : Holds enc w g 0 ds.toArray := by
  intro j hj
  have hj' : j < ds.length := by simpa using hj
  refine ⟨?_, by simp [World.frozen?, hb]⟩
  have h1 : (cur.toList.take ds.length)[j]? = (ds.map enc)[j]? := by rw [ht]
  rw [List.getElem?_take_of_lt hj'] at h1
  simp only [World.cell?, hb, Nat.zero_add, Option.isSome_none, Bool.false_eq_true, if_false]
  rw [← Array.getElem?_toList, h1]
  simp [hj']
theorem heap_row {w : World} {g n : Nat} {os : Array Obj} {cur : Array Value} {e : TypeId} {fr : Nat × Nat} (d : Array α) (hb : w.heap[g]? = some (.cells cur e fr)) : (sortWorld enc w g 0 n d os).heap[g]? = some (.cells (putCells enc 0 d cur) e fr) := by
  have hg : g < w.heap.size := (Array.getElem?_eq_some_iff.1 hb).1
  unfold sortWorld
  rw [heap_grow_old _ _ (by simpa using hg)]
  simp [putRow, mapBlock, Sort.ahead, Array.getElem?_modify, hb, onCells]
theorem grown_row' {w : World} {g n : Nat} {os : Array Obj} (d : Array α) : w.grownBy (sortWorld enc w g 0 n d os) (some g) := by
  refine ⟨rfl, rfl, rfl, by simp [sortWorld], fun k hk hne => ?_⟩
  unfold sortWorld
  rw [heap_grow_old _ _ (by simpa using hk)]
  have : g ≠ k := fun e => hne (by rw [e])
  simp [putRow, mapBlock, Sort.ahead, Array.getElem?_modify, this]
theorem take_put (cur : Array Value) (ts : List α) (h : ts.length ≤ cur.size) : (putCells enc 0 ts.toArray cur).toList.take ts.length = ts.map enc := by
  apply List.ext_getElem?
  intro j
  by_cases hj : j < ts.length
  · rw [List.getElem?_take_of_lt hj, Array.getElem?_toList]
    simp [putCells, hj, show j < cur.size by omega]
  · rw [List.getElem?_take_eq_none (by omega), List.getElem?_eq_none (by simp; omega)]
theorem owns_sorted {w : World} {base g c m n : Nat} {e : TypeId} {os : Array Obj} {xs : List Value} (ho : w.ownsRow base e 1 (.slice (some ⟨g, 0, none⟩) m c) m xs) (ts : List α) (hl : ts.length = m) : (sortWorld enc w g 0 n ts.toArray os).ownsRow base e 1 (.slice (some ⟨g, 0, none⟩) m c) m (ts.map enc) := by
  rcases ho.2 with ⟨hv, _⟩ | ⟨g', cap, cur, hv, hbg, hb, h1, h2, h3, h4⟩
  · cases hv
  · injection hv with e1 e2 e3
    injection e1 with e1
    injection e1 with e1
    subst e1 e3
    exact ⟨by simp [hl], .inr ⟨g, c, _, rfl, hbg, heap_row enc _ hb, h1, h2, by simp [putCells, h3], by rw [Nat.mul_one, ← hl]; exact take_put enc cur ts (by omega)⟩⟩
end
/-- Byte strings that a sort of the row in block blk may compare. -/
abbrev Cmpd (w : World) (blk : Nat) : Type := {p : Part // RB w w.heap.size p.A p.n p.c p.l ∧ ∀ ad, p.A = some ad → ad.block ≠ blk}
instance (w : World) (blk : Nat) : Inhabited (Cmpd w blk) := ⟨⟨⟨none, 0, 0, []⟩, RB.nil_ _ _, fun _ h => by cases h⟩⟩
theorem RB.sorted {α : Type} [Inhabited α] (enc : α → Value) {w : World} {blk n : Nat} {os : Array Obj} (d : Array α) {p : Part} (h : RB w w.heap.size p.A p.n p.c p.l) (hne : ∀ ad, p.A = some ad → ad.block ≠ blk) : RB (sortWorld enc w blk 0 n d os) w.heap.size p.A p.n p.c p.l := by
  have hg := grown_row' (w := w) (g := blk) (n := n) (os := os) enc d
  refine ⟨⟨h.reads.1, fun hn => ?_⟩, h.cap, h.max⟩
  obtain ⟨ad, e, hlt, hc⟩ := h.reads.2 hn
  exact ⟨ad, e, hlt, fun j u hu => (World.cell?_of_block (hg.block _ (by rw [block_of_add]; exact hlt) (by rw [block_of_add]; exact fun e2 => hne ad e (by injection e2)))).trans (hc j u hu)⟩
def encP {w : World} {blk : Nat} (x : Cmpd w blk) : Value := x.1.v
theorem lays_bytes (w : World) (blk size : Nat) : CmpLays1 Tryz.prog 12 #[] (encP (w := w) (blk := blk)) (fun x y => cmpB x.1.l y.1.l) blk 0 size w := by
  intro m os dk _ x y
  have hx := RB.sorted (n := m) (os := os) (encP (w := w) (blk := blk)) dk x.2.1 x.2.2
  have hy := RB.sorted (n := m) (os := os) (encP (w := w) (blk := blk)) dk y.2.1 y.2.2
  refine (cmp_bytes x.1.A y.1.A x.1.n x.1.c y.1.n y.1.c x.1.l y.1.l _ hx hy).mono ?_
  rintro e w' ⟨rfl, rfl⟩
  exact ⟨rfl, 0, #[], by rw [grow_empty]; rfl⟩
theorem swo_bytes {α : Type} (f : α → List UInt8) : SWO (Go.Proofs.ltOf fun x y => cmpB (f x) (f y)) where
  irrefl x := by simp [ltOf, cmp_refl]
  trans x y z h1 h2 := by
    simp only [ltOf, decide_eq_true_eq] at *
    exact cmp_trans _ _ _ h1 h2
  ntrans x y z h1 h2 := by
    simp only [ltOf, decide_eq_false_iff_not] at *
    exact cmp_ntrans _ _ _ h1 h2
end Go.Proofs.YtkmieonfhcmimaaGreatDoor

/- slices.SortFunc's answer, in lists. No condition. -/
namespace Go.Proofs.YtkmieonfhcmimaaGreatDoor
open Go Go.RowKit Go.Sort
theorem perm_all {α : Type} [Inhabited α] {d d' : Array α} (h : PermIn 0 d.size d d') : d'.toList.Perm d.toList := by
  obtain ⟨hs, _, hp⟩ := h
  have e1 : d'.extract 0 d.size = d' := by rw [← hs]; simp
  have e2 : d.extract 0 d.size = d := by simp
  rwa [e1, e2] at hp
theorem sorted_all {α : Type} [Inhabited α] {lt : α → α → Bool} {d d' : Array α} (hs : d'.size = d.size) (h : SortedIn lt 0 d.size d') : d'.toList.Pairwise (fun x y => lt y x = false) := by
  rw [List.pairwise_iff_getElem]
  intro i j hi hj hij
  have hi' : i < d'.size := by simpa using hi
  have hj' : j < d'.size := by simpa using hj
  have := h i j (Nat.zero_le _) hij (by omega)
  rw [getElem!_pos d' i hi', getElem!_pos d' j hj'] at this
  simpa using this
/-- The parts of a row of byte strings, as its sort compares them. -/
def cmpds {w : World} {g : Nat} (ps : List Part) (h : ∀ p ∈ ps, RB w w.heap.size p.A p.n p.c p.l ∧ ∀ ad, p.A = some ad → ad.block ≠ g) : List (Cmpd w g) := ps.attach.map fun p => ⟨p.1, h p.1 p.2⟩
theorem cmpds_val {w : World} {g : Nat} (ps : List Part) (h : ∀ p ∈ ps, RB w w.heap.size p.A p.n p.c p.l ∧ ∀ ad, p.A = some ad → ad.block ≠ g) : (cmpds ps h).map (·.1) = ps := by
  unfold cmpds
  rw [List.map_map]
  exact (List.attach_map_val (l := ps) (f := id)).trans (List.map_id ps)
theorem cmpds_cells {w : World} {g : Nat} (ps : List Part) (h : ∀ p ∈ ps, RB w w.heap.size p.A p.n p.c p.l ∧ ∀ ad, p.A = some ad → ad.block ≠ g) : (cmpds ps h).map encP = partCells ps := by
  have := congrArg (List.map Part.v) (cmpds_val ps h)
  rw [List.map_map] at this
  exact this
/-- No byte string of a row lies in the row's own block. -/
theorem TBs.off {w : World} {ps : List Part} (h : TBs w ps) {base g c m : Nat} {xs : List Value} (ho : w.ownsRow base 32 1 (.slice (some ⟨g, 0, none⟩) m c) m xs) : ∀ p ∈ ps, RB w w.heap.size p.A p.n p.c p.l ∧ ∀ ad, p.A = some ad → ad.block ≠ g := fun p hp =>
  ⟨(h p hp).rb, fun ad e e2 => by
    obtain ⟨cs, fr, hc⟩ := (h p hp).ty ad e
    rcases ho.2 with ⟨hv, _⟩ | ⟨g', cap, cur, hv, _, hh, _⟩
    · cases hv
    · injection hv with e1
      injection e1 with e1
      injection e1 with e1
      subst e1
      rw [e2, hh] at hc
      injection hc with hc
      injection hc with _ ht
      cases ht⟩
/-- What the sort leaves: the same byte strings, rising. -/
theorem sorted_bytes {w : World} {base g c m n : Nat} {os : Array Obj} {ps : List Part} (ho : w.ownsRow base 32 1 (.slice (some ⟨g, 0, none⟩) m c) m (partCells ps)) (h : TBs w ps) (d' : Array (Cmpd w g))
    (hp : PermIn 0 (cmpds ps (h.off ho)).toArray.size (cmpds ps (h.off ho)).toArray d') (hs : SortedIn (ltOf fun x y => cmpB x.1.l y.1.l) 0 (cmpds ps (h.off ho)).toArray.size d') :
    ∃ qs : List Part, qs.Perm ps ∧ qs.Pairwise (fun x y => ¬ cmpB y.l x.l < 0) ∧ (sortWorld encP w g 0 n d' os).ownsRow base 32 1 (.slice (some ⟨g, 0, none⟩) m c) m (partCells qs) ∧ TBs (sortWorld encP w g 0 n d' os) qs ∧ w.grownBy (sortWorld encP w g 0 n d' os) (some g) := by
  have hperm := (perm_all hp).map (·.1)
  simp only [cmpds_val] at hperm
  have hlen : d'.toList.length = m := by
    have h1 := hperm.length_eq
    have h2 := ho.1
    rw [partCells_length] at h2
    simp only [List.length_map] at h1
    omega
  have hsort := sorted_all hp.1 hs
  have hg := grown_row' (w := w) (g := g) (n := n) (os := os) encP d'
  refine ⟨d'.toList.map (·.1), hperm, ?_, ?_, fun p hp' => ?_, hg⟩
  · rw [List.pairwise_map]
    exact hsort.imp (fun hxy => by simpa [ltOf] using hxy)
  · have := owns_sorted encP (n := n) (os := os) ho d'.toList hlen
    rw [Array.toArray_toList] at this
    have e : d'.toList.map encP = partCells (d'.toList.map (·.1)) := by simp [partCells, encP]
    rwa [e] at this
  · have hin := hperm.mem_iff.1 hp'
    exact (h p hin).kept hg (fun ad e e2 => ((h.off ho) p hin).2 ad e (by injection e2))
end Go.Proofs.YtkmieonfhcmimaaGreatDoor

/- Rows of peers sorted by their IDs: the closure's laying, and what the row owns behind the sort. No condition. -/
namespace Go.Proofs.YtkmieonfhcmimaaGreatDoor
open Go Go.RowKit Go.Sort
theorem owns_sorted_s (enc : Value → Value) (he : enc = id) {w : World} {base g c m n s : Nat} {e : TypeId} {os : Array Obj} {xs : List Value} (ho : w.ownsRow base e s (.slice (some ⟨g, 0, none⟩) m c) m xs) (ts : List Value) (hl : ts.length = m * s) : (sortWorld enc w g 0 n ts.toArray os).ownsRow base e s (.slice (some ⟨g, 0, none⟩) m c) m ts := by
  rcases ho.2 with ⟨hv, _⟩ | ⟨g', cap, cur, hv, hbg, hb, h1, h2, h3, h4⟩
  · cases hv
  · injection hv with e1 e2 e3
    injection e1 with e1
    injection e1 with e1
    subst e1 e3
    refine ⟨hl, .inr ⟨g, c, _, rfl, hbg, heap_row enc _ hb, h1, h2, by simp [putCells, h3], ?_⟩⟩
    have hle : ts.length ≤ cur.size := by rw [hl, h3]; exact Nat.mul_le_mul_right s h1
    have := take_put enc cur ts hle
    rw [hl] at this
    rw [this, he]; simp
/-- A peer in memory: its ID, its addresses, and what else is known of it. -/
structure Who (β : Type) where
  p : Part
  A : Option Addr
  n : Nat
  c : Nat
  x : β
/-- Peers that a sort of the row in block blk may compare. -/
abbrev CmpdI (w : World) (blk : Nat) (β : Type) : Type := {x : Who β // RB w w.heap.size x.p.A x.p.n x.p.c x.p.l ∧ ∀ ad, x.p.A = some ad → ad.block ≠ blk}
instance (w : World) (blk : Nat) (β : Type) [Inhabited β] : Inhabited (CmpdI w blk β) := ⟨⟨⟨⟨none, 0, 0, []⟩, none, 0, 0, default⟩, RB.nil_ _ _, fun _ h => by cases h⟩⟩
def Who.cells {β : Type} (x : Who β) : List Value := [x.p.v, .slice x.A x.n x.c]
def encI {w : World} {blk : Nat} {β : Type} (x : CmpdI w blk β) : List Value := x.1.cells
theorem lays_infos (w : World) (blk size : Nat) (β : Type) [Inhabited β] : CmpLays Tryz.prog 28 #[] (encI (w := w) (blk := blk) (β := β)) 2 (fun x y => cmpB x.1.p.l y.1.p.l) blk 0 size w := by
  intro m os dk _ x y
  have hg : w.grownBy (sortWorldK (encI (w := w) (blk := blk) (β := β)) 2 w blk 0 m dk os) (some blk) := grown_row' (w := w) (g := blk) (n := m) (os := os) id (flatK encI 2 dk)
  have hx := RB.sorted (n := m) (os := os) id (flatK (encI (w := w) (blk := blk) (β := β)) 2 dk) x.2.1 x.2.2
  have hy := RB.sorted (n := m) (os := os) id (flatK (encI (w := w) (blk := blk) (β := β)) 2 dk) y.2.1 y.2.2
  refine (cmp_infos x.1.p.A y.1.p.A x.1.p.n x.1.p.c y.1.p.n y.1.p.c x.1.p.l y.1.p.l x.1.A y.1.A x.1.n x.1.c y.1.n y.1.c _ (RB.more hx hg.size) (RB.more hy hg.size)).mono ?_
  rintro e w' ⟨rfl, q, os', rfl⟩
  exact ⟨rfl, q, os', rfl⟩
def whos {β : Type} {w : World} {g : Nat} (xs : List (Who β)) (h : ∀ x ∈ xs, RB w w.heap.size x.p.A x.p.n x.p.c x.p.l ∧ ∀ ad, x.p.A = some ad → ad.block ≠ g) : List (CmpdI w g β) := xs.attach.map fun x => ⟨x.1, h x.1 x.2⟩
theorem whos_val {β : Type} {w : World} {g : Nat} (xs : List (Who β)) (h : ∀ x ∈ xs, RB w w.heap.size x.p.A x.p.n x.p.c x.p.l ∧ ∀ ad, x.p.A = some ad → ad.block ≠ g) : (whos xs h).map (·.1) = xs := by
  unfold whos
  rw [List.map_map]
  exact (List.attach_map_val (l := xs) (f := id)).trans (List.map_id xs)
end Go.Proofs.YtkmieonfhcmimaaGreatDoor

/- A row of pairs of cells, flat. No condition. -/
namespace Go.Proofs.YtkmieonfhcmimaaGreatDoor
open Go Go.RowKit Go.Sort
theorem flat_get {α : Type} [Inhabited α] (enc : α → List Value) (h2 : ∀ x, (enc x).length = 2) : ∀ (ds : List α) (t : Nat), t < ds.length * 2 → (ds.flatMap enc)[t]? = (enc ds[t / 2]!)[t % 2]?
  | [], t, h => by simp at h
  | d :: ds, t, h => by
    rw [List.flatMap_cons]
    rcases Nat.lt_or_ge t 2 with h1 | h1
    · rw [List.getElem?_append_left (by rw [h2]; exact h1), Nat.div_eq_of_lt h1, Nat.mod_eq_of_lt h1]
      rfl
    · rw [List.getElem?_append_right (by rw [h2]; exact h1), h2, flat_get enc h2 ds (t - 2) (by simp at h; omega)]
      have e1 : t / 2 = (t - 2) / 2 + 1 := by omega
      have e2 : t % 2 = (t - 2) % 2 := by omega
      rw [e1, e2]
      rfl
theorem flat_len {α : Type} (enc : α → List Value) (h2 : ∀ x, (enc x).length = 2) (ds : List α) : (ds.flatMap enc).length = ds.length * 2 := by
  induction ds with
  | nil => rfl
  | cons d ds ih => rw [List.flatMap_cons, List.length_append, h2, ih, List.length_cons]; omega
theorem flat_list {α : Type} [Inhabited α] (enc : α → List Value) (h2 : ∀ x, (enc x).length = 2) (d : Array α) : flatK enc 2 d = (d.toList.flatMap enc).toArray := by
  apply Array.ext
  · rw [size_flatK]
    have := flat_len enc h2 d.toList
    simp only [Array.length_toList] at this
    rw [← this]; simp
  · intro i hi hi'
    rw [size_flatK] at hi
    have h1 := get_flatK enc 2 d i hi
    have h3 := flat_get enc h2 d.toList i (by simpa using hi)
    rw [getElem!_pos (flatK enc 2 d) i (by rw [size_flatK]; exact hi)] at h1
    rw [h1]
    have hlt : i % 2 < (enc d[i / 2]!).length := by rw [h2]; exact Nat.mod_lt _ (by decide)
    rw [getElem!_pos (enc d[i / 2]!) (i % 2) hlt]
    have hd : i / 2 < d.size := by omega
    have e : d.toList[i / 2]! = d[i / 2]! := by rw [getElem!_pos d (i / 2) hd, getElem!_pos d.toList (i / 2) (by simpa using hd)]; simp
    rw [e, List.getElem?_eq_getElem hlt] at h3
    have := (List.getElem?_eq_some_iff.1 h3).2
    simpa using this.symm
end Go.Proofs.YtkmieonfhcmimaaGreatDoor

/- slices.SortFunc at peers with the closure of impl.AddrInfos. Its laying (Tryz.sortI) is the shelf's. -/
namespace Go.Proofs.YtkmieonfhcmimaaGreatDoor
open Go Go.RowKit Go.Sort
theorem encI_len {w : World} {g : Nat} {β : Type} (x : CmpdI w g β) : (encI x).length = 2 := rfl
theorem whos_cells {β : Type} {w : World} {g : Nat} (xs : List (Who β)) (h : ∀ x ∈ xs, RB w w.heap.size x.p.A x.p.n x.p.c x.p.l ∧ ∀ ad, x.p.A = some ad → ad.block ≠ g) : (whos xs h).flatMap encI = xs.flatMap Who.cells := by
  have := congrArg (List.flatMap Who.cells) (whos_val xs h)
  rw [List.flatMap_map] at this
  exact this
theorem sort_infos {β : Type} [Inhabited β] (g m c base : Nat) (xs : List (Who β)) (w : World) (ho : w.ownsRow base 44 2 (.slice (some ⟨g, 0, none⟩) m c) m (xs.flatMap Who.cells)) (h : ∀ x ∈ xs, RB w w.heap.size x.p.A x.p.n x.p.c x.p.l ∧ ∀ ad, x.p.A = some ad → ad.block ≠ g) (hm : xs.length = m) (hm2 : m ≤ 1000000) :
    Calls Tryz.prog 27 #[.slice (some ⟨g, 0, none⟩) m c, .func (Fn.func 28) #[] #[]] w fun e w' =>
      e = .returned (.tuple #[]) ∧ ∃ ys : List (Who β), ys.Perm xs ∧ ys.Pairwise (fun x y => ¬ cmpB y.p.l x.p.l < 0) ∧ w'.ownsRow base 44 2 (.slice (some ⟨g, 0, none⟩) m c) m (ys.flatMap Who.cells) ∧ w.grownBy w' (some g) := by
  have eg : ∀ args w, (callFunc 28 args).run Tryz.prog w = .ok (.enter 28 args) w := enters_of Tryz.func28 (by kernel_rfl) rfl
  obtain ⟨cur, hb, hl⟩ : ∃ cur, w.heap[g]? = some (.cells cur 44 (0, 0)) ∧ cur.toList.take (m * 2) = xs.flatMap Who.cells := by
    rcases ho.2 with ⟨hv, _⟩ | ⟨g', cap, cur, hv, _, hh, _, _, _, h4⟩
    · cases hv
    · injection hv with e1
      injection e1 with e1
      injection e1 with e1
      subst e1
      exact ⟨cur, hh, h4⟩
  have hcl : (whos xs h).length = m := by
    have h1 := congrArg List.length (whos_val xs h)
    rw [List.length_map] at h1
    omega
  have hH : HoldsK (encI (w := w) (blk := g) (β := β)) 2 w g 0 (whos xs h).toArray := by
    unfold HoldsK
    rw [flat_list encI encI_len, List.toList_toArray]
    exact holds_row id hb (by rw [flat_len encI encI_len, hcl, hl, whos_cells, List.map_id])
  have hcon := AnyQ.slices_SortFunc Tryz.sortI 2 Tryz.isAgg44 Tryz.sizeOf44 (encI (w := w) (blk := g) (β := β)) encI_len (fun x v hv => by simp [encI, Who.cells] at hv; rcases hv with rfl | rfl <;> rfl) (fun x y => cmpB x.1.p.l y.1.p.l) (swo_bytes _) 28 #[] g 0 c (whos xs h).toArray w eg (lays_infos w g _ β) hH (Array.getElem?_eq_some_iff.1 hb).1 (by simp [hcl]; omega)
  change Calls Tryz.prog 27 _ _ _ at hcon
  rw [List.size_toArray, hcl] at hcon
  refine hcon.mono ?_
  rintro e w' ⟨rfl, d', n, os, hp, hs, rfl⟩
  have hsz : (whos xs h).toArray.size = m := by rw [List.size_toArray, hcl]
  have hp2 : PermIn 0 (whos xs h).toArray.size (whos xs h).toArray d' := Eq.mpr (congrArg (fun k => PermIn 0 k (whos xs h).toArray d') hsz) hp
  have hs2 : SortedIn (ltOf fun x y : CmpdI w g β => cmpB x.1.p.l y.1.p.l) 0 (whos xs h).toArray.size d' := Eq.mpr (congrArg (fun k => SortedIn (ltOf fun x y : CmpdI w g β => cmpB x.1.p.l y.1.p.l) 0 k d') hsz) hs
  have hperm := (perm_all hp2).map (·.1)
  simp only [whos_val] at hperm
  have hlen : d'.toList.length = m := by
    have h1 := hperm.length_eq
    simp only [List.length_map] at h1
    omega
  have hsort := sorted_all hp2.1 hs2
  refine ⟨rfl, d'.toList.map (·.1), hperm, ?_, ?_, grown_row' (w := w) (g := g) (n := n) (os := os) id (flatK encI 2 d')⟩
  · rw [List.pairwise_map]
    exact hsort.imp (fun hxy => by simpa [ltOf] using hxy)
  · have := owns_sorted_s id rfl (n := n) (os := os) ho (d'.toList.flatMap encI) (by rw [flat_len encI encI_len, hlen])
    rw [← flat_list encI encI_len] at this
    rw [List.flatMap_map]
    exact this
end Go.Proofs.YtkmieonfhcmimaaGreatDoor

/- Addresses in memory: what a row of them holds. No condition. -/
namespace Go.Proofs.YtkmieonfhcmimaaGreatDoor
open Go.RowKit
set_option maxRecDepth 100000
/-- An address in memory: its block, its components. -/
structure Tr where
  g : Nat
  c : Nat
  cs : List (Hop × Nat)
def Tr.v (t : Tr) : Value := .slice (some ⟨t.g, 0, none⟩) t.cs.length t.c
def trCells (ts : List Tr) : List Value := ts.map Tr.v
theorem trCells_length (ts : List Tr) : (trCells ts).length = ts.length := by simp [trCells]
theorem trCells_snoc (ts : List Tr) (t : Tr) : trCells (ts ++ [t]) = trCells ts ++ [t.v] := by simp [trCells]
theorem trCells_one (ts : List Tr) : ∀ u ∈ trCells ts, u.oneCell' = true := by
  intro u hu
  simp only [trCells, List.mem_map] at hu
  obtain ⟨t, _, rfl⟩ := hu
  rfl
structure TrOk (w : World) (t : Tr) : Prop where
  ms : MS w t.g t.cs.length t.c t.cs
  pr : PR w t.cs
  pos : 0 < t.cs.length
theorem TrOk.below {w w' : World} {t : Tr} (h : TrOk w t) (hb : Below w.heap.size w w') : TrOk w' t := ⟨h.ms.below hb, h.pr.below hb, h.pos⟩
theorem TrOk.first {w : World} {t : Tr} (h : TrOk w t) : ∃ s, w.cell? ⟨t.g, 0, none⟩ = some (.string s) := by
  obtain ⟨g, c, cs⟩ := t
  rcases cs with _ | ⟨x, cs⟩
  · exact absurd h.pos (by simp)
  · exact ⟨_, h.ms.cell 0 (.string ⟨x.1.bytes.toArray⟩) rfl⟩
theorem TrOk.kept {w w' : World} {t : Tr} {row : Option Nat} (h : TrOk w t) (hg : w.grownBy w' row) (h1 : some t.g ≠ row) (h2 : ∀ x ∈ t.cs, some x.2 ≠ row) : TrOk w' t := by
  refine ⟨⟨h.ms.len, fun j u hu => hg.cell (h.ms.cell j u hu) h1, Nat.lt_of_lt_of_le h.ms.lt hg.size, h.ms.cap, h.ms.max⟩, fun x hx => ?_, h.pos⟩
  obtain ⟨g, hb⟩ := h.pr x hx
  exact ⟨g, hb.grown hg (h2 x hx)⟩
/-- A row of addresses is no address's own block. -/
theorem TrOk.off_row {w : World} {t : Tr} (h : TrOk w t) {base : Nat} {v : Value} {ts : List Tr} (ho : w.ownsRow base 56 1 v ts.length (trCells ts)) (hn : ts = [] → v.ownBlock = none) : some t.g ≠ v.ownBlock ∧ ∀ x ∈ t.cs, some x.2 ≠ v.ownBlock := by
  refine ⟨fun e => ?_, fun x hx e => ?_⟩
  · rcases ts with _ | ⟨t0, ts⟩
    · rw [hn rfl] at e; cases e
    · obtain ⟨s, hs⟩ := h.first
      have := ho.cells e.symm 0 t0.v rfl
      rw [show (⟨t.g, 0, none⟩ : Addr).add 0 = ⟨t.g, 0, none⟩ from rfl, hs] at this
      injection this with this
      cases this
  · obtain ⟨g, hb⟩ := h.pr x hx
    exact own_blk_ne ho hb (by decide) e.symm
theorem TrOk.off_map {w : World} {t : Tr} (h : TrOk w t) {b : Nat} {es : Array MapEntry} {clock : Nat} (hb : w.heap[b]? = some (.map es clock)) : some t.g ≠ some b ∧ ∀ x ∈ t.cs, some x.2 ≠ some b := by
  refine ⟨fun e => ?_, fun x hx e => ?_⟩
  · obtain ⟨s, hs⟩ := h.first
    injection e with e
    subst e
    simp [World.cell?, hb] at hs
  · obtain ⟨g, hk⟩ := h.pr x hx
    injection e with e
    subst e
    unfold Blk at hk
    rw [hb] at hk
    cases hk
theorem mad_info : (Tryz.prog.info? 56).map (fun i => (i.zero, i.size, i.bytes)) = some (some (.slice none 0 0), 1, 24) := by kernel_rfl
/-- What addresses are read of. -/
structure AOk (K : Nat) (hs : List Hop) : Prop where
  ne : hs ≠ []
  le : hs.length ≤ 100
  ok : ∀ x ∈ hs, HopOk K x.kd x.l
theorem TrOk.grown_row {w w' : World} {t : Tr} (h : TrOk w t) {base : Nat} {v : Value} {ts : List Tr} (ho : w.ownsRow base 56 1 v ts.length (trCells ts)) (hn : ts = [] → v.ownBlock = none) (hg : w.grownBy w' v.ownBlock) : TrOk w' t :=
  h.kept hg (h.off_row ho hn).1 (h.off_row ho hn).2
theorem own_set {w : World} {base : Nat} {e : TypeId} {size n : Nat} {v : Value} {xs : List Value} (h : w.ownsRow base e size v n xs) {g : Nat} {t : TypeId} {cs : Array Value} (hb : Blk w g t cs) (hne : e ≠ t) (i : Nat) (u : Value) : (w.setCell ⟨g, i, none⟩ u).ownsRow base e size v n xs :=
  h.kept (only_setCell (World.grownBy.refl w _) (.inl rfl) u) (.inr (own_blk_ne h hb hne))
end Go.Proofs.YtkmieonfhcmimaaGreatDoor
