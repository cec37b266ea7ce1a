/- Words for memory, after the guide's own blocks to copy (a slice that reads as a list; a block known whole; append with whatever source), and small lemmas. No condition. -/
import Derived.WalkKit
import Derived.Below
import Derived.Laws.OwnMore
import Derived.Deep.AppendLies
import Derived.Deep.Draws
import Derived.Laws.Rows
import Derived.Maps.AppendAt
import Derived.RegionTactic
import Derived.OwnWalk
import Derived.Deep.QuietTactic
import Derived.Deep.OwnRows
import Derived.Laws.AppendOwn
import Derived.Laws.MakeOwn
import Derived.Laws.Entries
import Derived.ChangeSame
import Derived.Deep.Slices
import Derived.Deep.Fields
import Derived.Laws.BytesArg
import Derived.Lib.ConvBytes
import Derived.Lib.UnsafeStr
import Derived.Lib.Hide
import Derived.Test.YtghddiboggdhcaaGreatDoorProg
import Derived.Lib.SliceRun
import Derived.WalkSpells
import Derived.Handy
set_option maxRecDepth 100000
set_option maxHeartbeats 1000000
namespace Go.Proofs.YtghddiboggdhcaaGreatDoor
open Go.RowKit
theorem block_of_add (a : Addr) (n : Nat) : (a.add n).block = a.block := by unfold Addr.add; split <;> rfl
theorem add_of_add (a : Addr) (i j : Nat) : (a.add i).add j = a.add (i + j) := by
  unfold Addr.add
  by_cases hi : i = 0 <;> by_cases hj : j = 0 <;> simp [hi, hj, Nat.add_assoc]
def Reads (w : World) (B size : Nat) (A : Option Addr) (n : Nat) (xs : List Value) : Prop :=
  xs.length = n * size ∧ (0 < n → ∃ ad, A = some ad ∧ ad.block < B ∧ ∀ j u, xs[j]? = some u → w.cell? (ad.add j) = some u)
section
variable {w w' : World} {B B' size n : Nat} {A : Option Addr} {xs : List Value}
theorem Reads.at_ {k : Nat} (h : Reads w B 1 A n xs) (hk : k < n) : ∃ ad u, A = some ad ∧ ad.block < B ∧ xs[k]? = some u ∧ w.cell? (ad.add k) = some u := by
  obtain ⟨ad, e, hb, hc⟩ := h.2 (by omega)
  have hl : k < xs.length := by have := h.1; omega
  exact ⟨ad, xs[k], e, hb, List.getElem?_eq_getElem hl, hc k _ (List.getElem?_eq_getElem hl)⟩
theorem Reads.keep (h : Reads w B size A n xs) (hk : ∀ p : Addr, p.block < B → w'.cell? p = w.cell? p) : Reads w' B size A n xs :=
  ⟨h.1, fun hn => by
    obtain ⟨ad, e, hb, hc⟩ := h.2 hn
    exact ⟨ad, e, hb, fun j u hu => (hk _ (by rw [block_of_add]; exact hb)).trans (hc j u hu)⟩⟩
theorem Reads.more (h : Reads w B size A n xs) (hB : B ≤ B') : Reads w B' size A n xs :=
  ⟨h.1, fun hn => by
    obtain ⟨ad, e, hb, hc⟩ := h.2 hn
    exact ⟨ad, e, by omega, hc⟩⟩
theorem Reads.below (h : Reads w B size A n xs) (hb : Below B w w') : Reads w' B size A n xs := h.keep fun _ hp => hb.cell hp
theorem Reads.drew (h : Reads w B size A n xs) : Reads w.drew B size A n xs := h
theorem Reads.drewN (h : Reads w B size A n xs) (k : Nat) : Reads (w.drewN k) B size A n xs := h
theorem Reads.alloc (h : Reads w B size A n xs) (hB : B ≤ w.heap.size) (o : Obj) : Reads (w.alloc o) B size A n xs := h.keep fun p hp => World.cell?_alloc_lt w o p (by omega)
theorem Reads.setCell (h : Reads w B size A n xs) {p : Addr} (hB : B ≤ p.block) (u : Value) : Reads (w.setCell p u) B size A n xs :=
  h.keep fun q hq => World.cell?_setCell_other w p q u (fun e => by subst e; omega)
theorem Reads.grown (h : Reads w B size A n xs) {row : Option Nat} (hg : w.grownBy w' row) (hB : B ≤ w.heap.size) (hr : ∀ g, row = some g → B ≤ g) : Reads w' B size A n xs :=
  h.keep fun p hp => World.cell?_of_block (hg.block p.block (by omega) (fun e => by have := hr _ e.symm; omega))
theorem Reads.cut (h : Reads w B size A n xs) {k cap : Nat} (hk : k ≤ n) (hc : n ≤ cap) :
    Reads w B size (if cap = k then A else A.map (·.add (k * size))) (n - k) (xs.drop (k * size)) := by
  refine ⟨by rw [List.length_drop, h.1, Nat.sub_mul], fun hn => ?_⟩
  obtain ⟨ad, rfl, hb, hcell⟩ := h.2 (by omega)
  rw [if_neg (by omega)]
  refine ⟨ad.add (k * size), rfl, by rw [block_of_add]; exact hb, fun j u hu => ?_⟩
  rw [add_of_add]
  exact hcell _ u (by rw [← hu, List.getElem?_drop])
theorem Reads.of_own {base : Nat} {e : TypeId} {c : Nat} (h : w.ownsRow base e size (.slice A n c) n xs) : Reads w w.heap.size size A n xs := by
  refine ⟨h.1, fun hn => ?_⟩
  obtain ⟨g, cap, hv, _, hlt⟩ := h.form hn
  have hA : A = some ⟨g, 0, none⟩ := by injection hv
  subst hA
  exact ⟨_, rfl, hlt, h.cells (g := g) rfl⟩
end
def Blk (w : World) (g : Nat) (t : TypeId) (cs : Array Value) : Prop := w.heap[g]? = some (.cells cs t (0, 0))
section
variable {w w' : World} {g : Nat} {t : TypeId} {cs : Array Value}
theorem Blk.lt (h : Blk w g t cs) : g < w.heap.size := by
  rcases Nat.lt_or_ge g w.heap.size with hlt | hge
  · exact hlt
  · unfold Blk at h; rw [Array.getElem?_eq_none hge] at h; cases h
theorem Blk.cell (h : Blk w g t cs) (i : Nat) : w.cell? ⟨g, i, none⟩ = cs[i]? := cell_of_row w g i cs t (0, 0) h
theorem Blk.frozen (h : Blk w g t cs) (i : Nat) : w.frozen? ⟨g, i, none⟩ = false := by
  unfold Blk at h
  simp [World.frozen?, h]
theorem Blk.new (w : World) (t : TypeId) (cs : Array Value) : Blk (w.alloc (.cells cs t)) w.heap.size t cs := heap_alloc_new w _
theorem Blk.drew (h : Blk w g t cs) : Blk w.drew g t cs := h
theorem Blk.drewN (h : Blk w g t cs) (n : Nat) : Blk (w.drewN n) g t cs := h
theorem Blk.alloc (h : Blk w g t cs) (o : Obj) : Blk (w.alloc o) g t cs := (Below.heap_alloc w o g h.lt).trans h
theorem Blk.set_ (h : Blk w g t cs) (i : Nat) (u : Value) : Blk (w.setCell ⟨g, i, none⟩ u) g t (cs.setIfInBounds i u) := by
  unfold Blk at h ⊢
  simp [World.setCell, Array.getElem?_modify, h]
theorem Blk.far (h : Blk w g t cs) {p : Addr} (hp : g ≠ p.block) (u : Value) : Blk (w.setCell p u) g t cs := (Below.heap_setCell w p u g hp).trans h
theorem Blk.below {B : Nat} (h : Blk w g t cs) (hb : Below B w w') (hg : g < B) : Blk w' g t cs := (hb.block g hg).trans h
theorem Blk.grown {row : Option Nat} (h : Blk w g t cs) (hb : w.grownBy w' row) (hg : some g ≠ row) : Blk w' g t cs := (hb.block g h.lt hg).trans h
theorem Blk.ne_ {g' : Nat} {t' : TypeId} {cs' : Array Value} (h : Blk w g t cs) (h' : Blk w g' t' cs') (hne : t ≠ t') : g ≠ g' := by
  rintro rfl
  unfold Blk at h h'
  rw [h] at h'
  injection h' with h'
  injection h' with _ ht
  exact hne ht
theorem own_blk_ne {base : Nat} {e : TypeId} {size n : Nat} {v : Value} {xs : List Value} (h : w.ownsRow base e size v n xs) (hg : Blk w g t cs) (hne : e ≠ t) : v.ownBlock ≠ some g := by
  rcases h.2 with ⟨rfl, _⟩ | ⟨g', cap, cur, rfl, _, hh, _⟩
  · simp [Value.ownBlock]
  · intro he
    have : g' = g := by simpa [Value.ownBlock] using he
    subst this
    exact Blk.ne_ (t := e) hh hg hne rfl
end
section
variable {P : Program} (w : World)
theorem run_append_of_nil (base : Nat) (t ty e : TypeId) (i : TypeInfo) (size : Nat) (ht : P.underlying t = some (.slice e)) (hi : P.info? e = some i)
    (v : Value) (n : Nat) (xs : List Value) (hown : w.ownsRow base e size v n xs) (c : Nat) : (Builtin.append_ #[t, t] ty #[v, .slice none 0 c]).run P w = .ok v w := by
  rcases hown.2 with ⟨rfl, rfl⟩ | ⟨g, cap, cur, rfl, _, _, hnc, _⟩
  · simp [Builtin.append_, run_underlying ht, sizeOf, typeInfo, hi, Builtin.lenOf, Builtin.firstCells]
  · simp [Builtin.append_, run_underlying ht, sizeOf, typeInfo, hi, Builtin.lenOf, Builtin.firstCells, hnc, storeCells]
theorem run_append_any (base : Nat) (t ty e : TypeId) (i : TypeInfo) (z : Value) (size bytes : Nat) (ht : P.underlying t = some (.slice e)) (hi : P.info? e = some i) (hz : i.zero = some z)
    (hsize : i.size = size) (hby : i.bytes = bytes) (hzs : z.cells.size = size) (hsz : 0 < size)
    (v : Value) (n : Nat) (xs : List Value) (hown : w.ownsRow base e size v n xs)
    (B : Nat) (A : Option Addr) (m c : Nat) (news : List Value) (hr : Reads w B size A m news) (h1 : ∀ u ∈ news, u.oneCell' = true)
    (h63 : n + m ≤ maxLen) (hbytes : (n + m) * bytes ≤ 140737488355328) (hbase : base ≤ w.heap.size) :
    ∃ v' w', (Builtin.append_ #[t, t] ty #[v, .slice A m c]).run P w = .ok v' w' ∧ w'.ownsRow base e size v' (n + m) (xs ++ news) ∧ w.grownBy w' v.ownBlock ∧
      (v'.ownBlock = v.ownBlock ∨ v'.ownBlock = some w.heap.size) := by
  rcases A with _ | ad
  · have hm : m = 0 := by
      rcases Nat.eq_zero_or_pos m with h0 | h0
      · exact h0
      · obtain ⟨ad, h, _⟩ := hr.2 h0
        cases h
    subst hm
    have hn : news = [] := List.eq_nil_of_length_eq_zero (by simpa using hr.1)
    subst hn
    exact ⟨v, w, run_append_of_nil w base t ty e i size ht hi v n xs hown c, by simpa using hown, World.grownBy.refl w _, .inl rfl⟩
  · have hcells : ∀ j u, news[j]? = some u → w.cell? (ad.add j) = some u := by
      intro j u hu
      rcases Nat.eq_zero_or_pos m with h0 | h0
      · subst h0
        have hn : news = [] := List.eq_nil_of_length_eq_zero (by simpa using hr.1)
        subst hn
        simp at hu
      · obtain ⟨ad', h, _, hc⟩ := hr.2 h0
        injection h with h
        subst h
        exact hc j u hu
    obtain ⟨v', w', hrun, h2, h3, _, h5⟩ := run_append_own_at (P := P) w base t ty e i z size bytes ht hi hz hsize hby hzs hsz v n xs hown ad m c news hr.1 hcells h1 h63 hbytes hbase
    exact ⟨v', w', hrun, h2, h3, h5⟩
theorem wp_append_any {o : Oper} {a : Act} {K : Act → World → Prop} {Q : Exit → Act → World → Prop} (s x : Operand) (t : TypeId)
    (ho : o.op = .call { callee := .builtin .append, args := #[s, x], argTypes := #[t, t] })
    (base : Nat) (e : TypeId) (i : TypeInfo) (z : Value) (size bytes : Nat) (ht : P.underlying t = some (.slice e)) (hi : P.info? e = some i) (hz : i.zero = some z)
    (hsize : i.size = size) (hby : i.bytes = bytes) (hzs : z.cells.size = size) (hsz : 0 < size)
    (v : Value) (n : Nat) (xs : List Value) (hs : a.eval s = v) (hown : w.ownsRow base e size v n xs)
    (B : Nat) (A : Option Addr) (m c : Nat) (news : List Value) (hx : a.eval x = .slice A m c) (hr : Reads w B size A m news) (h1 : ∀ u ∈ news, u.oneCell' = true)
    (h63 : n + m ≤ maxLen) (hbytes : (n + m) * bytes ≤ 140737488355328) (hbase : base ≤ w.heap.size)
    (h : ∀ v' w', w'.ownsRow base e size v' (n + m) (xs ++ news) → w.grownBy w' v.ownBlock → (v'.ownBlock = v.ownBlock ∨ v'.ownBlock = some w.heap.size) → K (a.put o.dst v') w') : o.wp P a w K Q := by
  obtain ⟨v', w', hrun, h2, h3, h4⟩ := run_append_any (P := P) w base t o.type e i z size bytes ht hi hz hsize hby hzs hsz v n xs hown B A m c news hr h1 h63 hbytes hbase
  unfold Oper.wp execOp
  simp only [ho, resolve, invoke, builtin, Sem.run_bind, Sem.run_pure, Result.andThen_ok, List.map_toArray, List.map_cons, List.map_nil, hs, hx, hrun]
  exact h v' w' h2 h3 h4
theorem wpList_append_any {ops : Array Oper} {rest : List Oper} {o : Oper} {a : Act} {Q : Exit → Act → World → Prop} (hgd : o.guard = none) (s x : Operand) (t : TypeId)
    (ho : o.op = .call { callee := .builtin .append, args := #[s, x], argTypes := #[t, t] })
    (base : Nat) (e : TypeId) (i : TypeInfo) (z : Value) (size bytes : Nat) (ht : P.underlying t = some (.slice e)) (hi : P.info? e = some i) (hz : i.zero = some z)
    (hsize : i.size = size) (hby : i.bytes = bytes) (hzs : z.cells.size = size) (hsz : 0 < size)
    (v : Value) (n : Nat) (xs : List Value) (hs : a.eval s = v) (hown : w.ownsRow base e size v n xs)
    (B : Nat) (A : Option Addr) (m c : Nat) (news : List Value) (hx : a.eval x = .slice A m c) (hr : Reads w B size A m news) (h1 : ∀ u ∈ news, u.oneCell' = true)
    (h63 : n + m ≤ maxLen) (hbytes : (n + m) * bytes ≤ 140737488355328) (hbase : base ≤ w.heap.size)
    (h : ∀ v' w', w'.ownsRow base e size v' (n + m) (xs ++ news) → w.grownBy w' v.ownBlock → (v'.ownBlock = v.ownBlock ∨ v'.ownBlock = some w.heap.size) → wpList P ops Q rest (a.put o.dst v') w') : wpList P ops Q (o :: rest) a w :=
  wpList_plain hgd fun _ hK => wp_append_any w s x t ho base e i z size bytes ht hi hz hsize hby hzs hsz v n xs hs hown B A m c news hx hr h1 h63 hbytes hbase fun v' w' h2 h3 h4 => hK _ _ (h v' w' h2 h3 h4)
theorem step_append_any {ops : Array Oper} {o : Oper} {a : Act} {K : Act → World → Prop} {Q : Exit → Act → World → Prop} {E : Prop} (hgd : o.guard = none) (s x : Operand) (t : TypeId)
    (ho : o.op = .call { callee := .builtin .append, args := #[s, x], argTypes := #[t, t] })
    (base : Nat) (e : TypeId) (i : TypeInfo) (z : Value) (size bytes : Nat) (ht : P.underlying t = some (.slice e)) (hi : P.info? e = some i) (hz : i.zero = some z)
    (hsize : i.size = size) (hby : i.bytes = bytes) (hzs : z.cells.size = size) (hsz : 0 < size)
    (v : Value) (n : Nat) (xs : List Value) (hs : a.eval s = v) (hown : w.ownsRow base e size v n xs)
    (B : Nat) (A : Option Addr) (m c : Nat) (news : List Value) (hx : a.eval x = .slice A m c) (hr : Reads w B size A m news) (h1 : ∀ u ∈ news, u.oneCell' = true)
    (h63 : n + m ≤ maxLen) (hbytes : (n + m) * bytes ≤ 140737488355328) (hbase : base ≤ w.heap.size)
    (h : ∀ v' w', w'.ownsRow base e size v' (n + m) (xs ++ news) → w.grownBy w' v.ownBlock → (v'.ownBlock = v.ownBlock ∨ v'.ownBlock = some w.heap.size) → K (a.put o.dst v') w') :
    if Region.wanted o (yielded ops a.tmps) = true then Oper.wp P o a w K Q else E := by
  have hw : Region.wanted o (yielded ops a.tmps) = true := by simp [Region.wanted, hgd]
  rw [if_pos hw]
  exact wp_append_any w s x t ho base e i z size bytes ht hi hz hsize hby hzs hsz v n xs hs hown B A m c news hx hr h1 h63 hbytes hbase h
end
theorem quiet_add {P : Program} {f : FuncId} {args : Array Value} {w : World} {a n : Nat} {v : Value}
    (h : Calls P f args (w.drewN (a + n)) fun e w' => e = .returned v ∧ ∃ m, w' = (w.drewN (a + n)).drewN m) :
    Calls P f args (w.drewN (a + n)) fun e w'' => e = .returned v ∧ ∃ m, w'' = w.drewN (a + m) :=
  h.mono fun _ _ ⟨he, m, hm⟩ => ⟨he, n + m, by rw [hm, World.drewN_drewN, Nat.add_assoc]⟩
theorem results_tmp4 {fn : Func} {t u v x : Tmp} (h : fn.results = #[.tmp t, .tmp u, .tmp v, .tmp x]) (tmps : Array Value) (P : Program) (w : World) :
    (results fn tmps).run P w = .ok (.tuple #[tmps.getD t undef, tmps.getD u undef, tmps.getD v undef, tmps.getD x undef]) w := by simp [results, h]
theorem below_drewN {B : Nat} {a w : World} (h : Below B a w) (n : Nat) : Below B a (w.drewN n) := ⟨h.os, h.tape, h.output, h.size, h.block⟩
theorem only_setCell {a w : World} {g : Nat} (h : a.grownBy w (some g)) {p : Addr} (hp : p.block = g ∨ a.heap.size ≤ p.block) (u : Value) : a.grownBy (w.setCell p u) (some g) :=
  ⟨h.os, h.tape, h.output, by simpa [World.setCell] using h.size, fun i hi hne => (Below.heap_setCell w p u i (by
    rintro rfl
    rcases hp with hp | hp
    · exact hne (by rw [hp])
    · omega)).trans (h.block i hi hne)⟩
theorem only_of_below {a w : World} (h : Below a.heap.size a w) (row : Option Nat) : a.grownBy w row := ⟨h.os, h.tape, h.output, h.size, fun i hi _ => h.block i hi⟩
theorem run_make_rowN {P : Program} (t e : TypeId) (i : TypeInfo) (z : Value) (ht : P.underlying t = some (.slice e)) (hi : P.info? e = some i) (hz : i.zero = some z)
    (kl kc : IntKind) (n c : Nat) (hnc : n ≤ c) (hbytes : i.bytes * c ≤ 281474976710656) (h63 : c ≤ 9223372036854775807) (w : World) :
    (Instr.makeSlice t (.int kl (n : Int)) (.int kc (c : Int))).run P w = .ok (.slice (some ⟨w.heap.size, 0, none⟩) n c) (w.alloc (.cells (madeCells z.cells (c * i.size)) e)) := by
  have hb : (i.bytes : Int) * (c : Int) ≤ 281474976710656 := by
    have h : ((i.bytes * c : Nat) : Int) ≤ 281474976710656 := by omega
    rwa [Int.natCast_mul] at h
  have hr := run_make (P := P) w t e i z ht hi hz kl kc n c (by omega) (by omega) hb (by omega)
  simp only [Int.toNat_natCast] at hr
  exact hr
section
open Go.RowKit Go.WideShapes Go.ChangeShapes
section
variable {H : Type} {enc : TypeId × Value → H} {P : Program}
theorem post_of_below {f : Func} {s : ChangeSpec} {apart fresh handsOn again : Bool} {W W' : World} {args : Array Value} {v : Value} {ds gs : List (DataW H)} {before pa pv : List MemPlace}
    (hW : DataW.Whole enc P f.params.toList s.vars apart W args.toList ds gs before)
    (hres : ∀ (b : Nat) (sp : Nat → Bool) (hd : Bool), DataW.TrodAll enc P W' b sp hd f.resultTypes.toList (v.resultList f.resultTypes.size) (s.fn H (ds ++ gs)).results [])
    (hargs : ∀ sp : Nat → Bool, (∀ p ∈ before, sp p.block = true) → DataW.TrodAll enc P W' 0 sp true f.params.toList args.toList (s.fn H (ds ++ gs)).args pa)
    (hvars : ∀ sp : Nat → Bool, (∀ p ∈ before, sp p.block = true) → DataW.TrodVars enc P W' sp s.vars (s.fn H (ds ++ gs)).vars pv)
    (hps : before = pa ++ pv) (hb : Below W.heap.size W W')
    (hok : ∀ (j : Nat) (t : TypeId) (r : Value), f.resultTypes[j]? = some t → (v.resultList f.resultTypes.size)[j]? = some r → Value.okWide P W' .any 0 t r) :
    s.post enc P f apart fresh handsOn again W args v W' := by
  have hlt : ∀ p ∈ before, p.block < W.heap.size := fun p hp => hW.lt p hp
  have hold : ∀ p ∈ before, (fun b => decide (b < W.heap.size)) p.block = true := fun p hp => by simpa using hlt p hp
  refine ⟨ds, gs, before, [], pa, pv, hW, hres _ _ _, hargs _ hold, hvars _ hold, World.keptBut_mono (fun p hp => ⟨hp, ?_⟩) (hb.frame (· ∈ before)), fun _ => ?_⟩
  · rw [hps, List.mem_append] at hp
    exact Or.inr hp
  · obtain ⟨_, _, _, _, _, hz, hn⟩ := hW
    refine ⟨hok, _, _, ([] ++ pa) ++ pv, ⟨[] ++ pa, pv, trodAll_append (hargs _ (fun _ _ => rfl)) (hres _ _ _), hvars _ (fun _ _ => rfl), rfl, ?_, ?_⟩, ?_⟩
    · intro b off hp
      have hin : MemPlace.cell b off ∈ before := by rw [hps]; simpa using hp
      rw [hb.frozen (hlt _ hin)]
      exact hz b off hin
    · intro ha
      have := hn ha
      rw [hps] at this
      simpa using this
    · intro p hp _
      rw [hps]
      simpa using hp
end
end
section
open Go.ChangeShapes Go.WideShapes Go.Deep
section
variable {H : Type} {enc : TypeId × Value → H} {P : Program} {w : World} {base : Nat} {spare : Nat → Bool} {held : Bool}
end
end
end Go.Proofs.YtghddiboggdhcaaGreatDoor
/- Bytes in memory: a slice that reads as a list of bytes, and what stays of it. No condition. -/
namespace Go.Proofs.YtghddiboggdhcaaGreatDoor
open Go.RowKit
def bv (l : List UInt8) : List Value := l.map fun b => Value.int .u8 b.toNat
theorem bv_length (l : List UInt8) : (bv l).length = l.length := by simp [bv]
theorem bv_append (a b : List UInt8) : bv (a ++ b) = bv a ++ bv b := by simp [bv]
theorem bv_drop (l : List UInt8) (n : Nat) : (bv l).drop n = bv (l.drop n) := by simp [bv]
theorem bv_take (l : List UInt8) (n : Nat) : (bv l).take n = bv (l.take n) := by simp [bv]
theorem bv_get (l : List UInt8) (k : Nat) (h : k < l.length) : (bv l)[k]? = some (.int .u8 (l[k]).toNat) := by simp [bv, h]
theorem bv_one (l : List UInt8) : ∀ u ∈ bv l, u.oneCell' = true := by
  intro u hu
  simp only [bv, List.mem_map] at hu
  obtain ⟨b, _, rfl⟩ := hu
  rfl
section
variable {w w' : World} {B size n : Nat} {A : Option Addr} {xs : List Value}
theorem Reads.next (h : Reads w w.heap.size size A n xs) (hb : Below w.heap.size w w') : Reads w' w'.heap.size size A n xs := (h.below hb).more hb.size
theorem Reads.take (h : Reads w B size A n xs) {k : Nat} (hk : k ≤ n) : Reads w B size A k (xs.take (k * size)) := by
  refine ⟨by rw [List.length_take, h.1]; exact Nat.min_eq_left (Nat.mul_le_mul_right _ hk), fun hn => ?_⟩
  obtain ⟨ad, e, hb, hc⟩ := h.2 (by omega)
  exact ⟨ad, e, hb, fun j u hu => hc j u (by
    rw [List.getElem?_take] at hu
    split at hu
    · exact hu
    · cases hu)⟩
end
structure RB (w : World) (B : Nat) (A : Option Addr) (n c : Nat) (l : List UInt8) : Prop where
  reads : Reads w B 1 A n (bv l)
  cap : n ≤ c
  max : c ≤ maxLen
section
variable {w w' : World} {B B' n c : Nat} {A : Option Addr} {l : List UInt8}
theorem RB.len (h : RB w B A n c l) : l.length = n := by have := h.reads.1; rw [bv_length] at this; omega
theorem RB.more (h : RB w B A n c l) (hB : B ≤ B') : RB w B' A n c l := ⟨h.reads.more hB, h.cap, h.max⟩
theorem RB.below (h : RB w B A n c l) (hb : Below B w w') : RB w' B A n c l := ⟨h.reads.below hb, h.cap, h.max⟩
theorem RB.next (h : RB w w.heap.size A n c l) (hb : Below w.heap.size w w') : RB w' w'.heap.size A n c l := ⟨h.reads.next hb, h.cap, h.max⟩
theorem RB.drop (h : RB w B A n c l) {k : Nat} (hk : k ≤ n) : RB w B (if c = k then A else A.map (·.add k)) (n - k) (c - k) (l.drop k) :=
  ⟨by have := h.reads.cut hk h.cap; rw [Nat.mul_one] at this; rwa [bv_drop] at this, by have := h.cap; omega, by have := h.max; omega⟩
theorem RB.take (h : RB w B A n c l) {k : Nat} (hk : k ≤ n) : RB w B A k c (l.take k) :=
  ⟨by have := h.reads.take hk; rw [Nat.mul_one] at this; rwa [bv_take] at this, by have := h.cap; omega, h.max⟩
theorem RB.at_ (h : RB w B A n c l) {k : Nat} (hk : k < n) (hl : k < l.length) : ∃ ad, A = some ad ∧ ad.block < B ∧ w.cell? (ad.add k) = some (.int .u8 (l[k]).toNat) := by
  obtain ⟨ad, u, e, hb, hx, hc⟩ := h.reads.at_ hk
  rw [bv_get l k hl] at hx
  injection hx with hx
  subst hx
  exact ⟨ad, e, hb, hc⟩
theorem RB.nil_ (w : World) (B : Nat) : RB w B none 0 0 [] := ⟨⟨by simp [bv], fun h => absurd h (by omega)⟩, Nat.le_refl _, by simp [maxLen]⟩
theorem RB.of_own {base : Nat} {e : TypeId} (h : w.ownsRow base e 1 (.slice A n c) n (bv l)) : RB w w.heap.size A n c l := by
  refine ⟨Reads.of_own h, ?_, ?_⟩
  · rcases h.2 with ⟨hv, h0⟩ | ⟨g, cap, cur, hv, _, _, hle, _⟩
    · injection hv with _ _ hc; omega
    · injection hv with _ _ hc; omega
  · rcases h.2 with ⟨hv, h0⟩ | ⟨g, cap, cur, hv, _, _, _, hle, _⟩
    · injection hv with _ _ hc; subst hc; simp [maxLen]
    · injection hv with _ _ hc; subst hc; exact hle
theorem own_slice {base : Nat} {e : TypeId} {size : Nat} {v : Value} {xs : List Value} (h : w.ownsRow base e size v n xs) : ∃ A c, v = .slice A n c := by
  rcases h.2 with ⟨rfl, rfl⟩ | ⟨g, cap, cur, rfl, _⟩
  · exact ⟨_, _, rfl⟩
  · exact ⟨_, _, rfl⟩
end
theorem run_convert_RB {P : Program} {w : World} {B n c : Nat} {A : Option Addr} {l : List UInt8} (h : RB w B A n c l) (src e : TypeId) (hs : P.underlying src = some (.slice e)) (he : P.underlying e = some (.int .u8)) :
    ∀ dst, P.underlying dst = some .string → (convert src dst (.slice A n c)).run P w = .ok (.string ⟨l.toArray⟩) w := by
  intro dst hd
  have hlen := h.len
  rcases A with _ | a
  · have h0 : n = 0 := by
      rcases Nat.eq_zero_or_pos n with h0 | h0
      · exact h0
      · obtain ⟨ad, e1, _⟩ := h.reads.2 h0
        cases e1
    have hl : l = [] := List.eq_nil_of_length_eq_zero (by omega)
    subst hl
    exact run_convert_bytes_nil w src e hs he n c dst hd
  · have hl : (loadCells a n).run P w = .ok (bv l).toArray w := by
      have := run_loadCells_list (P := P) w a (bv l) (fun j v hj => by
        have hjl : j < l.length := by
          rcases Nat.lt_or_ge j l.length with h' | h'
          · exact h'
          · simp [bv, List.getElem?_eq_none h'] at hj
        obtain ⟨ad, e1, _, hc⟩ := h.at_ (k := j) (by omega) hjl
        injection e1 with e1
        subst e1
        rw [bv_get l j hjl] at hj
        injection hj with hj
        rw [hc, hj])
      rw [bv_length, hlen] at this
      exact this
    have hm : bv l = (l.map fun b => (b.toNat : Int)).map (Value.int .u8) := by simp [bv]
    rw [hm] at hl
    rw [run_convert_bytes_string w src dst e _ n c hs he hd, run_bytesToString w a n c _ hl, foldl_push_bytes]
    have hid : l.map ((fun n : Int => UInt8.ofNat n.toNat) ∘ fun b : UInt8 => (b.toNat : Int)) = l := by
      rw [show ((fun n : Int => UInt8.ofNat n.toNat) ∘ fun b : UInt8 => (b.toNat : Int)) = id from funext fun b => by simp]
      exact List.map_id l
    simp [ByteArray.empty, ByteArray.emptyWithCapacity, hid]
    rfl
theorem RB.of_bytesWorld (w : World) (e : TypeId) (l : List UInt8) (hm : l.length ≤ maxLen) :
    RB (Lib.bytesWorld w e ⟨l.toArray⟩) (Lib.bytesWorld w e ⟨l.toArray⟩).heap.size (some ⟨w.heap.size, 0, none⟩) l.length (grownCap w l.length 0 e) l := by
  refine ⟨⟨by simp [bv], fun _ => ⟨_, rfl, by rw [Lib.bytesWorld_size]; simp, fun j u hu => ?_⟩⟩, grownCap_ge _ _ _ _, grownCap_le_maxLen _ _ _ _ hm⟩
  have hj : j < l.length := by
    rcases Nat.lt_or_ge j l.length with h' | h'
    · exact h'
    · simp [bv, List.getElem?_eq_none h'] at hu
  rw [bv_get l j hj] at hu
  injection hu with hu
  subst hu
  have hadd : (⟨w.heap.size, 0, none⟩ : Addr).add j = ⟨w.heap.size, j, none⟩ := by unfold Addr.add; split <;> simp_all
  rw [hadd, Lib.bytesWorld_cell w e ⟨l.toArray⟩ j (by simpa [ByteArray.size] using hj)]
  simp [List.getD, List.getElem?_eq_getElem hj]
theorem below_bytesWorld (w : World) (e : TypeId) (s : ByteArray) : Below w.heap.size w (Lib.bytesWorld w e s) :=
  ⟨rfl, rfl, rfl, by rw [Lib.bytesWorld_size]; omega, fun k hk => Lib.bytesWorld_at_old w e s k hk⟩
theorem reads_new (w : World) (cs : Array Value) (t : TypeId) (size n : Nat) (hn : cs.size = n * size) : Reads (w.alloc (.cells cs t)) (w.heap.size + 1) size (some ⟨w.heap.size, 0, none⟩) n cs.toList := by
  refine ⟨by simpa using hn, fun _ => ⟨_, rfl, Nat.lt_succ_self _, fun j u hu => ?_⟩⟩
  have hadd : (⟨w.heap.size, 0, none⟩ : Addr).add j = ⟨w.heap.size, j, none⟩ := by unfold Addr.add; split <;> simp_all
  rw [hadd, (Blk.new w t cs).cell j]
  simpa using hu
theorem Blk.new_ {w : World} {g : Nat} (h : w.heap.size = g) (t : TypeId) (cs : Array Value) : Blk (w.alloc (.cells cs t)) g t cs := by subst h; exact Blk.new w t cs
theorem RB.new (w : World) (l : List UInt8) (t : TypeId) (hm : l.length ≤ maxLen) : RB (w.alloc (.cells (bv l).toArray t)) (w.heap.size + 1) (some ⟨w.heap.size, 0, none⟩) l.length l.length l :=
  ⟨by have := reads_new w (bv l).toArray t 1 l.length (by simp [bv]); simpa using this, Nat.le_refl _, hm⟩
end Go.Proofs.YtghddiboggdhcaaGreatDoor
/- Words for whole blocks: a row stored, a row loaded. No condition. -/
namespace Go.Proofs.YtghddiboggdhcaaGreatDoor
open Go.RowKit
theorem below_setRow {B : Nat} {a w : World} (h : Below B a w) {g : Nat} (hg : B ≤ g) (cs : Array Value) : Below B a (w.setRow g cs) :=
  h.trans ⟨rfl, rfl, rfl, by simp [World.setRow], fun k hk => by simp only [World.setRow, Array.getElem?_modify]; rw [if_neg (by omega)]⟩
theorem Blk.row {w : World} {g : Nat} {t : TypeId} {cs : Array Value} (h : Blk w g t cs) (ds : Array Value) : Blk (w.setRow g ds) g t ds := by
  unfold Blk at h ⊢
  simp [World.setRow, Array.getElem?_modify, h]
theorem Blk.rowFar {w : World} {g g' : Nat} {t : TypeId} {cs : Array Value} (h : Blk w g t cs) (hne : g ≠ g') (ds : Array Value) : Blk (w.setRow g' ds) g t cs := by
  unfold Blk at h ⊢
  simp only [World.setRow, Array.getElem?_modify]
  rw [if_neg (fun e => hne e.symm)]
  exact h
theorem run_storeCells_row {P : Program} (w : World) (g : Nat) (t : TypeId) (old cells : Array Value) (hg : w.heap[g]? = some (.cells old t (0, 0)))
    (ho : old.size = cells.size) (h1 : cells.all (·.oneCell') = true) : (storeCells ⟨g, 0, none⟩ cells.toList).run P w = .ok () (w.setRow g cells) := by
  have := run_storeCells_from (P := P) g t cells.toList 0 old w hg (by simp; omega) (fun v hv => (Array.all_eq_true_iff_forall_mem.1 h1) v (by simpa using hv))
  simpa [ho] using this
theorem alloc_setRow (w : World) (old cs : Array Value) (t : TypeId) : (w.alloc (.cells old t)).setRow w.heap.size cs = w.alloc (.cells cs t) := by
  unfold World.setRow World.alloc
  congr 1
  apply Array.ext
  · simp
  · intro i h1 h2
    simp only [Array.getElem_modify, Array.getElem_push]
    simp at h1
    by_cases hi : i < w.heap.size
    · simp [hi]; intro hc; omega
    · have : i = w.heap.size := by omega
      subst this
      simp
theorem run_storeCells_new {P : Program} (w : World) (t : TypeId) (old cells : Array Value) (ho : old.size = cells.size) (h1 : cells.all (·.oneCell') = true) :
    (storeCells ⟨w.heap.size, 0, none⟩ cells.toList).run P (w.alloc (.cells old t)) = .ok () (w.alloc (.cells cells t)) := by
  rw [run_storeCells_row _ w.heap.size t old cells (heap_alloc_new _ _) ho h1, alloc_setRow]
theorem results_cell_tmp {P : Program} {fn : Func} {p q : Tmp} {ty : TypeId} (h : fn.results = #[.cell p ty, .tmp q]) (tmps : Array Value) (w : World) (g : Nat) (t : TypeId) (cs : Array Value) (fr : Nat × Nat) (d : TypeDesc)
    (hp : tmps.getD p undef = .pointer (some ⟨g, 0, none⟩)) (hg : w.heap[g]? = some (.cells cs t fr))
    (hu : P.underlying ty = some d) (hd : (match d with | .struct _ | .array _ _ => true | _ => false) = true) (hi : (P.info? ty).map (·.size) = some cs.size) :
    (results fn tmps).run P w = .ok (.tuple #[.agg cs, tmps.getD q undef]) w := by
  have hp' : tmps[p]?.getD undef = .pointer (some ⟨g, 0, none⟩) := by simpa using hp
  simp [results, h, hp', asAddr, run_loadVar_row w g t ty cs fr d hg hu hd hi]
end Go.Proofs.YtghddiboggdhcaaGreatDoor
/- bytes.Clone, bytes.Equal, errors.New: what they return, for all bytes. No condition beyond the bytes' number. -/
namespace Go.Proofs.YtghddiboggdhcaaGreatDoor
open Go.RowKit
theorem u8_info : (Tryz.prog.info? 5).map (fun i => (i.zero, i.size, i.bytes)) = some (some (.int .u8 0), 1, 1) := by kernel_rfl
def OutB (l : List UInt8) (w : World) (e : Ending) (w' : World) : Prop :=
  ∃ A c, e = .returned (.slice A l.length c) ∧ RB w' w'.heap.size A l.length c l ∧ Below w.heap.size w w'
theorem OutB.of_own {l : List UInt8} {w w' : World} {v : Value} {n : Nat} {base : Nat} {ty : TypeId} (h : w'.ownsRow base ty 1 v n (bv l)) (hb : Below w.heap.size w w') : OutB l w (.returned v) w' := by
  have hn : l.length = n := by have := h.1; rw [bv_length] at this; omega
  subst hn
  obtain ⟨A, c, rfl⟩ := own_slice h
  exact ⟨A, c, rfl, RB.of_own h, hb⟩
theorem clone_any (A : Option Addr) (n c : Nat) (l : List UInt8) (w : World) (h : RB w w.heap.size A n c l) (hn : n ≤ 140737488355328) :
    Calls Tryz.prog 6 #[.slice A n c] w (OutB l w) := by
  obtain ⟨i0, hi0, hz0, hz1, hz2⟩ := info_parts u8_info
  have q : ∀ (w : World) (a : Option Addr) (n c n' c' : Nat), (binOp .eql 22 (.slice a n c) (.slice none n' c')).run Tryz.prog w = .ok (.bool a.isNone) w := fun w a n c n' c' => Lib.run_eql_slice_nil w _ _ a n c n' c' Tryz.underlying22
  have hlen := Lib.hid h.len
  rcases A with _ | a
  · have h0 : l = [] := by
      rcases Nat.eq_zero_or_pos n with h0 | h0
      · exact List.eq_nil_of_length_eq_zero (by rw [hlen.out, h0])
      · obtain ⟨ad, e1, _⟩ := h.reads.2 h0
        cases e1
    have H := Lib.hid h
    clear h
    go_enter Tryz.func6, Tryz.ntmps6
    go_wp2
    go_ret
    subst h0
    exact ⟨none, 0, rfl, RB.nil_ _ _, Below.refl _ _⟩
  · have H := Lib.hid h
    have hB := Lib.hid hn
    clear h hn
    go_enter Tryz.func6, Tryz.ntmps6
    go_wp2_with (at_builtin; refine wpList_append_any _ rfl (.tmp 5) (.tmp 6) _ rfl w.heap.size 5 i0 _ 1 1 Tryz.underlying22 hi0 hz0 hz1 hz2 rfl (by decide) _ _ _ rfl (World.ownsRow_made w #[] 0 (Nat.le_refl _) (Nat.zero_le _) rfl) w.heap.size (some a) n c (bv l) rfl (H.out.reads.alloc (Nat.le_refl _) _) (bv_one l) ?c1 ?c2 ?c3 ?_)
    case c1 => have := hB.out; unfold maxLen; omega
    case c2 => have := hB.out; omega
    case c3 => simp
    intro v' w1 hown hgrow _hat
    go_wp2
    go_ret
    exact OutB.of_own hown (((Below.refl _ w).alloc (Nat.le_refl _) _).grown hgrow (by simp) (by intro k hk; simp [Value.ownBlock] at hk; omega))
theorem equal_any (A B : Option Addr) (n c m d : Nat) (l k : List UInt8) (w : World) (h : RB w w.heap.size A n c l) (h' : RB w w.heap.size B m d k) :
    Calls Tryz.prog 12 #[.slice A n c, .slice B m d] w fun e w' => e = .returned (.bool (l == k)) ∧ w = w' := by
  have c1 := run_convert_RB h 22 5 Tryz.underlying22 Tryz.underlying5 9 Tryz.underlying9
  have c2 := run_convert_RB h' 22 5 Tryz.underlying22 Tryz.underlying5 9 Tryz.underlying9
  clear h h'
  go_enter Tryz.func12, Tryz.ntmps12
  go_wp2
  go_ret
  exact ⟨rfl, rfl⟩
end Go.Proofs.YtghddiboggdhcaaGreatDoor
