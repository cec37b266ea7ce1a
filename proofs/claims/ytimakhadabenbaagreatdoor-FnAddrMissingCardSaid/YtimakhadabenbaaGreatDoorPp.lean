/- NewMultiaddrBytes at the bytes of an address: the deferred call finds no panic. -/
import Derived.Test.YtimakhadabenbaaGreatDoorPn
import Derived.Defers
import Derived.Recover
import Derived.WalkSpells
namespace Go.Proofs.YtimakhadabenbaaGreatDoor
open Go.RowKit
variable {K : Nat}
theorem PR.far {w : World} {cs : List (Hop × Nat)} {g : Nat} {t : TypeId} {ds : Array Value} (h : PR w cs) (hk : Blk w g t ds) (hne : 83 ≠ t) (i : Nat) (u : Value) : PR (w.setCell ⟨g, i, none⟩ u) cs := fun x hx => by
  obtain ⟨g', hp⟩ := h x hx
  exact ⟨g', hp.far (hp.ne_ hk hne) u⟩
theorem catch_idle (p : Addr) (w : World) :
    CallsD Tryz.prog 40 #[.pointer (some p)] .returning w fun e u' w' => e = .returned (.tuple #[]) ∧ u' = .returning ∧ w' = w := by
  have q0 : ∀ w : World, (binOp .neq 20 .nilIface .nilIface).run Tryz.prog w = .ok (.bool false) w := fun _ => by kernel_rfl
  refine callsD_of_wpS Tryz.func40 rfl fun c₀ cs hu => ?_
  apply wpS_seq
  apply wpS_region
  simp [wpOpsS, go_sem, recoverD, hu, Tryz.ntmps40, Exit.thenS]
  apply wpS_seq
  apply wpS_region
  simp [wpOpsS, go_sem, q0, Exit.thenS]
  refine wpS_cond (t := false) (by simp [Act.eval, Array.replicate]) ?_
  simp only [Bool.false_eq_true, if_false]
  refine wpS_of_wp (wp_skip ?_)
  cases c₀
  simp_all [bodyPostS, results, Tryz.results40]
/-- An address. -/
def OutMA (hs : List Hop) (w : World) (e : Ending) (w' : World) : Prop :=
  ∃ v cs, e = .returned (.tuple #[v, .nilIface]) ∧ cs.map (·.1) = hs ∧ PR w' cs ∧ w'.ownsRow w.heap.size 87 3 v cs.length (compCells cs) ∧ Below w.heap.size w w'
set_option maxRecDepth 100000 in
set_option maxHeartbeats 2000000 in
theorem newma_any (A : Option Addr) (n c : Nat) (hs : List Hop) (w : World) (ht : Tab K w) (hok : ∀ x ∈ hs, HopOk K x.kd x.l) (h : RB w w.heap.size A n c (addrBytes hs)) (hn : hs.length ≤ 100) (hne : hs ≠ []) :
    Calls Tryz.prog 28 #[.slice A n c] w (OutMA hs w) := by
  have hmf : ∀ (fn : Fn) (first cap : Array Value) (w : World), (Instr.makeFunc fn first cap).run Tryz.prog w = .ok (.func fn first cap) w := fun _ _ _ _ => rfl
  obtain ⟨w1, hw1⟩ : ∃ w1, w1 = w.alloc (.cells #[.nilIface] 51) := ⟨_, rfl⟩
  have hb1 : Below w.heap.size w w1 := by rw [hw1]; exact (Below.refl _ w).alloc (Nat.le_refl _) _
  have hk1 : Blk w1 w.heap.size 51 #[.nilIface] := by rw [hw1]; exact Blk.new _ _ _
  have HC := Lib.hid (readma_any A n c hs w1 (ht.below hb1) hok ((h.below hb1).more hb1.size) hn hne)
  have hlen := h.len
  have HL := Lib.hid hlen
  have HB1 := Lib.hid hb1
  have HK1 := Lib.hid hk1
  have HW1 := Lib.hid hw1
  have hs0 : 0 < hs.length := by rcases hs with _ | ⟨x, hs⟩; exact absurd rfl hne; simp
  clear h ht hok hne hb1 hk1 hw1 hlen
  go_enter_defers Tryz.func28, Tryz.ntmps28
  go_wp2_with fail
  rw [← HW1.out]
  refine HC.out.mono ?_
  rintro e w3 ⟨v, cs, rfl, hcs, hpr, hown, hb3⟩
  rw [HL.out]
  obtain ⟨A3, c3, rfl⟩ := own_slice hown
  have hk3 := HK1.out.below hb3 HK1.out.lt
  have c0 : w3.cell? ⟨w.heap.size, 0, none⟩ = some .nilIface := hk3.cell 0
  have f0 := hk3.frozen 0
  have hcl : 0 < cs.length := by have := congrArg List.length hcs; rw [List.length_map] at this; omega
  have hb4 : w.heap.size < w1.heap.size := HK1.out.lt
  have HO := Lib.hid hown
  have HP := Lib.hid hpr
  have HCS := Lib.hid hcs
  have HB := Lib.hid (HB1.out.trans (hb3.mono HB1.out.size))
  have HK3 := Lib.hid hk3
  clear hown hpr hcs hb3 hk3
  go_wp2_with fail
  have hcf : ((w3.setCell ⟨w.heap.size, 0, none⟩ .nilIface).setCell ⟨w.heap.size, 0, none⟩ .nilIface).cell? ⟨w.heap.size, 0, none⟩ = some .nilIface := ((HK3.out.set_ 0 .nilIface).set_ 0 .nilIface).cell 0
  have hpf := (HP.out.far HK3.out (by decide) 0 .nilIface).far (HK3.out.set_ 0 .nilIface) (by decide) 0 .nilIface
  have hof := ownsRow_setCell_below (ownsRow_setCell_below HO.out (a := ⟨w.heap.size, 0, none⟩) hb4 .nilIface) (a := ⟨w.heap.size, 0, none⟩) hb4 .nilIface
  have hbf := (HB.out.setCell (p := ⟨w.heap.size, 0, none⟩) (Nat.le_refl _) .nilIface).setCell (p := ⟨w.heap.size, 0, none⟩) (Nat.le_refl _) .nilIface
  refine leaves_cons (f := 40) (args := #[.pointer (some ⟨w.heap.size, 0, none⟩)]) (by simp) (by simp [go_sem]) ?_
  refine (catch_idle ⟨w.heap.size, 0, none⟩ _).mono ?_
  rintro e u' w'' ⟨rfl, rfl, rfl⟩
  have hfin : OutMA hs w (.returned (.tuple #[.slice A3 cs.length c3, .nilIface])) ((w3.setCell ⟨w.heap.size, 0, none⟩ .nilIface).setCell ⟨w.heap.size, 0, none⟩ .nilIface) := ⟨_, cs, rfl, HCS.out, hpf, own_base hof (Nat.le_of_lt hb4), hbf⟩
  simp [Leaves, settle, results, Tryz.results28, go_sem, hcf]
  exact hfin
end Go.Proofs.YtimakhadabenbaaGreatDoor

/- A list of components: its copy, its last one. -/
namespace Go.Proofs.YtimakhadabenbaaGreatDoor
open Go.RowKit
attribute [local go_sem ↓] Go.wp_at_zero Go.wp_at_succ
/-- A copy of a whole row into a new block. -/
theorem run_copy_new {P : Program} (w : World) (dT sT ty elem : TypeId) (n c sc size : Nat) (a : Addr) (old cs : Array Value) (i : TypeInfo) (hu : P.underlying dT = some (.slice elem)) (hi : P.info? elem = some i) (hz : i.size = size)
    (ho : old.size = cs.size) (hn : cs.size = n * size) (hsrc : ∀ j v, cs.toList[j]? = some v → (w.alloc (.cells old elem)).cell? (a.add j) = some v) (h1 : cs.all (·.oneCell') = true) :
    (Builtin.copy_ #[dT, sT] ty #[.slice (some ⟨w.heap.size, 0, none⟩) n c, .slice (some a) n sc]).run P (w.alloc (.cells old elem)) = .ok (.int .i64 n) (w.alloc (.cells cs elem)) := by
  have hl := run_loadCells_list (P := P) (w.alloc (.cells old elem)) a cs.toList hsrc
  rw [Array.length_toList, hn] at hl
  have hst := run_storeCells_new (P := P) w elem old cs ho h1
  have hm : Nat.min n n = n := Nat.min_self n
  simp [Builtin.copy_, run_underlying hu, Builtin.lenOf, Builtin.firstCells, sizeOf, typeInfo, hi, hz, hm, hl, hst, goInt]
theorem compCells_one (cs : List (Hop × Nat)) : ∀ u ∈ compCells cs, u.oneCell' = true := by
  intro u hu
  simp only [compCells, List.mem_flatMap] at hu
  obtain ⟨x, _, hx⟩ := hu
  simp at hx
  rcases hx with rfl | rfl | rfl <;> rfl
set_option maxRecDepth 100000 in
set_option maxHeartbeats 2000000 in
theorem copyma_any (g c m : Nat) (cs : List (Hop × Nat)) (w : World) (hm : cs.length = m) (hm0 : 0 < m) (hm1 : m ≤ 1000) (hg : g < w.heap.size) (hc : ∀ j u, (compCells cs)[j]? = some u → w.cell? ⟨g, j, none⟩ = some u) :
    Calls Tryz.prog 55 #[.slice (some ⟨g, 0, none⟩) m c] w fun e w' => ∃ b, e = .returned (.slice (some ⟨b, 0, none⟩) m m) ∧ Blk w' b 87 (compCells cs).toArray ∧ w.heap.size ≤ b ∧ Below w.heap.size w w' := by
  obtain ⟨i0, hi0, hz0, hz1, hz2⟩ := info_parts comp_info2
  have hlc := compCells_length cs
  have q : ∀ (w : World) (a : Option Addr) (n c n' c' : Nat), (binOp .eql 46 (.slice a n c) (.slice none n' c')).run Tryz.prog w = .ok (.bool a.isNone) w := fun w a n c n' c' => Lib.run_eql_slice_nil w _ _ a n c n' c' Tryz.underlying46
  have hmk := fun W : World => run_make_rowN (P := Tryz.prog) 46 87 i0 _ Tryz.underlying46 hi0 hz0 .i64 .i64 m m (Nat.le_refl _) (by rw [hz2]; omega) (by omega) W
  rw [hz1] at hmk
  obtain ⟨zs, hzs⟩ : ∃ zs, zs = madeCells (Value.agg #[.string ⟨#[]⟩, .pointer none, .int .i64 0]).cells (m * 3) := ⟨_, rfl⟩
  rw [← hzs] at hmk
  have hcp := fun ty => run_copy_new (P := Tryz.prog) w 46 46 ty 87 m m c 3 ⟨g, 0, none⟩ zs (compCells cs).toArray i0 Tryz.underlying46 hi0 hz1 (by rw [hzs, size_madeCells]; simp [hlc, hm]) (by simp [hlc, hm]) (fun j u hu => by
    have hadd : (⟨g, 0, none⟩ : Addr).add j = ⟨g, j, none⟩ := by unfold Addr.add; split <;> simp_all
    rw [hadd, World.cell?_alloc_lt w _ _ hg]
    exact hc j u (by simpa using hu)) (by rw [Array.all_eq_true_iff_forall_mem]; intro u hu; exact compCells_one cs u (by simpa using hu))
  have HK := Lib.hid (Blk.new w 87 (compCells cs).toArray)
  have HB := Lib.hid ((Below.refl _ w).alloc (Nat.le_refl _) (.cells (compCells cs).toArray 87))
  obtain ⟨X, hX⟩ : ∃ X, X = (compCells cs).toArray := ⟨_, rfl⟩
  rw [← hX] at hcp HK HB ⊢
  clear hX hzs hc hi0 hz0 hz1 hz2 hlc hm
  go_enter Tryz.func55, Tryz.ntmps55
  go_wp2_with fail
  go_ret
  exact ⟨w.heap.size, rfl, HK.out, Nat.le_refl _, HB.out⟩

/-- Three cells of a component. -/
structure C3 (w : World) (q : Nat) (x : Hop × Nat) : Prop where
  c0 : w.cell? ⟨q, 0, none⟩ = some (.string ⟨x.1.bytes.toArray⟩)
  c1 : w.cell? ⟨q, 1, none⟩ = some (.pointer (some ⟨x.2, 0, none⟩))
  c2 : w.cell? ⟨q, 2, none⟩ = some (.int .i64 (vsOf x.1.kd))
theorem C3.below {w w' : World} {q : Nat} {x : Hop × Nat} (h : C3 w q x) (hb : Below w.heap.size w w') : C3 w' q x :=
  ⟨(hb.cell (World.block_lt_of_cell? _ _ h.c0)).trans h.c0, (hb.cell (World.block_lt_of_cell? _ _ h.c1)).trans h.c1, (hb.cell (World.block_lt_of_cell? _ _ h.c2)).trans h.c2⟩
/-- A slice of components in a block of its own. -/
structure MS (w : World) (g n c : Nat) (cs : List (Hop × Nat)) : Prop where
  len : cs.length = n
  cell : ∀ j u, (compCells cs)[j]? = some u → w.cell? ⟨g, j, none⟩ = some u
  lt : g < w.heap.size
  cap : n ≤ c
  max : c ≤ maxLen
theorem MS.below {w w' : World} {g n c : Nat} {cs : List (Hop × Nat)} (h : MS w g n c cs) (hb : Below w.heap.size w w') : MS w' g n c cs :=
  ⟨h.len, fun j u hu => (hb.cell h.lt).trans (h.cell j u hu), Nat.lt_of_lt_of_le h.lt hb.size, h.cap, h.max⟩
theorem MS.of_own {w : World} {base : Nat} {v : Value} {cs : List (Hop × Nat)} (h : w.ownsRow base 87 3 v cs.length (compCells cs)) (hn : 0 < cs.length) : ∃ g c, v = .slice (some ⟨g, 0, none⟩) cs.length c ∧ MS w g cs.length c cs := by
  obtain ⟨g, c, rfl, hg, hlt⟩ := h.form hn
  have hr := h.2
  rcases hr with ⟨hv, _⟩ | ⟨g', cap, cur, hv, _, _, hnc, hmx, _⟩
  · cases hv
  · injection hv with h1 h2 h3
    subst h3
    exact ⟨g, c, rfl, rfl, fun j u hu => by
      have := h.cells (g := g) rfl j u hu
      have hadd : (⟨g, 0, none⟩ : Addr).add j = ⟨g, j, none⟩ := by unfold Addr.add; split <;> simp_all
      rwa [hadd] at this, hlt, hnc, hmx⟩
theorem compCells_at (cs : List (Hop × Nat)) (x : Hop × Nat) (j : Nat) (hj : j < 3) : (compCells (cs ++ [x]))[cs.length * 3 + j]? = ([.string ⟨x.1.bytes.toArray⟩, .pointer (some ⟨x.2, 0, none⟩), .int .i64 (vsOf x.1.kd)] : List Value)[j]? := by
  rw [compCells_snoc, List.getElem?_append_right (by rw [compCells_length]; omega), compCells_length, Nat.add_sub_cancel_left]
theorem MS.init {w : World} {g n c : Nat} {cs : List (Hop × Nat)} {x : Hop × Nat} (h : MS w g n c (cs ++ [x])) : ∀ j u, (compCells cs)[j]? = some u → w.cell? ⟨g, j, none⟩ = some u := fun j u hu => by
  refine h.cell j u ?_
  rw [compCells_snoc, List.getElem?_append_left (List.getElem?_eq_some_iff.1 hu).1]
  exact hu
/-- What SplitLast gives: the others, in a block of their own or nil; the last one. -/
def OutSL (cs : List (Hop × Nat)) (x : Hop × Nat) (w : World) (e : Ending) (w' : World) : Prop :=
  ∃ T q, e = .returned (.tuple #[T, .pointer (some ⟨q, 0, none⟩)]) ∧ C3 w' q x ∧ ((cs = [] ∧ T = .slice none 0 0) ∨ (0 < cs.length ∧ ∃ b, T = .slice (some ⟨b, 0, none⟩) cs.length cs.length ∧ MS w' b cs.length cs.length cs)) ∧ Below w.heap.size w w'
set_option maxRecDepth 100000 in
set_option maxHeartbeats 2000000 in
theorem splitlast_one (g c : Nat) (x : Hop × Nat) (w : World) (h : MS w g 1 c ([] ++ [x])) : Calls Tryz.prog 33 #[.slice (some ⟨g, 0, none⟩) 1 c] w (OutSL [] x w) := by
  have h3 : C3 w g x := ⟨h.cell 0 _ (compCells_at [] x 0 (by decide)), h.cell 1 _ (compCells_at [] x 1 (by decide)), h.cell 2 _ (compCells_at [] x 2 (by decide))⟩
  have H3 := Lib.hid h3
  have hcap := h.cap
  clear h h3
  go_enter Tryz.func33, Tryz.ntmps33
  go_wp2_with fail
  go_quiet (fail)
  go_wp2_with fail
  go_ret2
  exact ⟨_, g, rfl, ⟨H3.out.c0, H3.out.c1, H3.out.c2⟩, Or.inl ⟨rfl, rfl⟩, below_drewN (Below.refl _ _) _⟩
set_option maxRecDepth 100000 in
set_option maxHeartbeats 2000000 in
theorem splitlast_more (g c : Nat) (cs : List (Hop × Nat)) (x : Hop × Nat) (w : World) (hn : 0 < cs.length) (hn1 : cs.length ≤ 1000) (h : MS w g (cs.length + 1) c (cs ++ [x])) : Calls Tryz.prog 33 #[.slice (some ⟨g, 0, none⟩) (cs.length + 1) c] w (OutSL cs x w) := by
  have c0 := h.cell (cs.length * 3 + 0) _ (compCells_at cs x 0 (by decide))
  have c1 := h.cell (cs.length * 3 + 1) _ (compCells_at cs x 1 (by decide))
  have c2 := h.cell (cs.length * 3 + 2) _ (compCells_at cs x 2 (by decide))
  rw [Nat.add_zero] at c0
  have hcap := h.cap
  have hmax : c ≤ 9223372036854775807 := h.max
  have HM := Lib.hid h.init
  have HG := Lib.hid h.lt
  have hz : IntKind.i64.wrap ((cs.length : Int) + 1 - 1) = (cs.length : Int) := by rw [show (cs.length : Int) + 1 - 1 = cs.length by omega]; exact IntWalk.i64_in _ (by omega)
  clear h
  go_enter Tryz.func33, Tryz.ntmps33
  have hb1 : Below w.heap.size w (w.alloc (.cells #[.string ⟨x.1.bytes.toArray⟩, .pointer (some ⟨x.2, 0, none⟩), .int .i64 (vsOf x.1.kd)] 87)) := (Below.refl _ w).alloc (Nat.le_refl _) _
  have hk1 := Blk.new w 87 #[.string ⟨x.1.bytes.toArray⟩, .pointer (some ⟨x.2, 0, none⟩), .int .i64 (vsOf x.1.kd)]
  have HC := Lib.hid (copyma_any g c cs.length cs _ rfl hn hn1 (Nat.lt_of_lt_of_le HG.out hb1.size) (fun j u hu => (hb1.cell (p := ⟨g, j, none⟩) HG.out).trans (HM.out j u hu)))
  have HB1 := Lib.hid hb1
  have HK1 := Lib.hid hk1
  clear hb1 hk1
  go_wp2_with fail
  refine HC.out.mono ?_
  rintro e w2 ⟨b, rfl, hk, _, hb2⟩
  have h3 := HK1.out.below hb2 HK1.out.lt
  have H3 := Lib.hid (show C3 w2 w.heap.size x from ⟨h3.cell 0, h3.cell 1, h3.cell 2⟩)
  have HMS := Lib.hid (show MS w2 b cs.length cs.length cs from ⟨rfl, fun j u hu => by rw [hk.cell j]; simpa using hu, hk.lt, Nat.le_refl _, by unfold maxLen; omega⟩)
  have HB2 := Lib.hid (HB1.out.trans (hb2.mono HB1.out.size))
  clear hk hb2 h3
  go_wp2_with fail
  go_ret2
  exact ⟨_, w.heap.size, rfl, H3.out, Or.inr ⟨hn, b, rfl, HMS.out⟩, HB2.out⟩

set_option maxHeartbeats 2000000 in
set_option maxRecDepth 100000 in
theorem rawvalue_c3 (q : Nat) (x : Hop × Nat) (w : World) (h : C3 w q x) (hv : vsOf x.1.kd ≤ x.1.bytes.length) (hl : x.1.bytes.length ≤ 100000) :
    Calls Tryz.prog 35 #[.pointer (some ⟨q, 0, none⟩)] w (OutB (x.1.bytes.drop (vsOf x.1.kd)) w) := by
  have c0 := h.c0
  have c2 := h.c2
  generalize x.1.bytes = l at *
  generalize vsOf x.1.kd = vs at *
  have hsz := size_toArray l
  have kx := extract_drop l vs
  have hL1 : (l.drop vs).length ≤ 1000000 := by simp; omega
  obtain ⟨L, hL⟩ : ∃ L, L = l.drop vs := ⟨_, rfl⟩
  rw [← hL] at kx hL1 ⊢
  have k0 : (0 : Int) ≤ (vs : Int) := by omega
  have k1 : (vs : Int) ≤ (l.length : Int) := by omega
  obtain ⟨cc, w1, hcv, hr, hb, _⟩ := conv_list w.drew L hL1
  have HR := Lib.hid hr
  have HB := Lib.hid (below_drew_left hb)
  clear h hL hr hb
  go_enter Tryz.func35, Tryz.ntmps35
  go_wp2_with fail
  go_still_tail 9, (by kernel_rfl)
  change wpList _ _ _ _ _ w.drew
  go_wp2_with fail
  go_ret
  exact ⟨_, cc, rfl, HR.out, HB.out⟩

theorem tc_form (k : Nat) : (protoOf k).tc = .nilIface ∨ ∃ t v, (protoOf k).tc = .iface t v := by
  unfold protoOf; split <;> first | exact Or.inl rfl | exact Or.inr ⟨_, _, rfl⟩
/-- A protocol, by value: its code. -/
def OutPV (k : Nat) (w : World) (e : Ending) (w' : World) : Prop := ∃ v0 v2 v3 v4 v5, e = .returned (.agg #[v0, .int .i64 k, v2, v3, v4, v5]) ∧ Below w.heap.size w w'
set_option maxHeartbeats 2000000 in
set_option maxRecDepth 100000 in
theorem protocol_any (q p k g : Nat) (w : World) (h : w.cell? ⟨q, 1, none⟩ = some (.pointer (some ⟨p, 0, none⟩))) (hp : Blk w p 83 (pcells k g)) :
    Calls Tryz.prog 34 #[.pointer (some ⟨q, 0, none⟩)] w (OutPV k w) := by
  obtain ⟨S, hS⟩ : ∃ S : ByteArray, S = ⟨(protoOf k).name.toArray⟩ := ⟨_, rfl⟩
  obtain ⟨m, hm⟩ : ∃ m, m = (protoOf k).vc.length := ⟨_, rfl⟩
  obtain ⟨z, hz⟩ : ∃ z, z = (protoOf k).size := ⟨_, rfl⟩
  have p0 : w.cell? ⟨p, 0, none⟩ = some (.string S) := by rw [hS]; exact hp.cell 0
  have p1 : w.cell? ⟨p, 1, none⟩ = some (.int .i64 k) := hp.cell 1
  have p2 : w.cell? ⟨p, 2, none⟩ = some (.slice (some ⟨g, 0, none⟩) m m) := by rw [hm]; exact hp.cell 2
  have p3 : w.cell? ⟨p, 3, none⟩ = some (.int .i64 z) := by rw [hz]; exact hp.cell 3
  have p4 : w.cell? ⟨p, 4, none⟩ = some (.bool false) := hp.cell 4
  have p5 : w.cell? ⟨p, 5, none⟩ = some (protoOf k).tc := hp.cell 5
  have h1 := tc_form k
  generalize (protoOf k).tc = tc at p5 h1
  have hpw := hp.lt
  have hqw := World.block_lt_of_cell? _ _ h
  clear hS hm hz hp
  rcases h1 with rfl | ⟨t, v, rfl⟩
  all_goals
    go_enter Tryz.func34, Tryz.ntmps34
    go_wp2_with fail
    exact bodyPost_ret (results_cell_row rfl _ _ w.heap.size 83 _ (0, 0) _ rfl (Blk.new w _ _) Tryz.underlying83 rfl (proto_size.trans rfl)) rfl ⟨_, _, _, _, _, rfl, (Below.refl _ w).alloc (Nat.le_refl _) _⟩
end Go.Proofs.YtimakhadabenbaaGreatDoor
