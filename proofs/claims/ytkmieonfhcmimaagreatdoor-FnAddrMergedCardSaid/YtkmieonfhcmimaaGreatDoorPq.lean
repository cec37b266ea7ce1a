/- A list of components: its copy, its last one. -/
import Derived.Test.YtkmieonfhcmimaaGreatDoorPo
import Derived.WalkSpells
namespace Go.Proofs.YtkmieonfhcmimaaGreatDoor
open Go.RowKit
attribute [local go_sem ↓] Go.wp_at_zero Go.wp_at_succ
/-- A copy of a whole row into a new block. -/
theorem run_copy_new {P : Program} (w : World) (dT sT ty elem : TypeId) (n c sc size : Nat) (a : Addr) (old cs : Array Value) (i : TypeInfo) (hu : P.underlying dT = some (.slice elem)) (hi : P.info? elem = some i) (hz : i.size = size)
    (ho : old.size = cs.size) (hn : cs.size = n * size) (hsrc : ∀ j v, cs.toList[j]? = some v → (w.alloc (.cells old elem)).cell? (a.add j) = some v) (h1 : cs.all (·.oneCell') = true) :
    (Builtin.copy_ #[dT, sT] ty #[.slice (some ⟨w.heap.size, 0, none⟩) n c, .slice (some a) n sc]).run P (w.alloc (.cells old elem)) = .ok (.int .i64 n) (w.alloc (.cells cs elem)) := by
  have hl := run_loadCells_list (P := P) (w.alloc (.cells old elem)) a cs.toList hsrc
  rw [Array.length_toList, hn] at hl
  have hst := run_storeCells_new (P := P) w elem old cs ho h1
  have hm : Nat.min n n = n := Nat.min_self n
  simp [Builtin.copy_, run_underlying hu, Builtin.lenOf, Builtin.firstCells, sizeOf, typeInfo, hi, hz, hm, hl, hst, goInt]
theorem compCells_one (cs : List (Hop × Nat)) : ∀ u ∈ compCells cs, u.oneCell' = true := by
  intro u hu
  simp only [compCells, List.mem_flatMap] at hu
  obtain ⟨x, _, hx⟩ := hu
  simp at hx
  rcases hx with rfl | rfl | rfl <;> rfl
set_option maxRecDepth 100000 in
set_option maxHeartbeats 2000000 in
theorem copyma_any (g c m : Nat) (cs : List (Hop × Nat)) (w : World) (hm : cs.length = m) (hm0 : 0 < m) (hm1 : m ≤ 1000) (hg : g < w.heap.size) (hc : ∀ j u, (compCells cs)[j]? = some u → w.cell? ⟨g, j, none⟩ = some u) :
    Calls Tryz.prog 91 #[.slice (some ⟨g, 0, none⟩) m c] w fun e w' => ∃ b, e = .returned (.slice (some ⟨b, 0, none⟩) m m) ∧ Blk w' b 126 (compCells cs).toArray ∧ w.heap.size ≤ b ∧ Below w.heap.size w w' := by
  obtain ⟨i0, hi0, hz0, hz1, hz2⟩ := info_parts comp_info2
  have hlc := compCells_length cs
  have q : ∀ (w : World) (a : Option Addr) (n c n' c' : Nat), (binOp .eql 56 (.slice a n c) (.slice none n' c')).run Tryz.prog w = .ok (.bool a.isNone) w := fun w a n c n' c' => Lib.run_eql_slice_nil w _ _ a n c n' c' Tryz.underlying56
  have hmk := fun W : World => run_make_rowN (P := Tryz.prog) 56 126 i0 _ Tryz.underlying56 hi0 hz0 .i64 .i64 m m (Nat.le_refl _) (by rw [hz2]; omega) (by omega) W
  rw [hz1] at hmk
  obtain ⟨zs, hzs⟩ : ∃ zs, zs = madeCells (Value.agg #[.string ⟨#[]⟩, .pointer none, .int .i64 0]).cells (m * 3) := ⟨_, rfl⟩
  rw [← hzs] at hmk
  have hcp := fun ty => run_copy_new (P := Tryz.prog) w 56 56 ty 126 m m c 3 ⟨g, 0, none⟩ zs (compCells cs).toArray i0 Tryz.underlying56 hi0 hz1 (by rw [hzs, size_madeCells]; simp [hlc, hm]) (by simp [hlc, hm]) (fun j u hu => by
    have hadd : (⟨g, 0, none⟩ : Addr).add j = ⟨g, j, none⟩ := by unfold Addr.add; split <;> simp_all
    rw [hadd, World.cell?_alloc_lt w _ _ hg]
    exact hc j u (by simpa using hu)) (by rw [Array.all_eq_true_iff_forall_mem]; intro u hu; exact compCells_one cs u (by simpa using hu))
  have HK := Lib.hid (Blk.new w 126 (compCells cs).toArray)
  have HB := Lib.hid ((Below.refl _ w).alloc (Nat.le_refl _) (.cells (compCells cs).toArray 126))
  obtain ⟨X, hX⟩ : ∃ X, X = (compCells cs).toArray := ⟨_, rfl⟩
  rw [← hX] at hcp HK HB ⊢
  clear hX hzs hc hi0 hz0 hz1 hz2 hlc hm
  go_enter Tryz.func91, Tryz.ntmps91
  go_wp2_with fail
  go_ret
  exact ⟨w.heap.size, rfl, HK.out, Nat.le_refl _, HB.out⟩

/-- Three cells of a component. -/
structure C3 (w : World) (q : Nat) (x : Hop × Nat) : Prop where
  c0 : w.cell? ⟨q, 0, none⟩ = some (.string ⟨x.1.bytes.toArray⟩)
  c1 : w.cell? ⟨q, 1, none⟩ = some (.pointer (some ⟨x.2, 0, none⟩))
  c2 : w.cell? ⟨q, 2, none⟩ = some (.int .i64 (vsOf x.1.kd))
theorem C3.below {w w' : World} {q : Nat} {x : Hop × Nat} (h : C3 w q x) (hb : Below w.heap.size w w') : C3 w' q x :=
  ⟨(hb.cell (World.block_lt_of_cell? _ _ h.c0)).trans h.c0, (hb.cell (World.block_lt_of_cell? _ _ h.c1)).trans h.c1, (hb.cell (World.block_lt_of_cell? _ _ h.c2)).trans h.c2⟩
/-- A slice of components in a block of its own. -/
structure MS (w : World) (g n c : Nat) (cs : List (Hop × Nat)) : Prop where
  len : cs.length = n
  cell : ∀ j u, (compCells cs)[j]? = some u → w.cell? ⟨g, j, none⟩ = some u
  lt : g < w.heap.size
  cap : n ≤ c
  max : c ≤ maxLen
theorem MS.below {w w' : World} {g n c : Nat} {cs : List (Hop × Nat)} (h : MS w g n c cs) (hb : Below w.heap.size w w') : MS w' g n c cs :=
  ⟨h.len, fun j u hu => (hb.cell h.lt).trans (h.cell j u hu), Nat.lt_of_lt_of_le h.lt hb.size, h.cap, h.max⟩
theorem MS.of_own {w : World} {base : Nat} {v : Value} {cs : List (Hop × Nat)} (h : w.ownsRow base 126 3 v cs.length (compCells cs)) (hn : 0 < cs.length) : ∃ g c, v = .slice (some ⟨g, 0, none⟩) cs.length c ∧ MS w g cs.length c cs := by
  obtain ⟨g, c, rfl, hg, hlt⟩ := h.form hn
  have hr := h.2
  rcases hr with ⟨hv, _⟩ | ⟨g', cap, cur, hv, _, _, hnc, hmx, _⟩
  · cases hv
  · injection hv with h1 h2 h3
    subst h3
    exact ⟨g, c, rfl, rfl, fun j u hu => by
      have := h.cells (g := g) rfl j u hu
      have hadd : (⟨g, 0, none⟩ : Addr).add j = ⟨g, j, none⟩ := by unfold Addr.add; split <;> simp_all
      rwa [hadd] at this, hlt, hnc, hmx⟩
theorem compCells_at (cs : List (Hop × Nat)) (x : Hop × Nat) (j : Nat) (hj : j < 3) : (compCells (cs ++ [x]))[cs.length * 3 + j]? = ([.string ⟨x.1.bytes.toArray⟩, .pointer (some ⟨x.2, 0, none⟩), .int .i64 (vsOf x.1.kd)] : List Value)[j]? := by
  rw [compCells_snoc, List.getElem?_append_right (by rw [compCells_length]; omega), compCells_length, Nat.add_sub_cancel_left]
theorem MS.init {w : World} {g n c : Nat} {cs : List (Hop × Nat)} {x : Hop × Nat} (h : MS w g n c (cs ++ [x])) : ∀ j u, (compCells cs)[j]? = some u → w.cell? ⟨g, j, none⟩ = some u := fun j u hu => by
  refine h.cell j u ?_
  rw [compCells_snoc, List.getElem?_append_left (List.getElem?_eq_some_iff.1 hu).1]
  exact hu
/-- What SplitLast gives: the others, in a block of their own or nil; the last one. -/
def OutSL (cs : List (Hop × Nat)) (x : Hop × Nat) (w : World) (e : Ending) (w' : World) : Prop :=
  ∃ T q, e = .returned (.tuple #[T, .pointer (some ⟨q, 0, none⟩)]) ∧ C3 w' q x ∧ ((cs = [] ∧ T = .slice none 0 0) ∨ (0 < cs.length ∧ ∃ b, T = .slice (some ⟨b, 0, none⟩) cs.length cs.length ∧ MS w' b cs.length cs.length cs)) ∧ Below w.heap.size w w'
set_option maxRecDepth 100000 in
set_option maxHeartbeats 2000000 in
theorem splitlast_one (g c : Nat) (x : Hop × Nat) (w : World) (h : MS w g 1 c ([] ++ [x])) : Calls Tryz.prog 66 #[.slice (some ⟨g, 0, none⟩) 1 c] w (OutSL [] x w) := by
  have h3 : C3 w g x := ⟨h.cell 0 _ (compCells_at [] x 0 (by decide)), h.cell 1 _ (compCells_at [] x 1 (by decide)), h.cell 2 _ (compCells_at [] x 2 (by decide))⟩
  have H3 := Lib.hid h3
  have hcap := h.cap
  clear h h3
  go_enter Tryz.func66, Tryz.ntmps66
  go_wp2_with fail
  go_quiet (fail)
  go_wp2_with fail
  go_ret2
  exact ⟨_, g, rfl, ⟨H3.out.c0, H3.out.c1, H3.out.c2⟩, Or.inl ⟨rfl, rfl⟩, below_drewN (Below.refl _ _) _⟩
set_option maxRecDepth 100000 in
set_option maxHeartbeats 2000000 in
theorem splitlast_more (g c : Nat) (cs : List (Hop × Nat)) (x : Hop × Nat) (w : World) (hn : 0 < cs.length) (hn1 : cs.length ≤ 1000) (h : MS w g (cs.length + 1) c (cs ++ [x])) : Calls Tryz.prog 66 #[.slice (some ⟨g, 0, none⟩) (cs.length + 1) c] w (OutSL cs x w) := by
  have c0 := h.cell (cs.length * 3 + 0) _ (compCells_at cs x 0 (by decide))
  have c1 := h.cell (cs.length * 3 + 1) _ (compCells_at cs x 1 (by decide))
  have c2 := h.cell (cs.length * 3 + 2) _ (compCells_at cs x 2 (by decide))
  rw [Nat.add_zero] at c0
  have hcap := h.cap
  have hmax : c ≤ 9223372036854775807 := h.max
  have HM := Lib.hid h.init
  have HG := Lib.hid h.lt
  have hz : IntKind.i64.wrap ((cs.length : Int) + 1 - 1) = (cs.length : Int) := by rw [show (cs.length : Int) + 1 - 1 = cs.length by omega]; exact IntWalk.i64_in _ (by omega)
  clear h
  go_enter Tryz.func66, Tryz.ntmps66
  have hb1 : Below w.heap.size w (w.alloc (.cells #[.string ⟨x.1.bytes.toArray⟩, .pointer (some ⟨x.2, 0, none⟩), .int .i64 (vsOf x.1.kd)] 126)) := (Below.refl _ w).alloc (Nat.le_refl _) _
  have hk1 := Blk.new w 126 #[.string ⟨x.1.bytes.toArray⟩, .pointer (some ⟨x.2, 0, none⟩), .int .i64 (vsOf x.1.kd)]
  have HC := Lib.hid (copyma_any g c cs.length cs _ rfl hn hn1 (Nat.lt_of_lt_of_le HG.out hb1.size) (fun j u hu => (hb1.cell (p := ⟨g, j, none⟩) HG.out).trans (HM.out j u hu)))
  have HB1 := Lib.hid hb1
  have HK1 := Lib.hid hk1
  clear hb1 hk1
  go_wp2_with fail
  refine HC.out.mono ?_
  rintro e w2 ⟨b, rfl, hk, _, hb2⟩
  have h3 := HK1.out.below hb2 HK1.out.lt
  have H3 := Lib.hid (show C3 w2 w.heap.size x from ⟨h3.cell 0, h3.cell 1, h3.cell 2⟩)
  have HMS := Lib.hid (show MS w2 b cs.length cs.length cs from ⟨rfl, fun j u hu => by rw [hk.cell j]; simpa using hu, hk.lt, Nat.le_refl _, by unfold maxLen; omega⟩)
  have HB2 := Lib.hid (HB1.out.trans (hb2.mono HB1.out.size))
  clear hk hb2 h3
  go_wp2_with fail
  go_ret2
  exact ⟨_, w.heap.size, rfl, H3.out, Or.inr ⟨hn, b, rfl, HMS.out⟩, HB2.out⟩

set_option maxHeartbeats 2000000 in
set_option maxRecDepth 100000 in
theorem rawvalue_c3 (q : Nat) (x : Hop × Nat) (w : World) (h : C3 w q x) (hv : vsOf x.1.kd ≤ x.1.bytes.length) (hl : x.1.bytes.length ≤ 100000) :
    Calls Tryz.prog 68 #[.pointer (some ⟨q, 0, none⟩)] w (OutB (x.1.bytes.drop (vsOf x.1.kd)) w) := by
  have c0 := h.c0
  have c2 := h.c2
  generalize x.1.bytes = l at *
  generalize vsOf x.1.kd = vs at *
  have hsz := size_toArray l
  have kx := extract_drop l vs
  have hL1 : (l.drop vs).length ≤ 1000000 := by simp; omega
  obtain ⟨L, hL⟩ : ∃ L, L = l.drop vs := ⟨_, rfl⟩
  rw [← hL] at kx hL1 ⊢
  have k0 : (0 : Int) ≤ (vs : Int) := by omega
  have k1 : (vs : Int) ≤ (l.length : Int) := by omega
  obtain ⟨cc, w1, hcv, hr, hb, _⟩ := conv_list w.drew L hL1
  have HR := Lib.hid hr
  have HB := Lib.hid (below_drew_left hb)
  clear h hL hr hb
  go_enter Tryz.func68, Tryz.ntmps68
  go_wp2_with fail
  go_still_tail 9, (by kernel_rfl)
  change wpList _ _ _ _ _ w.drew
  go_wp2_with fail
  go_ret
  exact ⟨_, cc, rfl, HR.out, HB.out⟩

theorem tc_form (k : Nat) : (protoOf k).tc = .nilIface ∨ ∃ t v, (protoOf k).tc = .iface t v := by
  unfold protoOf; split <;> first | exact Or.inl rfl | exact Or.inr ⟨_, _, rfl⟩
/-- A protocol, by value: its code. -/
def OutPV (k : Nat) (w : World) (e : Ending) (w' : World) : Prop := ∃ v0 v2 v3 v4 v5, e = .returned (.agg #[v0, .int .i64 k, v2, v3, v4, v5]) ∧ Below w.heap.size w w'
set_option maxHeartbeats 2000000 in
set_option maxRecDepth 100000 in
theorem protocol_any (q p k g : Nat) (w : World) (h : w.cell? ⟨q, 1, none⟩ = some (.pointer (some ⟨p, 0, none⟩))) (hp : Blk w p 122 (pcells k g)) :
    Calls Tryz.prog 67 #[.pointer (some ⟨q, 0, none⟩)] w (OutPV k w) := by
  obtain ⟨S, hS⟩ : ∃ S : ByteArray, S = ⟨(protoOf k).name.toArray⟩ := ⟨_, rfl⟩
  obtain ⟨m, hm⟩ : ∃ m, m = (protoOf k).vc.length := ⟨_, rfl⟩
  obtain ⟨z, hz⟩ : ∃ z, z = (protoOf k).size := ⟨_, rfl⟩
  have p0 : w.cell? ⟨p, 0, none⟩ = some (.string S) := by rw [hS]; exact hp.cell 0
  have p1 : w.cell? ⟨p, 1, none⟩ = some (.int .i64 k) := hp.cell 1
  have p2 : w.cell? ⟨p, 2, none⟩ = some (.slice (some ⟨g, 0, none⟩) m m) := by rw [hm]; exact hp.cell 2
  have p3 : w.cell? ⟨p, 3, none⟩ = some (.int .i64 z) := by rw [hz]; exact hp.cell 3
  have p4 : w.cell? ⟨p, 4, none⟩ = some (.bool false) := hp.cell 4
  have p5 : w.cell? ⟨p, 5, none⟩ = some (protoOf k).tc := hp.cell 5
  have h1 := tc_form k
  generalize (protoOf k).tc = tc at p5 h1
  have hpw := hp.lt
  have hqw := World.block_lt_of_cell? _ _ h
  clear hS hm hz hp
  rcases h1 with rfl | ⟨t, v, rfl⟩
  all_goals
    go_enter Tryz.func67, Tryz.ntmps67
    go_wp2_with fail
    exact bodyPost_ret (results_cell_row rfl _ _ w.heap.size 122 _ (0, 0) _ rfl (Blk.new w _ _) Tryz.underlying122 rfl (proto_size.trans rfl)) rfl ⟨_, _, _, _, _, rfl, (Below.refl _ w).alloc (Nat.le_refl _) _⟩
end Go.Proofs.YtkmieonfhcmimaaGreatDoor

/- impl.addrOf, impl.AddrRight, peer.SplitAddr at the bytes of an address. -/
namespace Go.Proofs.YtkmieonfhcmimaaGreatDoor
open Go.RowKit
variable {K : Nat}
attribute [local go_sem ↓] Go.wp_at_zero Go.wp_at_succ
/-- An address read. -/
def OutAO (hs : List Hop) (w : World) (e : Ending) (w' : World) : Prop :=
  ∃ g c cs, e = .returned (.tuple #[.slice (some ⟨g, 0, none⟩) cs.length c, .bool true]) ∧ cs.map (·.1) = hs ∧ PR w' cs ∧ MS w' g cs.length c cs ∧ Below w.heap.size w w'
set_option maxRecDepth 100000 in
set_option maxHeartbeats 2000000 in
theorem addrof_impl (A : Option Addr) (n c : Nat) (hs : List Hop) (w : World) (ht : Tab K w) (hok : ∀ x ∈ hs, HopOk K x.kd x.l) (h : RB w w.heap.size A n c (addrBytes hs)) (hn : hs.length ≤ 100) (hne : hs ≠ []) :
    Calls Tryz.prog 24 #[.slice A n c] w (OutAO hs w) := by
  have hs0 : 0 < hs.length := by rcases hs with _ | ⟨x, hs⟩; exact absurd rfl hne; simp
  have hle := addrBytes_le hs
  have hnn : n ≤ 140737488355328 := by rw [← h.len]; omega
  have HC := Lib.hid (clone_any A n c _ w h hnn)
  have HT := Lib.hid ht
  have HOK := Lib.hid hok
  have HN := Lib.hid hne
  clear h ht hok hne hle hnn
  have q0 : ∀ w : World, (binOp .eql 61 .nilIface .nilIface).run Tryz.prog w = .ok (.bool true) w := fun _ => by kernel_rfl
  go_enter Tryz.func24, Tryz.ntmps24
  go_wp2_with fail
  refine HC.out.mono ?_
  rintro e w1 ⟨A1, c1, rfl, hr1, hb1⟩
  have HR1 := Lib.hid hr1
  have HB1 := Lib.hid hb1
  clear hr1 hb1
  go_wp2_with fail
  refine (newma_any A1 _ c1 hs w1 (HT.out.below HB1.out) HOK.out HR1.out hn HN.out).mono ?_
  rintro e w2 ⟨v, cs, rfl, hcs, hpr, hown, hb2⟩
  have hcl : 0 < cs.length := by have := congrArg List.length hcs; rw [List.length_map] at this; omega
  obtain ⟨g, c2, rfl, hms⟩ := MS.of_own hown hcl
  have HCS := Lib.hid hcs
  have HPR := Lib.hid hpr
  have HMS := Lib.hid hms
  have HB := Lib.hid (HB1.out.trans (hb2.mono HB1.out.size))
  clear hcs hpr hms hown hb2
  go_wp2_with fail
  go_ret2
  exact ⟨g, c2, cs, rfl, HCS.out, HPR.out, HMS.out, HB.out⟩
theorem splitlast_any (g c : Nat) (cs : List (Hop × Nat)) (x : Hop × Nat) (w : World) (hn1 : cs.length ≤ 1000) (h : MS w g (cs.length + 1) c (cs ++ [x])) : Calls Tryz.prog 66 #[.slice (some ⟨g, 0, none⟩) (cs.length + 1) c] w (OutSL cs x w) := by
  rcases cs with _ | ⟨y, cs⟩
  · exact splitlast_one g c x w h
  · exact splitlast_more g c (y :: cs) x w (by simp) hn1 h
theorem codeOf_421 (kd : Nat) : codeOf kd = 421 ↔ kd % 8 = 6 := by
  have h8 : kd % 8 = 0 ∨ kd % 8 = 1 ∨ kd % 8 = 2 ∨ kd % 8 = 3 ∨ kd % 8 = 4 ∨ kd % 8 = 5 ∨ kd % 8 = 6 ∨ kd % 8 = 7 := by omega
  unfold codeOf
  rcases h8 with e | e | e | e | e | e | e | e <;> simp [e]
theorem vs_le (kd : Nat) (l : List UInt8) : vsOf kd ≤ (hopBytes kd l).length := by
  have h8 : kd % 8 = 0 ∨ kd % 8 = 1 ∨ kd % 8 = 2 ∨ kd % 8 = 3 ∨ kd % 8 = 4 ∨ kd % 8 = 5 ∨ kd % 8 = 6 ∨ kd % 8 = 7 := by omega
  unfold vsOf hopBytes
  rcases h8 with e | e | e | e | e | e | e | e <;> simp [e]
theorem drop_id (kd : Nat) (l : List UInt8) (h : kd % 8 = 6) : (hopBytes kd l).drop (vsOf kd) = idOf l := by
  unfold vsOf hopBytes
  simp [h]
theorem field_code (v0 v1 v2 v3 v4 v5 : Value) (w : World) : (Instr.field 122 (.agg #[v0, v1, v2, v3, v4, v5]) 1).run Tryz.prog w = .ok v1 w := by kernel_rfl
/-- What peer.SplitAddr gives at an address with an ID behind it. -/
def OutPS (cs : List (Hop × Nat)) (x : Hop × Nat) (w : World) (e : Ending) (w' : World) : Prop :=
  ∃ T, e = .returned (.tuple #[T, .string ⟨(idOf x.1.l).toArray⟩]) ∧ ((cs = [] ∧ T = .slice none 0 0) ∨ (0 < cs.length ∧ ∃ b, T = .slice (some ⟨b, 0, none⟩) cs.length cs.length ∧ MS w' b cs.length cs.length cs)) ∧ Below w.heap.size w w'
set_option maxRecDepth 100000 in
set_option maxHeartbeats 2000000 in
theorem splitaddr_id (g c : Nat) (cs : List (Hop × Nat)) (x : Hop × Nat) (w : World) (hn1 : cs.length ≤ 1000) (hk : x.1.kd % 8 = 6) (hp : PR w (cs ++ [x])) (h : MS w g (cs.length + 1) c (cs ++ [x])) : Calls Tryz.prog 43 #[.slice (some ⟨g, 0, none⟩) (cs.length + 1) c] w (OutPS cs x w) := by
  have q : ∀ (w : World) (a : Option Addr) (n c n' c' : Nat), (binOp .eql 56 (.slice a n c) (.slice none n' c')).run Tryz.prog w = .ok (.bool a.isNone) w := fun w a n c n' c' => Lib.run_eql_slice_nil w _ _ a n c n' c' Tryz.underlying56
  obtain ⟨gp, hgp⟩ := hp x (by simp)
  have HP := Lib.hid hgp
  have hfc := fun v0 v1 v2 v3 v4 v5 => field_code v0 v1 v2 v3 v4 v5
  have hcode : codeOf x.1.kd = 421 := (codeOf_421 _).2 hk
  rw [hcode] at HP
  have HC := Lib.hid (splitlast_any g c cs x w hn1 h)
  have HK := Lib.hid hk
  clear hp h hcode hk hgp
  go_enter Tryz.func43, Tryz.ntmps43
  go_wp2_with fail
  refine HC.out.mono ?_
  rintro e w1 ⟨T, q1, rfl, h3, hT, hb⟩
  have HB := Lib.hid hb
  have HT := Lib.hid hT
  have H3 := Lib.hid h3
  clear h3 hb hT
  go_wp2_with fail
  refine (protocol_any q1 x.2 421 gp w1 H3.out.c1 (HP.out.below HB.out HP.out.lt)).mono ?_
  rintro e w2 ⟨v0, v2, v3, v4, v5, rfl, hb2⟩
  have H3' := Lib.hid (H3.out.below hb2)
  have HT' := Lib.hid (HT.out.imp id (fun ⟨h0, b, e1, hm⟩ => ⟨h0, b, e1, hm.below hb2⟩) : (cs = [] ∧ T = Value.slice none 0 0) ∨ (0 < cs.length ∧ ∃ b, T = .slice (some ⟨b, 0, none⟩) cs.length cs.length ∧ MS w2 b cs.length cs.length cs))
  have HB' := Lib.hid (HB.out.trans (hb2.mono HB.out.size))
  clear hb2
  go_wp2_with fail
  refine (rawvalue_c3 q1 x w2 H3'.out (vs_le _ _) (by have := (hopBytes_le x.1.kd x.1.l).2; unfold Hop.bytes; omega)).mono ?_
  rintro e w3 ⟨A3, c3, rfl, hr3, hb3⟩
  have hd : x.1.bytes.drop (vsOf x.1.kd) = idOf x.1.l := drop_id _ _ HK.out
  rw [hd] at hr3 ⊢
  have hcv := run_convert_RB hr3 32 5 Tryz.underlying32 Tryz.underlying5 64 Tryz.underlying64
  have HT3 := Lib.hid (HT'.out.imp id (fun ⟨h0, b, e1, hm⟩ => ⟨h0, b, e1, hm.below hb3⟩) : (cs = [] ∧ T = Value.slice none 0 0) ∨ (0 < cs.length ∧ ∃ b, T = .slice (some ⟨b, 0, none⟩) cs.length cs.length ∧ MS w3 b cs.length cs.length cs))
  have HB3 := Lib.hid (HB'.out.trans (hb3.mono HB'.out.size))
  clear hr3 hb3 hd
  go_wp2_with fail
  go_ret2
  exact ⟨T, rfl, HT3.out, HB3.out⟩
set_option maxRecDepth 100000 in
set_option maxHeartbeats 2000000 in
theorem splitaddr_other (g c : Nat) (cs : List (Hop × Nat)) (x : Hop × Nat) (w : World) (hn1 : cs.length ≤ 1000) (hk : x.1.kd % 8 ≠ 6) (hp : PR w (cs ++ [x])) (h : MS w g (cs.length + 1) c (cs ++ [x])) : Calls Tryz.prog 43 #[.slice (some ⟨g, 0, none⟩) (cs.length + 1) c] w fun e w' => e = .returned (.tuple #[.slice (some ⟨g, 0, none⟩) (cs.length + 1) c, .string ⟨#[]⟩]) ∧ Below w.heap.size w w' := by
  have q : ∀ (w : World) (a : Option Addr) (n c n' c' : Nat), (binOp .eql 56 (.slice a n c) (.slice none n' c')).run Tryz.prog w = .ok (.bool a.isNone) w := fun w a n c n' c' => Lib.run_eql_slice_nil w _ _ a n c n' c' Tryz.underlying56
  obtain ⟨gp, hgp⟩ := hp x (by simp)
  have HP := Lib.hid hgp
  have hfc := fun v0 v1 v2 v3 v4 v5 => field_code v0 v1 v2 v3 v4 v5
  obtain ⟨K, hK⟩ : ∃ K, K = codeOf x.1.kd := ⟨_, rfl⟩
  have hne : ((K : Int) != 421) = true := by
    have : K ≠ 421 := by rw [hK]; exact fun e => hk ((codeOf_421 _).1 e)
    simp; omega
  rw [← hK] at HP
  have HC := Lib.hid (splitlast_any g c cs x w hn1 h)
  clear hp h hgp hK
  go_enter Tryz.func43, Tryz.ntmps43
  go_wp2_with fail
  refine HC.out.mono ?_
  rintro e w1 ⟨T, q1, rfl, h3, _, hb⟩
  have HB := Lib.hid hb
  have H3 := Lib.hid h3
  clear h3 hb
  go_wp2_with fail
  refine (protocol_any q1 x.2 K gp w1 H3.out.c1 (HP.out.below HB.out HP.out.lt)).mono ?_
  rintro e w2 ⟨v0, v2, v3, v4, v5, rfl, hb2⟩
  have HB' := Lib.hid (HB.out.trans (hb2.mono HB.out.size))
  clear hb2
  go_wp2_with fail
  go_ret2
  exact ⟨rfl, HB'.out⟩
end Go.Proofs.YtkmieonfhcmimaaGreatDoor
