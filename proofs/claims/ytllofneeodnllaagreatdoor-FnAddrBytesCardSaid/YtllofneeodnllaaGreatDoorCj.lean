/- multiaddr.NewComponent of an ID's text. No condition beyond. -/
import Derived.Test.YtllofneeodnllaaGreatDoorCc
import Derived.Test.YtllofneeodnllaaGreatDoorGt
import Derived.Test.YtllofneeodnllaaGreatDoorQn
import Derived.Test.YtllofneeodnllaaGreatDoorWc
namespace Go.Proofs.YtllofneeodnllaaGreatDoor
open Go.RowKit
variable {K : Nat}
attribute [local go_sem ↓] Go.wp_at_zero Go.wp_at_succ
set_option maxRecDepth 100000 in
set_option maxHeartbeats 4000000 in
theorem newcomponent_x (l : List UInt8) (s : ByteArray) (hs : Enc58 (idOf l) s) (w : World) (ht : Tab K w) : Calls Tryz.prog 52 #[.string ⟨#[112, 50, 112]⟩, .string s] w (OutNC l w) := by
  have q0 : ∀ w : World, (binOp .neq 58 .nilIface .nilIface).run Tryz.prog w = .ok (.bool false) w := fun _ => by kernel_rfl
  have hm := fun (n : Nat) (w : World) => method_stb 242 243 (.func (Fn.func 244) #[] #[]) n w
  have HS := Lib.hid (fun w => twrp_stb 242 243 244 (idOf l) s w ent_p2ps (fun w1 _ => p2pstb_x l s hs w1))
  have HT := Lib.hid ht
  have HNC := Lib.hid (fun A c g0 w ht hg h => newcomp_x (K := K) l A c g0 w ht hg h)
  obtain ⟨I, hI⟩ : ∃ I, I = idOf l := ⟨_, rfl⟩
  rw [← hI] at HS HNC
  clear hs ht hI
  go_enter Tryz.func52, Tryz.ntmps52
  go_wp2_with fail
  refine (pname_p2p _).mono ?_
  rintro e w1 ⟨g, rfl, _, hr, hb⟩
  have HB1 := Lib.hid hb
  have HG1 := Lib.hid hr
  clear hb hr
  go_wp2_with fail
  rw [run_storeCells_new w1 89 #[.string ⟨#[]⟩, .int .i64 0, .slice none 0 0, .int .i64 0, .bool false, .nilIface] (pcells 421 g) rfl (pcells_one _ _)]
  have hk := Blk.new w1 89 (pcells 421 g)
  have k1 : (w1.alloc (.cells (pcells 421 g) 89)).cell? ⟨w1.heap.size, 1, none⟩ = some (.int .i64 421) := hk.cell 1
  have k5 : (w1.alloc (.cells (pcells 421 g) 89)).cell? ⟨w1.heap.size, 5, none⟩ = some (.iface 266 (.agg #[.func (Fn.func 242) #[] #[], .func (Fn.func 243) #[] #[], .func (Fn.func 244) #[] #[]])) := hk.cell 5
  have HK := Lib.hid hk
  have hba := (Below.refl _ w1).alloc (Nat.le_refl _) (.cells (pcells 421 g) 89)
  have HB2 := Lib.hid (HB1.out.trans (hba.mono HB1.out.size))
  have HG2 := Lib.hid (HG1.out.below hba HG1.out.lt)
  clear hk hba
  go_wp2_with fail
  refine (HS.out _).mono ?_
  rintro e w3 ⟨A3, c3, rfl, hr3, hb3⟩
  have HR3 := Lib.hid hr3
  have HB3 := Lib.hid (HB2.out.trans (hb3.mono HB2.out.size))
  have HG3 := Lib.hid (HG2.out.below hb3 HG2.out.lt)
  have hk3 := HK.out.below hb3 HK.out.lt
  have p0 : w3.cell? ⟨w1.heap.size, 0, none⟩ = some (.string ⟨#[112, 50, 112]⟩) := hk3.cell 0
  have p1 : w3.cell? ⟨w1.heap.size, 1, none⟩ = some (.int .i64 421) := hk3.cell 1
  have p2 : w3.cell? ⟨w1.heap.size, 2, none⟩ = some (.slice (some ⟨g, 0, none⟩) 2 2) := hk3.cell 2
  have p3 : w3.cell? ⟨w1.heap.size, 3, none⟩ = some (.int .i64 (-1)) := hk3.cell 3
  have p4 : w3.cell? ⟨w1.heap.size, 4, none⟩ = some (.bool false) := hk3.cell 4
  have p5 : w3.cell? ⟨w1.heap.size, 5, none⟩ = some (.iface 266 (.agg #[.func (Fn.func 242) #[] #[], .func (Fn.func 243) #[] #[], .func (Fn.func 244) #[] #[]])) := hk3.cell 5
  clear hr3 hb3 hk3
  go_wp2_with fail
  refine (HNC.out A3 c3 g w3 (HT.out.below HB3.out) HG3.out HR3.out).mono ?_
  rintro e w4 ⟨q, p, gp, rfl, hc3, hp, hb4⟩
  have HC3 := Lib.hid hc3
  have HP4 := Lib.hid hp
  have HB4 := Lib.hid (HB3.out.trans (hb4.mono HB3.out.size))
  clear p0 p1 p2 p3 p4 p5 hc3 hp hb4
  go_wp2_with fail
  go_ret2
  exact ⟨q, p, gp, rfl, HC3.out, HP4.out, HB4.out⟩
end Go.Proofs.YtllofneeodnllaaGreatDoor

/- impl.infoOf at a peer with addresses: the ID, and the addresses read. No condition beyond. -/
namespace Go.Proofs.YtllofneeodnllaaGreatDoor
open Go.RowKit
variable {K : Nat}
attribute [local go_sem ↓] Go.wp_at_zero Go.wp_at_succ
theorem mad_info : (Tryz.prog.info? 53).map (fun i => (i.zero, i.size, i.bytes)) = some (some (.slice none 0 0), 1, 24) := by kernel_rfl
/-- What addresses are read of. -/
structure AOk (K : Nat) (hs : List Hop) : Prop where
  ne : hs ≠ []
  le : hs.length ≤ 100
  ok : ∀ x ∈ hs, HopOk K x.kd x.l
theorem TrOk.grown_row {w w' : World} {t : Tr} (h : TrOk w t) {base : Nat} {v : Value} {ts : List Tr} (ho : w.ownsRow base 53 1 v ts.length (trCells ts)) (hn : ts = [] → v.ownBlock = none) (hg : w.grownBy w' v.ownBlock) : TrOk w' t :=
  h.kept hg (h.off_row ho hn).1 (h.off_row ho hn).2
theorem TrOk.second {w : World} {t : Tr} (h : TrOk w t) : ∃ q, w.cell? ⟨t.g, 1, none⟩ = some (.pointer q) := by
  obtain ⟨g, c, cs⟩ := t
  rcases cs with _ | ⟨x, cs⟩
  · exact absurd h.pos (by simp)
  · exact ⟨_, h.ms.cell 1 (.pointer (some ⟨x.2, 0, none⟩)) rfl⟩
theorem TrOk.far {w : World} {t : Tr} (h : TrOk w t) {g : Nat} {ty : TypeId} {cs : Array Value} (hb : Blk w g ty cs) (h0 : ∀ q, cs[1]? ≠ some (.pointer q)) (hty : 89 ≠ ty) (i : Nat) (u : Value) : TrOk (w.setCell ⟨g, i, none⟩ u) t := by
  refine h.kept (only_setCell (World.grownBy.refl w _) (.inl rfl) u) (fun e => ?_) (fun x hx e => ?_)
  · obtain ⟨s, hs⟩ := h.second
    injection e with e
    subst e
    exact h0 s ((hb.cell 1).symm.trans hs)
  · obtain ⟨g', hk⟩ := h.pr x hx
    injection e with e
    subst e
    exact Blk.ne_ hk hb hty rfl
theorem own_set {w : World} {base : Nat} {e : TypeId} {size n : Nat} {v : Value} {xs : List Value} (h : w.ownsRow base e size v n xs) {g : Nat} {t : TypeId} {cs : Array Value} (hb : Blk w g t cs) (hne : e ≠ t) (i : Nat) (u : Value) : (w.setCell ⟨g, i, none⟩ u).ownsRow base e size v n xs :=
  h.kept (only_setCell (World.grownBy.refl w _) (.inl rfl) u) (.inr (own_blk_ne h hb hne))
set_option maxRecDepth 100000 in
set_option maxHeartbeats 4000000 in
theorem infoof_addrs (p : Part) (A : Option Addr) (n c : Nat) (ps : List Part) (hss : List (List Hop)) (w : World) (ht : Tab K w) (h : RB w w.heap.size p.A p.n p.c p.l) (hl : LS w w.heap.size A n c ps) (he : ps.map (·.l) = hss.map addrBytes)
    (hok : ∀ hs ∈ hss, AOk K hs) (hn : n ≤ 1000) : Calls Tryz.prog 32 #[.agg #[.slice p.A p.n p.c, .slice A n c]] w fun e w' =>
    ∃ v ts, e = .returned (.agg #[.string ⟨p.l.toArray⟩, v]) ∧ w'.ownsRow w.heap.size 53 1 v n (trCells ts) ∧ ts.map (fun t => t.cs.map (·.1)) = hss ∧ (∀ t ∈ ts, TrOk w' t) ∧ Below w.heap.size w w' := by
  obtain ⟨i0, hi0, hz0, hz1, hz2⟩ := info_parts mad_info
  obtain ⟨w0, hw0⟩ : ∃ w0, w0 = (w.alloc (.cells #[.slice p.A p.n p.c, .slice A n c] 43)).alloc (.cells #[.string ⟨#[]⟩, .slice none 0 0] 70) := ⟨_, rfl⟩
  have hb0 : Below w.heap.size w w0 := by rw [hw0]; exact ((Below.refl _ w).alloc (Nat.le_refl _) _).alloc (by simp) _
  have hk0 : Blk w0 w.heap.size 43 #[.slice p.A p.n p.c, .slice A n c] := by rw [hw0]; exact (Blk.new w _ _).alloc _
  have hk1 : Blk w0 (w.heap.size + 1) 70 #[.string ⟨#[]⟩, .slice none 0 0] := by rw [hw0]; exact Blk.new_ (by simp) _ _
  have hs0 : w0.heap.size = w.heap.size + 1 + 1 := by rw [hw0]; simp
  have cvt := run_convert_RB (h.next hb0) 23 5 Tryz.underlying23 Tryz.underlying5 56 Tryz.underlying56
  have c1 : w0.cell? ⟨w.heap.size, 1, none⟩ = some (.slice A n c) := hk0.cell 1
  have lt0 : w.heap.size < w0.heap.size := hk0.lt
  obtain ⟨w6, hw6⟩ : ∃ w6, w6 = w0.alloc (.cells #[.string ⟨p.l.toArray⟩, .slice none 0 0] 70) := ⟨_, rfl⟩
  have hn6 : Blk w6 w0.heap.size 70 #[.string ⟨p.l.toArray⟩, .slice none 0 0] := by rw [hw6]; exact Blk.new _ _ _
  have hb6 : Below w0.heap.size w0 w6 := by rw [hw6]; exact (Below.refl _ w0).alloc (Nat.le_refl _) _
  rw [hs0] at hn6
  have HB6 := Lib.hid (hb0.trans (hb6.mono hb0.size))
  have HK6 := Lib.hid (hk1.below hb6 hk1.lt)
  have HN6 := Lib.hid hn6
  have HW6 := Lib.hid hw6
  have HW0 := Lib.hid hw0
  have HT := Lib.hid ht
  have HL := Lib.hid hl
  have HLL := Lib.hid hl.len
  have HE := Lib.hid he
  have HOK := Lib.hid hok
  have HNN := Lib.hid hn
  rw [hw0] at cvt
  rw [hw0] at c1
  clear hb0 hk0 hk1 hw0 hn6 hb6 hw6 hs0 h lt0 ht hl he hok hn
  go_enter Tryz.func32, Tryz.ntmps32
  go_wp2_with fail
  rw [← HW0.out, ← HW6.out]
  go_loopw [15] (fun i wr => ∃ k : Nat, k ≤ n ∧ i = .int .i64 k ∧ Below w.heap.size w wr ∧ Blk wr (w.heap.size + 1) 70 #[.string ⟨#[]⟩, .slice none 0 0] ∧
    ∃ v ts, Blk wr (w.heap.size + 1 + 1) 70 #[.string ⟨p.l.toArray⟩, v] ∧ wr.ownsRow w.heap.size 53 1 v k (trCells ts) ∧ ts.map (fun t => t.cs.map (·.1)) = hss.take k ∧ (∀ t ∈ ts, TrOk wr t) ∧ (k = 0 → v = .slice none 0 0)) (fun i _ => n - (intOf i).toNat)
  case atStart => exact ⟨0, by omega, rfl, HB6.out, HK6.out, _, [], HN6.out, World.ownsRow_nil _ _ _ _, rfl, fun t ht => by simp at ht, fun _ => rfl⟩
  case round =>
    obtain ⟨k, hk, rfl, hb, hkr, v, ts, hko, hown, hts, htr, hz⟩ := hrel
    have HB := Lib.hid hb
    have HKR := Lib.hid hkr
    have HKO := Lib.hid hko
    have HO := Lib.hid hown
    have HTS := Lib.hid hts
    have HTR := Lib.hid htr
    have HZ := Lib.hid hz
    clear hb hkr hko hown hts htr hz
    by_cases hlt : k < n
    · have hlt' : k < ps.length := by rw [HLL.out]; exact hlt
      have hlh : k < hss.length := by have := congrArg List.length HE.out; simp at this; omega
      obtain ⟨ad, rfl, hbk, c0, hr⟩ := (HL.out.below HB.out).at_ k hlt'
      have hpl : (ps[k]).l = addrBytes hss[k] := by
        have := congrArg (fun x : List (List UInt8) => x[k]?) HE.out
        simpa [hlt', hlh] using this
      have htk : hss.take (k + 1) = hss.take k ++ [hss[k]] := List.take_succ_eq_append_getElem hlh
      have hao := HOK.out _ (List.getElem_mem hlh)
      generalize ps[k] = p1 at *
      generalize hss[k] = hs at *
      unfold Part.v at c0
      rw [hpl] at hr
      have HA := Lib.hid (addrof_impl p1.A p1.n p1.c hs wr (HT.out.below HB.out) hao.ok (hr.more HB.out.size) hao.le hao.ne)
      have HTK := Lib.hid htk
      have HAO := Lib.hid hao.ne
      clear hr hpl htk hao hlt' hlh
      go_wp2_with fail
      refine HA.out.mono ?_
      rintro e w3 ⟨g, c3, cs, rfl, hcs, hpr, hms, hb3⟩
      have HB3 := Lib.hid (HB.out.trans (hb3.mono HB.out.size))
      have hko3 := HKO.out.below hb3 HKO.out.lt
      have hbq := (Below.refl _ w3).alloc (Nat.le_refl _) (.cells #[.slice (some ⟨g, 0, none⟩) cs.length c3] 53)
      have hbw := hb3.trans (hbq.mono hb3.size)
      have HBW := Lib.hid hbw
      have hoo := own_below HO.out hbw
      have HOO := Lib.hid hoo
      have HRN := Lib.hid (reads_new w3 #[.slice (some ⟨g, 0, none⟩) cs.length c3] 53 1 1 rfl)
      have e1 : w3.cell? ⟨w.heap.size + 1 + 1, 1, none⟩ = some v := hko3.cell 1
      have hpos : 0 < cs.length := by
        rcases cs with _ | ⟨x, cs⟩
        · exact absurd hcs.symm HAO.out
        · simp
      have HKQ := Lib.hid (hko3.alloc (.cells #[.slice (some ⟨g, 0, none⟩) cs.length c3] 53))
      have HTN := Lib.hid ((⟨hms, hpr, hpos⟩ : TrOk w3 ⟨g, c3, cs⟩).below hbq)
      have HCS := Lib.hid hcs
      clear hcs hpr hms hb3 hko3 hbq hbw hoo hpos
      go_wp2_with (at_builtin; refine wpList_append_any _ rfl _ _ _ rfl w.heap.size 53 i0 _ 1 24 Tryz.underlying68 hi0 hz0 hz1 hz2 rfl (by decide) _ _ _ rfl HOO.out _ _ 1 1 _ rfl HRN.out ?c0 ?c1 ?c2 ?c3 ?_)
      case c0 => intro u hu; simp at hu; subst hu; rfl
      case c1 => have := HNN.out; unfold maxLen; omega
      case c2 => have := HNN.out; omega
      case c3 => exact Nat.le_trans HB.out.size HBW.out.size
      intro v' w5 hown hgrow _hat
      obtain ⟨A5, c5, rfl⟩ := own_slice hown
      have hb5 := (HB.out.trans (HBW.out.mono HB.out.size)).grown hgrow (Nat.le_trans HB.out.size HBW.out.size) (fun g hg => (HOO.out.lt g hg).1)
      have hko5 := HKQ.out.grown hgrow (fun e => own_blk_ne HOO.out HKQ.out (by decide) e.symm)
      have hkr5 := (HKR.out.below HBW.out HKR.out.lt).grown hgrow (fun e => own_blk_ne HOO.out (HKR.out.below HBW.out HKR.out.lt) (by decide) e.symm)
      have hlen : ts.length = k := by have := HO.out.1; rw [trCells_length] at this; omega
      have hnil : ts = [] → v.ownBlock = none := fun e => by
        have hk0 : k = 0 := by rw [← hlen, e]; rfl
        rw [HZ.out hk0]; rfl
      have hoo : (w3.alloc (.cells #[.slice (some ⟨g, 0, none⟩) cs.length c3] 53)).ownsRow w.heap.size 53 1 v ts.length (trCells ts) := by rw [hlen]; exact HOO.out
      have htr5 : ∀ t ∈ ts ++ [⟨g, c3, cs⟩], TrOk w5 t := fun t ht => by
        rcases List.mem_append.1 ht with h1 | h1
        · exact ((HTR.out t h1).below HBW.out).grown_row hoo hnil hgrow
        · rw [List.mem_singleton] at h1
          subst h1
          exact HTN.out.grown_row hoo hnil hgrow
      have e5 : w5.cell? ⟨w.heap.size + 1 + 1, 1, none⟩ = some v := hko5.cell 1
      have f5 := hko5.frozen 1
      have hof : w5.ownsRow w.heap.size 53 1 (.slice A5 (k + 1) c5) (k + 1) (trCells (ts ++ [⟨g, c3, cs⟩])) := by
        rw [trCells_snoc]
        exact hown
      have HOF := Lib.hid hof
      have HB5 := Lib.hid hb5
      have HKO5 := Lib.hid hko5
      have HKR5 := Lib.hid hkr5
      have HTR5 := Lib.hid htr5
      have hkk := HNN.out
      clear hown hgrow _hat hof hb5 hko5 hkr5 hlen hnil hoo htr5
      go_wp2_with fail
      go_roundw
      case rel =>
        refine ⟨k + 1, by omega, by go_num, HB5.out.setCell (p := ⟨w.heap.size + 1 + 1, 1, none⟩) (Nat.le_trans (Nat.le_succ _) (Nat.le_succ _)) _, HKR5.out.far (by simp) _, _, ts ++ [⟨g, c3, cs⟩], HKO5.out.set_ 1 _, own_set HOF.out HKO5.out (by decide) 1 _, ?_, fun t ht => (HTR5.out t ht).far HKO5.out (fun s e => ?_) (by decide) 1 _, fun h => absurd h (Nat.succ_ne_zero k)⟩
        · rw [List.map_append, HTS.out, HTK.out]
          simp [HCS.out]
        · obtain ⟨A0, c0', e0⟩ := own_slice HO.out
          rw [e0] at e
          cases e
      case measure => simp [intOf]; omega
    · obtain rfl : k = n := by omega
      have d0 := HKO.out.cell 0
      have d1 := HKO.out.cell 1
      have e0 := HKR.out.cell 0
      have e1 := HKR.out.cell 1
      have f0 := HKR.out.frozen 0
      have f1 := HKR.out.frozen 1
      have hts := HTS.out
      have hle : hss.length = k := by have := congrArg List.length HE.out; simp at this; rw [← this, HLL.out]
      rw [List.take_of_length_le (by omega)] at hts
      have HTS2 := Lib.hid hts
      clear hts hle
      obtain ⟨A0, c0', rfl⟩ := own_slice HO.out
      go_wp2_with fail
      have hs1 := HKR.out.set_ 0 (.string ⟨p.l.toArray⟩)
      have hst := hs1.set_ 1 (.slice A0 k c0')
      refine bodyPost_ret (results_cell_row rfl _ _ (w.heap.size + 1) 70 #[.string ⟨p.l.toArray⟩, .slice A0 k c0'] (0, 0) _ rfl hst Tryz.underlying70 rfl (pinfo_size.trans rfl)) rfl ?_
      refine ⟨_, ts, rfl, own_set (own_set HO.out HKR.out (by decide) 0 _) hs1 (by decide) 1 _, HTS2.out, fun t ht => ((HTR.out t ht).far HKR.out (fun q e => ?_) (by decide) 0 _).far hs1 (fun q e => ?_) (by decide) 1 _, (HB.out.setCell (p := ⟨w.heap.size + 1, 0, none⟩) (Nat.le_succ _) _).setCell (p := ⟨w.heap.size + 1, 1, none⟩) (Nat.le_succ _) _⟩
      · cases e
      · cases e
end Go.Proofs.YtllofneeodnllaaGreatDoor

/- append of a slice of another name of the same kind. No condition. -/
namespace Go.Proofs.YtllofneeodnllaaGreatDoor
open Go.RowKit
section
variable {P : Program} (w : World)
theorem run_append_types (t u ty e e' : TypeId) (ht : P.underlying t = some (.slice e)) (hu : P.underlying u = some (.slice e')) (v x : Value) : (Builtin.append_ #[t, u] ty #[v, x]).run P w = (Builtin.append_ #[t, t] ty #[v, x]).run P w := by
  unfold Builtin.append_
  cases v <;> simp [run_underlying ht, run_underlying hu]
theorem wpList_append_two {ops : Array Oper} {rest : List Oper} {o : Oper} {a : Act} {Q : Exit → Act → World → Prop} (hgd : o.guard = none) (s x : Operand) (t u : TypeId)
    (ho : o.op = .call { callee := .builtin .append, args := #[s, x], argTypes := #[t, u] })
    (base : Nat) (e e' : TypeId) (i : TypeInfo) (z : Value) (size bytes : Nat) (ht : P.underlying t = some (.slice e)) (hu : P.underlying u = some (.slice e')) (hi : P.info? e = some i) (hz : i.zero = some z)
    (hsize : i.size = size) (hby : i.bytes = bytes) (hzs : z.cells.size = size) (hsz : 0 < size)
    (v : Value) (n : Nat) (xs : List Value) (hs : a.eval s = v) (hown : w.ownsRow base e size v n xs)
    (B : Nat) (A : Option Addr) (m c : Nat) (news : List Value) (hx : a.eval x = .slice A m c) (hr : Reads w B size A m news) (h1 : ∀ u ∈ news, u.oneCell' = true)
    (h63 : n + m ≤ maxLen) (hbytes : (n + m) * bytes ≤ 140737488355328) (hbase : base ≤ w.heap.size)
    (h : ∀ v' w', w'.ownsRow base e size v' (n + m) (xs ++ news) → w.grownBy w' v.ownBlock → (v'.ownBlock = v.ownBlock ∨ v'.ownBlock = some w.heap.size) → wpList P ops Q rest (a.put o.dst v') w') : wpList P ops Q (o :: rest) a w := by
  refine wpList_plain hgd fun _ hK => ?_
  obtain ⟨v', w', hrun, h2, h3, h4⟩ := run_append_any (P := P) w base t o.type e i z size bytes ht hi hz hsize hby hzs hsz v n xs hown B A m c news hr h1 h63 hbytes hbase
  rw [← run_append_types w t u o.type e e' ht hu] at hrun
  unfold Oper.wp execOp
  simp only [ho, resolve, invoke, builtin, Sem.run_bind, Sem.run_pure, Result.andThen_ok, List.map_toArray, List.map_cons, List.map_nil, hs, hx, hrun]
  exact hK _ _ (h v' w' h2 h3 h4)
end
end Go.Proofs.YtllofneeodnllaaGreatDoor

/- Multiaddr.Encapsulate of one component: the components, and it behind them. No condition beyond. -/
namespace Go.Proofs.YtllofneeodnllaaGreatDoor
open Go.RowKit
variable {K : Nat}
attribute [local go_sem ↓] Go.wp_at_zero Go.wp_at_succ
/-- An address of new memory. -/
def OutTr (cs : List (Hop × Nat)) (w : World) (e : Ending) (w' : World) : Prop :=
  ∃ g c, e = .returned (.slice (some ⟨g, 0, none⟩) cs.length c) ∧ MS w' g cs.length c cs ∧ Below w.heap.size w w'
set_option maxRecDepth 100000 in
set_option maxHeartbeats 1000000 in
theorem compma_x (q : Nat) (x : Hop × Nat) (w : World) (h : C3 w q x) : Calls Tryz.prog 53 #[.pointer (some ⟨q, 0, none⟩)] w (OutTr [x] w) := by
  have c0 := h.c0
  have c1 := h.c1
  have c2 := h.c2
  clear h
  go_enter Tryz.func53, Tryz.ntmps53
  go_wp2_with fail
  go_ret
  have hk := Blk.new w 83 (compCells [x]).toArray
  refine ⟨w.heap.size, 1, rfl, ⟨rfl, fun j u hu => ?_, hk.lt, Nat.le_refl _, by simp [maxLen]⟩, (Below.refl _ w).alloc (Nat.le_refl _) _⟩
  exact (hk.cell j).trans (by simpa using hu)
set_option maxRecDepth 100000 in
set_option maxHeartbeats 1000000 in
theorem mama_x (A : Option Addr) (n c : Nat) (w : World) : Calls Tryz.prog 361 #[.slice A n c] w fun e w' => e = .returned (.slice A n c) ∧ w = w' := by
  go_enter Tryz.func361, Tryz.ntmps361
  go_wp2_with fail
  go_ret
  exact ⟨rfl, rfl⟩
theorem method_ma (A : Option Addr) (k c n : Nat) (w : World) : (method (n + 1) 53 (.slice A k c) "Multiaddr").run Tryz.prog w = .ok (361, .slice A k c) w := by kernel_rfl
theorem method_comp (q n : Nat) (w : World) : (method (n + 1) 107 (.pointer (some ⟨q, 0, none⟩)) "Multiaddr").run Tryz.prog w = .ok (53, .pointer (some ⟨q, 0, none⟩)) w := by kernel_rfl
theorem MS.reads {w : World} {g n c : Nat} {cs : List (Hop × Nat)} (h : MS w g n c cs) : Reads w w.heap.size 3 (some ⟨g, 0, none⟩) n (compCells cs) := by
  refine ⟨by rw [compCells_length, h.len], fun _ => ⟨_, rfl, h.lt, fun j u hu => ?_⟩⟩
  have hadd : (⟨g, 0, none⟩ : Addr).add j = ⟨g, j, none⟩ := by unfold Addr.add; split <;> simp_all
  rw [hadd]
  exact h.cell j u hu
set_option maxRecDepth 100000 in
set_option maxHeartbeats 4000000 in
theorem join_x (g c gi : Nat) (cs : List (Hop × Nat)) (q : Nat) (x : Hop × Nat) (w : World) (hn : cs.length ≤ 1000) (h : MS w g cs.length c cs) (hx : C3 w q x)
    (hi : Blk w gi 141 #[.iface 53 (.slice (some ⟨g, 0, none⟩) cs.length c), .iface 107 (.pointer (some ⟨q, 0, none⟩))]) :
    Calls Tryz.prog 71 #[.slice (some ⟨gi, 0, none⟩) 2 2] w (OutTr (cs ++ [x]) w) := by
  obtain ⟨i0, hi0, hz0, hz1, hz2⟩ := info_parts mad_info
  have hm1 := fun n w => method_ma (some ⟨g, 0, none⟩) cs.length c n w
  have hm2 := fun n w => method_comp q n w
  have c0 : w.cell? ⟨gi, 0, none⟩ = some (.iface 53 (.slice (some ⟨g, 0, none⟩) cs.length c)) := hi.cell 0
  have c1 : w.cell? ⟨gi, 1, none⟩ = some (.iface 107 (.pointer (some ⟨q, 0, none⟩))) := hi.cell 1
  have lt0 := hi.lt
  obtain ⟨j0, hj0, jz0, jz1, jz2⟩ := info_parts comp_info2
  have hmk2 := fun W : World => run_make_rowN (P := Tryz.prog) 52 83 j0 _ Tryz.underlying52 hj0 jz0 .i64 .i64 0 (cs.length + 1) (Nat.zero_le _) (by rw [jz2]; omega) (by omega) W
  rw [show ((0 : Nat) : Int) = 0 from rfl, show ((cs.length + 1 : Nat) : Int) = (cs.length : Int) + 1 by omega] at hmk2
  have HMK := Lib.hid hmk2
  clear hmk2
  have hmk := fun W : World => run_make_rowN (P := Tryz.prog) 68 53 i0 _ Tryz.underlying68 hi0 hz0 .i64 .i64 2 2 (Nat.le_refl _) (by rw [hz2]; omega) (by omega) W
  rw [hz1, show ((2 : Nat) : Int) = 2 from rfl] at hmk
  have HH := Lib.hid h
  have HX := Lib.hid hx
  clear h hx hi
  go_enter Tryz.func71, Tryz.ntmps71
  go_wp2_with fail
  refine wp_loop_rounds 3 ?_
  rw [rounds_succ]
  go_wp2_with fail
  obtain ⟨w1, hw1⟩ : ∃ w1, w1 = w.alloc (.cells (madeCells #[.slice none 0 0] 2) 53) := ⟨_, rfl⟩
  rw [← hw1]
  have hk1 : Blk w1 w.heap.size 53 #[.slice none 0 0, .slice none 0 0] := by rw [hw1, show madeCells #[Value.slice none 0 0] 2 = #[.slice none 0 0, .slice none 0 0] by kernel_rfl]; exact Blk.new _ _ _
  have hb1 : Below w.heap.size w w1 := by rw [hw1]; exact (Below.refl _ w).alloc (Nat.le_refl _) _
  have k0 : w1.cell? ⟨w.heap.size, 0, none⟩ = some (.slice none 0 0) := hk1.cell 0
  have f0 := hk1.frozen 0
  have d1 : w1.cell? ⟨gi, 1, none⟩ = some (.iface 107 (.pointer (some ⟨q, 0, none⟩))) := (hb1.cell lt0).trans c1
  have HK1 := Lib.hid hk1
  have HB1 := Lib.hid hb1
  clear hw1 hk1 hb1 hmk c0 c1
  refine (mama_x _ _ _ w1).mono ?_
  rintro e w1' ⟨rfl, rfl⟩
  obtain ⟨w2, hw2⟩ : ∃ w2, w2 = w1.setCell ⟨w.heap.size, 0, none⟩ (.slice (some ⟨g, 0, none⟩) cs.length c) := ⟨_, rfl⟩
  have hk2 : Blk w2 w.heap.size 53 #[.slice (some ⟨g, 0, none⟩) cs.length c, .slice none 0 0] := by rw [hw2]; exact HK1.out.set_ 0 _
  have hb2 : Below w.heap.size w w2 := by rw [hw2]; exact HB1.out.setCell (p := ⟨w.heap.size, 0, none⟩) (Nat.le_refl _) _
  have HK2 := Lib.hid hk2
  have HB2 := Lib.hid hb2
  have HW2 := Lib.hid hw2
  have HM := Lib.hid (compma_x q x w2 (HX.out.below hb2))
  have d2 : w2.cell? ⟨gi, 1, none⟩ = some (.iface 107 (.pointer (some ⟨q, 0, none⟩))) := by rw [hw2]; exact (World.cell?_setCell_other w1 _ _ _ (fun e => by injection e with e; omega)).trans d1
  clear hk2 hb2 hw2
  go_wp2_with fail
  rw [← HW2.out]
  rw [rounds_succ]
  go_wp2_with fail
  refine HM.out.mono ?_
  rintro e w3 ⟨g3, c3, rfl, hm3, hb3⟩
  have hk3 := HK2.out.below hb3 HK2.out.lt
  have k1 : w3.cell? ⟨w.heap.size, 1, none⟩ = some (.slice none 0 0) := hk3.cell 1
  have f1 := hk3.frozen 1
  obtain ⟨w4, hw4⟩ : ∃ w4, w4 = w3.setCell ⟨w.heap.size, 1, none⟩ (.slice (some ⟨g3, 0, none⟩) 1 c3) := ⟨_, rfl⟩
  have hk4 : Blk w4 w.heap.size 53 #[.slice (some ⟨g, 0, none⟩) cs.length c, .slice (some ⟨g3, 0, none⟩) 1 c3] := by rw [hw4]; exact hk3.set_ 1 _
  have hb4 : Below w.heap.size w w4 := by rw [hw4]; exact (HB2.out.trans (hb3.mono HB2.out.size)).setCell (p := ⟨w.heap.size, 1, none⟩) (Nat.le_refl _) _
  have hm4 : MS w4 g3 1 c3 [x] := by
    have hne : g3 ≠ w.heap.size := fun e => by
      have h0 := hm3.cell 0 (.string ⟨x.1.bytes.toArray⟩) rfl
      rw [e, hk3.cell 0] at h0
      simp at h0
    rw [hw4]
    exact ⟨rfl, fun j u hu => (World.cell?_setCell_other w3 _ _ _ (fun e => by injection e with e; first | exact hne e | exact hne e.symm)).trans (hm3.cell j u hu), by simpa [World.setCell] using hm3.lt, hm3.cap, hm3.max⟩
  have e0 : w4.cell? ⟨w.heap.size, 0, none⟩ = some (.slice (some ⟨g, 0, none⟩) cs.length c) := hk4.cell 0
  have e1 : w4.cell? ⟨w.heap.size, 1, none⟩ = some (.slice (some ⟨g3, 0, none⟩) 1 c3) := hk4.cell 1
  have HK4 := Lib.hid hk4
  have HB4 := Lib.hid hb4
  have HM4 := Lib.hid hm4
  have HW4 := Lib.hid hw4
  clear hk3 hk4 hb4 hm3 hm4 hb3 hw4 d1 d2
  go_wp2_with fail
  rw [← HW4.out]
  clear k0 k1 f0 f1
  rw [rounds_succ]
  go_wp2_with fail
  refine wp_loop_rounds 3 ?_
  rw [rounds_succ]
  go_wp2_with fail
  rw [rounds_succ]
  go_wp2_with fail
  have hmk2 := HMK.out
  have hnz : ((cs.length : Int) + 1 == 0) = false := by simp; omega
  rw [rounds_succ]
  go_wp2_with fail
  clear hmk2
  refine wp_gen (fun W => W.ownsRow w.heap.size 83 3 (.slice (some ⟨w4.heap.size, 0, none⟩) 0 (cs.length + 1)) 0 [] ∧ Below w4.heap.size w4 W) ⟨World.ownsRow_made w4 _ (cs.length + 1) HB4.out.size (by unfold maxLen; omega) (by rw [size_madeCells]), (Below.refl _ w4).alloc (Nat.le_refl _) _⟩ ?_
  rintro w5 ⟨hown5, hb45⟩
  have HO5 := Lib.hid hown5
  have HB45 := Lib.hid hb45
  have hk5 := HK4.out.below hb45 HK4.out.lt
  have g0 : w5.cell? ⟨w.heap.size, 0, none⟩ = some (.slice (some ⟨g, 0, none⟩) cs.length c) := hk5.cell 0
  have hb5 := HB4.out.trans (hb45.mono HB4.out.size)
  have hms5 := HH.out.below hb5
  have HRN := Lib.hid hms5.reads
  have HB5 := Lib.hid hb5
  have HM5 := Lib.hid (HM4.out.below hb45)
  have HK5 := Lib.hid hk5
  clear hown5 hb45 hk5 hb5 hms5
  refine wp_loop_rounds 3 ?_
  rw [rounds_succ]
  go_wp2_with (at_builtin; go_loud (refine wpList_append_two _ rfl _ _ _ _ rfl w.heap.size 83 83 j0 _ 3 32 Tryz.underlying52 Tryz.underlying53 hj0 jz0 jz1 jz2 rfl (by decide) _ _ _ rfl HO5.out _ _ cs.length c _ rfl HRN.out (compCells_one cs) ?c1 ?c2 ?c3 ?_))
  case c1 => unfold maxLen; omega
  case c2 => omega
  case c3 => exact HB5.out.size
  intro v6 w6 hown6 hgrow6 _hat
  obtain ⟨A6, c6, rfl⟩ := own_slice hown6
  have hb56 := (Below.refl w4.heap.size w5).grown hgrow6 HB45.out.size (fun k hk => by have := (HO5.out.lt k hk).1; simp [Value.ownBlock] at hk; omega)
  have hb46 := HB45.out.trans hb56
  have HB46 := Lib.hid hb46
  have HO6 := Lib.hid hown6
  have g1 : w6.cell? ⟨w.heap.size, 1, none⟩ = some (.slice (some ⟨g3, 0, none⟩) 1 c3) := (HK4.out.below hb46 HK4.out.lt).cell 1
  have HM6 := Lib.hid (HM4.out.below hb46)
  have HB6 := Lib.hid (HB4.out.trans (hb46.mono HB4.out.size))
  have HRX := Lib.hid (HM6.out.reads)
  clear g0 hown6 hgrow6 _hat hb56 hb46
  go_wp2_with fail
  rw [rounds_succ]
  go_wp2_with (at_builtin; go_loud (refine wpList_append_two _ rfl _ _ _ _ rfl w.heap.size 83 83 j0 _ 3 32 Tryz.underlying52 Tryz.underlying53 hj0 jz0 jz1 jz2 rfl (by decide) _ _ _ rfl HO6.out _ _ 1 c3 _ rfl HRX.out (compCells_one [x]) ?c1 ?c2 ?c3 ?_))
  case c1 => unfold maxLen; omega
  case c2 => omega
  case c3 => exact HB6.out.size
  intro v7 w7 hown7 hgrow7 _hat
  have e7 : compCells cs ++ compCells [x] = compCells (cs ++ [x]) := by simp [compCells]
  rw [e7] at hown7
  have hl7 : (cs ++ [x]).length = cs.length + 1 := by simp
  obtain ⟨g7, c7, rfl, hm7⟩ := MS.of_own (by rw [hl7]; exact hown7) (by rw [hl7]; omega)
  have hb7 := HB6.out.grown hgrow7 HB6.out.size (fun k hk => (HO6.out.lt k hk).1)
  rw [hl7] at hm7
  have HM7 := Lib.hid hm7
  have HB7 := Lib.hid hb7
  have HL7 := Lib.hid hl7
  rw [hl7]
  clear g1 hown7 hgrow7 _hat e7 hl7 hm7 hb7
  go_wp2_with fail
  rw [rounds_succ]
  go_wp2_with fail
  go_ret
  refine ⟨g7, c7, ?_, ?_, HB7.out⟩
  · rw [HL7.out]; rfl
  · rw [HL7.out]; exact HM7.out
set_option maxRecDepth 100000 in
set_option maxHeartbeats 2000000 in
theorem encap_x (g c : Nat) (cs : List (Hop × Nat)) (q : Nat) (x : Hop × Nat) (w : World) (hn : cs.length ≤ 1000) (h : MS w g cs.length c cs) (hx : C3 w q x) :
    Calls Tryz.prog 54 #[.slice (some ⟨g, 0, none⟩) cs.length c, .iface 107 (.pointer (some ⟨q, 0, none⟩))] w (OutTr (cs ++ [x]) w) := by
  have hb := (Below.refl _ w).alloc (Nat.le_refl _) (.cells #[.iface 53 (.slice (some ⟨g, 0, none⟩) cs.length c), .iface 107 (.pointer (some ⟨q, 0, none⟩))] 141)
  have HJ := Lib.hid (join_x g c w.heap.size cs q x _ hn (h.below hb) (hx.below hb) (Blk.new w 141 _))
  have HB := Lib.hid hb
  clear h hx hb
  go_enter Tryz.func54, Tryz.ntmps54
  go_wp2_with fail
  refine HJ.out.mono ?_
  rintro e w2 ⟨g2, c2, rfl, hm, hb2⟩
  have HM := Lib.hid hm
  have HB2 := Lib.hid (HB.out.trans (hb2.mono HB.out.size))
  clear hm hb2
  go_wp2_with fail
  go_ret
  refine ⟨g2, c2, ?_, HM.out, HB2.out⟩
  rw [List.length_append, List.length_singleton]
  rfl
end Go.Proofs.YtllofneeodnllaaGreatDoor

/- peer.AddrInfoToP2pAddrs: each address with the ID behind it. No condition beyond. -/
namespace Go.Proofs.YtllofneeodnllaaGreatDoor
open Go.RowKit
variable {K : Nat}
attribute [local go_sem ↓] Go.wp_at_zero Go.wp_at_succ
/-- What stands behind the addresses. -/
def withId (hss : List (List Hop)) (l : List UInt8) : List (List Hop) := if hss = [] then [[idHop l]] else hss.map (· ++ [idHop l])
theorem TrOk.grown_row2 {w w' : World} {t : Tr} (h : TrOk w t) {base n : Nat} {v : Value} {xs : List Value} (ho : w.ownsRow base 53 1 v n xs) (hs : ∀ b, v.ownBlock = some b → ∃ A m c, w.cell? ⟨b, 0, none⟩ = some (.slice A m c)) (hg : w.grownBy w' v.ownBlock) : TrOk w' t := by
  refine h.kept hg (fun e => ?_) (fun x hx e => ?_)
  · obtain ⟨s, h0⟩ := h.first
    obtain ⟨A, m, c, h1⟩ := hs t.g e.symm
    rw [h0] at h1
    cases h1
  · obtain ⟨g, hb⟩ := h.pr x hx
    exact own_blk_ne ho hb (by decide) e.symm
theorem pr_id (l : List UInt8) {w : World} {p g : Nat} (h : Blk w p 89 (pcells 421 g)) : PR w [(idHop l, p)] := fun x hx => by
  rw [List.mem_singleton] at hx
  subst hx
  exact ⟨g, h⟩
theorem pr_app {w : World} {cs ds : List (Hop × Nat)} (h : PR w cs) (k : PR w ds) : PR w (cs ++ ds) := fun x hx => by
  rcases List.mem_append.1 hx with h1 | h1
  · exact h x h1
  · exact k x h1
set_option maxRecDepth 100000 in
set_option maxHeartbeats 4000000 in
theorem top2p_x (l : List UInt8) (q : Nat) (v : Value) (n : Nat) (ts : List Tr) (hss : List (List Hop)) (w : World) (ht : Tab K w) (hq : Blk w q 70 #[.string ⟨(idOf l).toArray⟩, v]) {base : Nat}
    (ho : w.ownsRow base 53 1 v n (trCells ts)) (htr : ∀ t ∈ ts, TrOk w t) (hts : ts.map (fun t => t.cs.map (·.1)) = hss) (hn : n ≤ 1000) (hl : ∀ hs ∈ hss, hs.length ≤ 100) :
    Calls Tryz.prog 33 #[.pointer (some ⟨q, 0, none⟩)] w fun e w' => ∃ v' ts', e = .returned (.tuple #[v', .nilIface]) ∧ w'.ownsRow w.heap.size 53 1 v' ts'.length (trCells ts') ∧ (∀ t ∈ ts', TrOk w' t) ∧ ts'.map (fun t => t.cs.map (·.1)) = withId hss l ∧ Below w.heap.size w w' := by
  obtain ⟨i0, hi0, hz0, hz1, hz2⟩ := info_parts mad_info
  have q0 : ∀ w : World, (binOp .neq 58 .nilIface .nilIface).run Tryz.prog w = .ok (.bool false) w := fun _ => by kernel_rfl
  have c0 : w.cell? ⟨q, 0, none⟩ = some (.string ⟨(idOf l).toArray⟩) := hq.cell 0
  have HS := Lib.hid (idstring_x (idOf l) w (idOf_le l))
  have HNC := Lib.hid (fun s hs w ht => newcomponent_x (K := K) l s hs w ht)
  obtain ⟨I, hI⟩ : ∃ I, I = idOf l := ⟨_, rfl⟩
  rw [← hI] at c0 HS HNC hq
  have HQ := Lib.hid hq
  have HO := Lib.hid ho
  have HTR := Lib.hid htr
  have HTS := Lib.hid hts
  have HL := Lib.hid hl
  have HT := Lib.hid ht
  have hlen : ts.length = n := by have := ho.1; rw [trCells_length] at this; omega
  have HLEN := Lib.hid hlen
  clear hq ho htr hts hl ht hlen hI
  go_enter Tryz.func33, Tryz.ntmps33
  go_wp2_with fail
  refine HS.out.mono ?_
  rintro e w1 ⟨s, rfl, hs, hb1⟩
  have HB1 := Lib.hid hb1
  have HN1 := Lib.hid (HNC.out s hs w1 (HT.out.below hb1))
  clear hs hb1 HNC
  go_wp2_with fail
  refine HN1.out.mono ?_
  rintro e w2 ⟨q2, p, gp, rfl, hc3, hp, hb2⟩
  have hb02 := HB1.out.trans (hb2.mono HB1.out.size)
  have hq2 := HQ.out.below hb02 HQ.out.lt
  obtain ⟨A0, cc0, rfl⟩ := own_slice HO.out
  have c1 : w2.cell? ⟨q, 1, none⟩ = some (.slice A0 n cc0) := hq2.cell 1
  have HC3 := Lib.hid hc3
  have HP2 := Lib.hid hp
  have HB2 := Lib.hid hb02
  clear hc3 hp hb2 hb02 hq2
  by_cases hn0 : n = 0
  · subst hn0
    go_wp2_with fail
    refine (compma_x q2 _ w2 HC3.out).mono ?_
    rintro e w3 ⟨g3, c3, rfl, hm3, hb3⟩
    have hba := (Below.refl _ w3).alloc (Nat.le_refl _) (.cells #[.slice (some ⟨g3, 0, none⟩) 1 c3] 53)
    have HM3 := Lib.hid (hm3.below hba)
    have HB3 := Lib.hid ((HB2.out.trans (hb3.mono HB2.out.size)).trans (hba.mono (Nat.le_trans HB2.out.size hb3.size)))
    have HP3 := Lib.hid ((HP2.out.below hb3 HP2.out.lt).alloc (.cells #[.slice (some ⟨g3, 0, none⟩) 1 c3] 53))
    have HOW := Lib.hid (World.ownsRow_lit (base := w.heap.size) (e := 53) (size := 1) w3 #[.slice (some ⟨g3, 0, none⟩) 1 c3] 1 (Nat.le_trans HB2.out.size hb3.size) (by simp [maxLen]) rfl)
    clear hm3 hb3 hba
    go_wp2_with fail
    go_ret2
    have h0 : ts = [] := List.eq_nil_of_length_eq_zero HLEN.out
    have hss0 : hss = [] := by rw [← HTS.out, h0]; rfl
    refine ⟨_, [⟨g3, c3, [(idHop l, p)]⟩], rfl, HOW.out, fun t ht => ?_, ?_, HB3.out⟩
    · rw [List.mem_singleton] at ht
      subst ht
      exact ⟨HM3.out, pr_id l HP3.out, Nat.one_pos⟩
    · rw [hss0]; rfl
  · have hnz : ((n : Int) == 0) = false := by simp; omega
    have hmk := fun W : World => run_make_rowN (P := Tryz.prog) 68 53 i0 _ Tryz.underlying68 hi0 hz0 .i64 .i64 0 n (Nat.zero_le _) (by rw [hz2]; omega) (by omega) W
    rw [hz1, Nat.mul_one, show ((0 : Nat) : Int) = 0 from rfl] at hmk
    have ltq := World.block_lt_of_cell? _ _ c1
    go_wp2_with fail
    clear hmk
    refine wp_gen (fun W => W.ownsRow w.heap.size 53 1 (.slice (some ⟨w2.heap.size, 0, none⟩) 0 n) 0 [] ∧ Below w2.heap.size w2 W ∧ W.cell? ⟨w2.heap.size, 0, none⟩ = some (.slice none 0 0)) ⟨World.ownsRow_made w2 (madeCells #[.slice none 0 0] n) n HB2.out.size (by unfold maxLen; omega) (by rw [size_madeCells]; exact (Nat.mul_one n).symm), (Below.refl _ w2).alloc (Nat.le_refl _) _, ?_⟩ ?_
    · exact ((Blk.new w2 53 (madeCells #[.slice none 0 0] n)).cell 0).trans (made_at _ _ 0 (by omega))
    rintro w3 ⟨hown3, hb23, hc3⟩
    have d1 : w3.cell? ⟨q, 1, none⟩ = some (.slice A0 n cc0) := (hb23.cell (World.block_lt_of_cell? _ _ c1)).trans c1
    have HO3 := Lib.hid hown3
    have HB23 := Lib.hid hb23
    have HC30 := Lib.hid hc3
    have HB3 := Lib.hid (HB2.out.trans (hb23.mono HB2.out.size))
    have HC33 := Lib.hid (HC3.out.below hb23)
    have HP3 := Lib.hid (HP2.out.below hb23 HP2.out.lt)
    clear hown3 hb23 hc3 c1 c0
    go_loopw [6, 41] (fun v i wr => ∃ k : Nat, k ≤ n ∧ i = .int .i64 k ∧ Below w.heap.size w wr ∧ C3 wr q2 (idHop l, p) ∧ Blk wr p 89 (pcells 421 gp) ∧
      ∃ ts', wr.ownsRow w.heap.size 53 1 v k (trCells ts') ∧ ts'.map (fun t => t.cs.map (·.1)) = (hss.take k).map (· ++ [idHop l]) ∧ (∀ t ∈ ts', TrOk wr t) ∧ (∀ b, v.ownBlock = some b → ∃ A m c, wr.cell? ⟨b, 0, none⟩ = some (.slice A m c))) (fun _ i _ => n - (intOf i).toNat)
    case atStart => exact ⟨0, by omega, rfl, HB3.out, HC33.out, HP3.out, [], HO3.out, rfl, fun t ht => by simp at ht, fun b hb => by simp [Value.ownBlock] at hb; subst hb; exact ⟨_, _, _, HC30.out⟩⟩
    case round =>
      obtain ⟨k, hk, rfl, hb, hcr, hpr, ts', hown, hts', htr', hs0⟩ := hrel
      have HB := Lib.hid hb
      have HCR := Lib.hid hcr
      have HPR := Lib.hid hpr
      have HOW := Lib.hid hown
      have HTS' := Lib.hid hts'
      have HTR' := Lib.hid htr'
      have HS0 := Lib.hid hs0
      clear hb hcr hpr hown hts' htr' hs0
      by_cases hlt : k < n
      · have hlt' : k < ts.length := by rw [HLEN.out]; exact hlt
        have hlh : k < hss.length := by have := congrArg List.length HTS.out; simp at this; omega
        obtain ⟨ad, eA, _, hcell⟩ := (Reads.of_own HO.out).2 (by omega)
        obtain rfl := eA
        have hck := hcell k (ts[k]).v (by simp [trCells, hlt'])
        have c5 : wr.cell? (ad.add k) = some (ts[k]).v := (HB.out.cell (World.block_lt_of_cell? _ _ hck)).trans hck
        have hpl : (ts[k]).cs.map (·.1) = hss[k] := by
          have := congrArg (fun x : List (List Hop) => x[k]?) HTS.out
          simpa [hlt', hlh] using this
        have htk : hss.take (k + 1) = hss.take k ++ [hss[k]] := List.take_succ_eq_append_getElem hlh
        have hle := HL.out _ (List.getElem_mem hlh)
        have htk0 := HTR.out _ (List.getElem_mem hlt')
        generalize ts[k] = t at *
        generalize hss[k] = hs at *
        obtain ⟨g, cg, cs⟩ := t
        have hcl : cs.length ≤ 1000 := by have := congrArg List.length hpl; simp at this; omega
        have htw := htk0.below HB.out
        have HE := Lib.hid (encap_x g cg cs q2 (idHop l, p) wr hcl htw.ms HCR.out)
        have HPLL := Lib.hid hpl
        have HTK := Lib.hid htk
        have HTP := Lib.hid htw.pr
        unfold Tr.v at c5
        clear hck hcell hpl htk hle htk0 hcl htw hlt' hlh
        go_wp2_with fail
        refine HE.out.mono ?_
        rintro e w4 ⟨g4, c4, rfl, hm4, hb4⟩
        have hlc : (cs ++ [(idHop l, p)]).length = cs.length + 1 := by simp
        have hba := (Below.refl _ w4).alloc (Nat.le_refl _) (.cells #[.slice (some ⟨g4, 0, none⟩) (cs.length + 1) c4] 53)
        have hbw := hb4.trans (hba.mono hb4.size)
        have HBW := Lib.hid hbw
        have HOO := Lib.hid (own_below HOW.out hbw)
        have HRN := Lib.hid (reads_new w4 #[.slice (some ⟨g4, 0, none⟩) (cs.length + 1) c4] 53 1 1 rfl)
        have htn : TrOk (w4.alloc (.cells #[.slice (some ⟨g4, 0, none⟩) (cs.length + 1) c4] 53)) ⟨g4, c4, cs ++ [(idHop l, p)]⟩ := ⟨hm4.below hba, (pr_app (HTP.out.below hb4) (pr_id l (HPR.out.below hb4 HPR.out.lt))).below hba, by simp⟩
        have HTN := Lib.hid htn
        have HSW := Lib.hid (show ∀ b, u6.ownBlock = some b → ∃ A m c, (w4.alloc (.cells #[.slice (some ⟨g4, 0, none⟩) (cs.length + 1) c4] 53)).cell? ⟨b, 0, none⟩ = some (.slice A m c) from fun b hb => by
          obtain ⟨A, m, c, h0⟩ := HS0.out b hb
          exact ⟨A, m, c, (hbw.cell (World.block_lt_of_cell? _ _ h0)).trans h0⟩)
        have HLC := Lib.hid hlc
        rw [hlc]
        clear hlc hba hbw htn hm4 hb4
        go_wp2_with (at_builtin; go_loud (refine wpList_append_any _ rfl _ _ _ rfl w.heap.size 53 i0 _ 1 24 Tryz.underlying68 hi0 hz0 hz1 hz2 rfl (by decide) _ _ _ rfl HOO.out _ _ 1 1 _ rfl HRN.out ?c0 ?c1 ?c2 ?c3 ?_))
        case c0 => intro u hu; simp at hu; subst hu; rfl
        case c1 => unfold maxLen; omega
        case c2 => omega
        case c3 => exact Nat.le_trans HB.out.size HBW.out.size
        intro v6 w6 hown6 hgrow6 _hat
        have hof : w6.ownsRow w.heap.size 53 1 v6 (k + 1) (trCells (ts' ++ [⟨g4, c4, cs ++ [(idHop l, p)]⟩])) := by
          rw [trCells_snoc]
          unfold Tr.v
          rw [HLC.out]
          exact hown6
        have hb6 := (HB.out.trans (HBW.out.mono HB.out.size)).grown hgrow6 (Nat.le_trans HB.out.size HBW.out.size) (fun g hg => (HOO.out.lt g hg).1)
        have htr6 : ∀ t ∈ ts' ++ [⟨g4, c4, cs ++ [(idHop l, p)]⟩], TrOk w6 t := fun t ht => by
          rcases List.mem_append.1 ht with h1 | h1
          · exact ((HTR'.out t h1).below HBW.out).grown_row2 HOO.out HSW.out hgrow6
          · rw [List.mem_singleton] at h1
            subst h1
            exact HTN.out.grown_row2 HOO.out HSW.out hgrow6
        have hs6 : ∀ b, v6.ownBlock = some b → ∃ A m c, w6.cell? ⟨b, 0, none⟩ = some (.slice A m c) := fun b hb => by
          have hg6 := hof.cells hb 0
          rcases ts' with _ | ⟨t0, ts'⟩
          · exact ⟨_, _, _, hg6 _ rfl⟩
          · exact ⟨_, _, _, hg6 _ rfl⟩
        have hc6 : C3 w6 q2 (idHop l, p) := by
          have h4 := HCR.out.below HBW.out
          have hne : some q2 ≠ u6.ownBlock := fun e => by
            obtain ⟨A, m, c, h0⟩ := HSW.out q2 e.symm
            rw [h4.c0] at h0
            cases h0
          exact ⟨hgrow6.cell h4.c0 hne, hgrow6.cell h4.c1 hne, hgrow6.cell h4.c2 hne⟩
        have hp6 : Blk w6 p 89 (pcells 421 gp) := (HPR.out.below HBW.out HPR.out.lt).grown hgrow6 (fun e => own_blk_ne HOO.out (HPR.out.below HBW.out HPR.out.lt) (by decide) e.symm)
        have HOF := Lib.hid hof
        have HB6 := Lib.hid hb6
        have HTR6 := Lib.hid htr6
        have HS6 := Lib.hid hs6
        have HC6 := Lib.hid hc6
        have HP6 := Lib.hid hp6
        clear hown6 hgrow6 _hat hof hb6 htr6 hs6 hc6 hp6
        go_wp2_with fail
        go_roundw
        case rel =>
          refine ⟨k + 1, by omega, by go_num, HB6.out, HC6.out, HP6.out, ts' ++ [⟨g4, c4, cs ++ [(idHop l, p)]⟩], HOF.out, ?_, HTR6.out, HS6.out⟩
          rw [List.map_append, HTS'.out, HTK.out, List.map_append]
          simp [HPLL.out]
        case measure => simp [intOf]; omega
      · obtain rfl : k = n := by omega
        go_wp2_with fail
        go_ret2
        have hle : hss.length = k := by rw [← HTS.out, List.length_map, HLEN.out]
        have hts := HTS'.out
        rw [List.take_of_length_le (by omega)] at hts
        have hl' : ts'.length = k := by have := HOW.out.1; rw [trCells_length] at this; omega
        have hne : hss ≠ [] := fun e => by rw [e] at hle; exact hn0 hle.symm
        refine ⟨u6, ts', rfl, by rw [hl']; exact HOW.out, HTR'.out, ?_, HB.out⟩
        rw [hts]
        unfold withId
        rw [if_neg hne]
end Go.Proofs.YtllofneeodnllaaGreatDoor
