/- Any bytes are read as an address, or are none. Conditions: the package variables as laid, or typed. -/
import Derived.Test.YtghddiboggdhcaaGreatDoorVy
import Derived.Test.YtghddiboggdhcaaGreatDoorVi2
import Derived.Test.YtghddiboggdhcaaGreatDoorPu
set_option maxRecDepth 100000
set_option maxHeartbeats 4000000
namespace Go.Proofs.YtghddiboggdhcaaGreatDoor
open Go.RowKit
variable {K : Nat} {f : Nat → Int}
attribute [local go_sem ↓] Go.wp_at_zero Go.wp_at_succ
def readX (d : List UInt8) : Option (Nat × Nat × Nat) := match rvc d with
  | none => none
  | some (k, n) => match protoX k with
    | none => none
    | some X => if X.size = 0 then (if okD k [] then some (n, k, n) else none)
      else if X.size = -1 then match rvc (d.drop n) with
        | none => none
        | some (s, n2) => if n + n2 + s ≤ d.length ∧ 0 < s then (if okD k ((d.drop (n + n2)).take s) then some (n + n2 + s, k, n + n2) else none) else none
      else if n + X.size.toNat / 8 ≤ d.length then (if okD k ((d.drop n).take (X.size.toNat / 8)) then some (n + X.size.toNat / 8, k, n) else none) else none
theorem protoX_size {k : Nat} {X : ProtoX} (h : protoX k = some X) : X.size = 0 ∨ X.size = -1 ∨ ∃ m, 0 < m ∧ m ≤ 1000 ∧ X.size = ((8 * m : Nat) : Int) := by
  unfold protoX at h
  split at h <;> cases h <;> first | exact .inl rfl | exact .inr (.inl rfl) | exact .inr (.inr ⟨4, by decide, by decide, rfl⟩) | exact .inr (.inr ⟨2, by decide, by decide, rfl⟩) | exact .inr (.inr ⟨16, by decide, by decide, rfl⟩) | exact .inr (.inr ⟨1, by decide, by decide, rfl⟩) | exact .inr (.inr ⟨12, by decide, by decide, rfl⟩) | exact .inr (.inr ⟨37, by decide, by decide, rfl⟩) | exact .inr (.inr ⟨8, by decide, by decide, rfl⟩)
theorem readX_facts {d : List UInt8} {N k vs : Nat} (h : readX d = some (N, k, vs)) : 1 ≤ N ∧ N ≤ d.length ∧ (vs ≤ N ∧ (k = 421 → vs < N)) ∧ ∃ X, protoX k = some X := by
  have h421 : ∀ {X : ProtoX}, protoX k = some X → k = 421 → X.size = -1 := fun hX hk => by
    subst hk
    rw [protoX_421] at hX
    cases hX
    rfl
  unfold readX at h
  split at h
  · cases h
  · rename_i k' n hr
    have hf := rvc_facts hr
    split at h
    · cases h
    · rename_i X hX
      split at h
      · rename_i hs
        split at h
        · cases h
          exact ⟨by omega, by omega, ⟨by omega, fun hk => by have := h421 hX hk; omega⟩, X, hX⟩
        · cases h
      · split at h
        · split at h
          · cases h
          · split at h
            · rename_i hfit
              split at h
              · cases h
                exact ⟨by omega, by omega, ⟨by omega, fun _ => by omega⟩, X, hX⟩
              · cases h
            · cases h
        · rename_i hs
          split at h
          · split at h
            · cases h
              exact ⟨by omega, by omega, ⟨by omega, fun hk => absurd (h421 hX hk) hs⟩, X, hX⟩
            · cases h
          · cases h
theorem readc_x (hK : 18446744073709551616 ≤ K) (A : Option Addr) (c : Nat) (d : List UInt8) (w : World) (hE : EnvX K f w) (h : RB w w.heap.size A d.length c d) (hn : d.length ≤ 1000) : Calls Tryz.prog 54 #[.slice A d.length c] w (OutRC (readX d) d w) := by
  cases hr : rvc d with
  | none =>
    have : readX d = none := by unfold readX; rw [hr]
    rw [this]
    exact rd_none A c d w hE h hn hr
  | some kn =>
    obtain ⟨k, n⟩ := kn
    have hf := rvc_facts hr
    cases hX : protoX k with
    | none =>
      have : readX d = none := by unfold readX; rw [hr]; simp only; rw [hX]
      rw [this]
      exact rd_unk A c d k n w hE h hn hr hX
    | some X =>
      rcases protoX_size hX with hs | hs | ⟨m, hm0, hm1, hs⟩
      · have : readX d = if okD k [] then some (n, k, n) else none := by unfold readX; rw [hr]; simp only; rw [hX]; simp only; rw [if_pos hs]
        exact rd_0 hK A c d k n X w hE h hn hr hX hs _ this
      · have h0 : ¬ X.size = 0 := by omega
        cases hr2 : rvc (d.drop n) with
        | none =>
          have : readX d = none := by unfold readX; rw [hr]; simp only; rw [hX]; simp only; rw [if_neg h0, if_pos hs, hr2]
          rw [this]
          exact rd_vnone A c d k n X w hE h hn hr hX hs hr2
        | some sn =>
          obtain ⟨s, n2⟩ := sn
          have e : readX d = if n + n2 + s ≤ d.length ∧ 0 < s then (if okD k ((d.drop (n + n2)).take s) then some (n + n2 + s, k, n + n2) else none) else none := by unfold readX; rw [hr]; simp only; rw [hX]; simp only; rw [if_neg h0, if_pos hs, hr2]
          by_cases hfit : n + n2 + s ≤ d.length ∧ 0 < s
          · rw [if_pos hfit] at e
            exact rd_var hK A c d k n X w hE h hn hr hX hs s n2 hr2 hfit.1 hfit.2 _ e
          · rw [if_neg hfit] at e
            rw [e]
            have hf2 := rvc_facts hr2
            rw [List.length_drop] at hf2
            exact rd_vbad A c d k n X w hE h hn hr hX hs s n2 hr2 (by omega)
      · have h0 : ¬ X.size = 0 := by omega
        have h1 : ¬ X.size = -1 := by omega
        have hm : X.size.toNat / 8 = m := by omega
        have e : readX d = if n + m ≤ d.length then (if okD k ((d.drop n).take m) then some (n + m, k, n) else none) else none := by unfold readX; rw [hr]; simp only; rw [hX]; simp only; rw [if_neg h0, if_neg h1, hm]
        by_cases hfit : n + m ≤ d.length
        · rw [if_pos hfit] at e
          exact rd_fix hK A c d k n X w hE h hn hr hX m hs hm0 hm1 hfit _ e
        · rw [if_neg hfit] at e
          rw [e]
          exact rd_fixno A c d k n X w hE h hn hr hX m hs hm0 hm1 hfit
structure Cp where
  l : List UInt8
  k : Nat
  vs : Nat
def pathX (k : Nat) : Bool := match protoX k with
  | some X => X.path
  | none => false
def parseX : Nat → Bool → List UInt8 → Option (List Cp)
  | 0, _, _ => none
  | F + 1, saw, d => if d.length = 0 then some [] else match readX d with
    | none => none
    | some (N, k, vs) => if saw then none else (parseX F (pathX k) (d.drop N)).map (fun cs => ⟨d.take N, k, vs⟩ :: cs)
def xCells (cs : List (Cp × Nat)) : List Value := cs.flatMap fun x => [.string ⟨x.1.l.toArray⟩, .pointer (some ⟨x.2, 0, none⟩), .int .i64 x.1.vs]
def PRX (w : World) (cs : List (Cp × Nat)) : Prop := ∀ x ∈ cs, ∃ g X, protoX x.1.k = some X ∧ Blk w x.2 77 (xcells X x.1.k g)
theorem PRX.below {w w' : World} {cs : List (Cp × Nat)} (h : PRX w cs) (hb : Below w.heap.size w w') : PRX w' cs := fun x hx => by
  obtain ⟨g, X, hX, hg⟩ := h x hx
  exact ⟨g, X, hX, hg.below hb hg.lt⟩
theorem PRX.grown {w w' : World} {cs : List (Cp × Nat)} {base n : Nat} {v : Value} {xs : List Value} (h : PRX w cs) (ho : w.ownsRow base 81 3 v n xs) (hg : w.grownBy w' v.ownBlock) : PRX w' cs := fun x hx => by
  obtain ⟨g, X, hX, hk⟩ := h x hx
  exact ⟨g, X, hX, hk.grown hg (fun e => own_blk_ne ho hk (by decide) e.symm)⟩
theorem PRX.snoc {w : World} {cs : List (Cp × Nat)} (h : PRX w cs) {x : Cp × Nat} {g : Nat} {X : ProtoX} (hX : protoX x.1.k = some X) (hx : Blk w x.2 77 (xcells X x.1.k g)) : PRX w (cs ++ [x]) := fun y hy => by
  rcases List.mem_append.1 hy with hy | hy
  · exact h y hy
  · simp at hy; subst hy; exact ⟨g, X, hX, hx⟩
theorem xCells_snoc (cs : List (Cp × Nat)) (x : Cp × Nat) : xCells (cs ++ [x]) = xCells cs ++ [.string ⟨x.1.l.toArray⟩, .pointer (some ⟨x.2, 0, none⟩), .int .i64 x.1.vs] := by
  simp [xCells]
theorem xCells_length (cs : List (Cp × Nat)) : (xCells cs).length = cs.length * 3 := by
  induction cs with
  | nil => rfl
  | cons x cs ih => simp only [xCells, List.flatMap_cons, List.length_append, List.length_cons] at *; simp at *; omega
def OutAE (w : World) (e : Ending) (w' : World) : Prop := ∃ z t u, e = .returned (.tuple #[.int .i64 z, .slice none 0 0, .iface t u]) ∧ Below w.heap.size w w'
def OutMX (o : Option (List Cp)) (L : Nat) (w : World) (e : Ending) (w' : World) : Prop :=
  match o with
  | none => OutAE w e w'
  | some ps => ∃ v cs, e = .returned (.tuple #[.int .i64 L, v, .nilIface]) ∧ cs.map (·.1) = ps ∧ PRX w' cs ∧ w'.ownsRow w.heap.size 81 3 v cs.length (xCells cs) ∧ Below w.heap.size w w'
theorem readma_x (hK : 18446744073709551616 ≤ K) (A : Option Addr) (c : Nat) (d : List UInt8) (w : World) (hE : EnvX K f w) (h : RB w w.heap.size A d.length c d) (hn : d.length ≤ 1000) (hn0 : 0 < d.length) (o : Option (List Cp)) (ho : o = parseX (d.length + 1) false d) :
    Calls Tryz.prog 39 #[.slice A d.length c] w (OutMX o d.length w) := by
  have q0 : ∀ w : World, (binOp .neq 52 .nilIface .nilIface).run Tryz.prog w = .ok (.bool false) w := fun _ => by kernel_rfl
  have qn : ∀ (t : TypeId) (v : Value) (w : World), (binOp .neq 52 (.iface t v) .nilIface).run Tryz.prog w = .ok (.bool true) w := fun _ _ _ => by kernel_rfl
  obtain ⟨i0, hi0, hz0, hz1, hz2⟩ := info_parts comp_info2
  have HH := Lib.hid h
  have HEV := Lib.hid hE
  have HER := Lib.hid (fun s w => errnew_any s w)
  have HO := Lib.hid ho
  obtain ⟨L, hL⟩ : ∃ L, L = d.length := ⟨_, rfl⟩
  have HL := Lib.hid hL
  have hn0b : ((L : Int) == 0) = false := by simp; omega
  rw [← hL] at hn hn0 ⊢
  clear h hE ho hL
  go_enter Tryz.func39, Tryz.ntmps39
  go_wp2_with fail
  go_loopw [0, 5, 6, 7] (fun b res br sp wr => ∃ (r : List UInt8) (m F l : Nat) (saw : Bool), (∃ A c, b = .slice A l c ∧ l = r.length ∧ RB wr w.heap.size A l c r) ∧ br = .int .i64 m ∧ m + l = L ∧ sp = .bool saw ∧ l < F ∧
      (∃ cs, o = (parseX F saw r).map (cs.map (·.1) ++ ·) ∧ cs.length + l ≤ L ∧ PRX wr cs ∧ wr.ownsRow w.heap.size 81 3 res cs.length (xCells cs)) ∧ Below w.heap.size w wr) (fun b _ _ _ _ => lenOf b)
  case atStart =>
    refine ⟨d, 0, L + 1, L, false, ⟨A, c, rfl, HL.out, by rw [HL.out]; exact HH.out⟩, rfl, by omega, rfl, by omega, ⟨[], by rw [HO.out, HL.out]; simp, by simp, fun x hx => by simp at hx, World.ownsRow_nil _ _ _ _⟩, Below.refl _ _⟩
  case round =>
    obtain ⟨r, m, F, l, saw, ⟨A1, c1, rfl, hl, hr⟩, rfl, hml, rfl, hF, ⟨cs, hcs, hcl, hpr, hown⟩, hb⟩ := hrel
    have HB := Lib.hid hb
    have HOW := Lib.hid hown
    have HP := Lib.hid hpr
    have HC := Lib.hid hcs
    have HR := Lib.hid hr
    have HLL := Lib.hid hl
    clear hb hown hpr hcs hr hl
    obtain ⟨F, rfl⟩ : ∃ F', F = F' + 1 := ⟨F - 1, by omega⟩
    by_cases hl0 : l = 0
    · subst hl0
      have ho2 : o = some (cs.map (·.1)) := by rw [HC.out, parseX, if_pos HLL.out.symm]; simp
      obtain rfl : m = L := by omega
      have HO2 := Lib.hid ho2
      clear ho2
      go_wp2_with fail
      go_ret3
      rw [HO2.out]
      exact ⟨_, cs, rfl, rfl, HP.out, HOW.out, HB.out⟩
    · have hpos : decide ((0 : Int) < (l : Int)) = true := by simp; omega
      have hrd := readc_x hK A1 c1 r wr (HEV.out.below HB.out) (by have := HR.out.more HB.out.size; rw [HLL.out] at this; exact this) (by have := HLL.out; omega)
      rw [← HLL.out] at hrd
      have ho3 : o = Option.map (fun ys : List Cp => cs.map (fun x => x.1) ++ ys) (match readX r with
        | none => (none : Option (List Cp))
        | some (N, k, vs) => if saw then none else ((parseX F (pathX k) (r.drop N)).map (fun (ys : List Cp) => (⟨r.take N, k, vs⟩ : Cp) :: ys))) := by
        rw [HC.out, parseX, if_neg (by have := HLL.out; omega)]
      cases hrx : readX r with
      | none =>
        rw [hrx] at hrd ho3
        have HRD := Lib.hid hrd
        have HO3 := Lib.hid ho3
        clear hrd ho3 hrx
        go_wp2_with fail
        refine HRD.out.mono ?_
        rintro e w3 ⟨t, u, rfl, hb3⟩
        have HB3 := Lib.hid (HB.out.trans (hb3.mono HB.out.size))
        clear hb3
        go_wp2_with fail
        go_ret3
        rw [HO3.out]
        exact ⟨_, t, u, rfl, HB3.out⟩
      | some x =>
        obtain ⟨N, k, vs⟩ := x
        rw [hrx] at hrd ho3
        have hrf := readX_facts hrx
        have hcap := HR.out.cap
        have hmax : c1 ≤ 9223372036854775807 := HR.out.max
        obtain ⟨hN1, hN2, hvs, X0, hX0⟩ := hrf
        rw [← HLL.out] at hN2
        obtain ⟨A2, hsl, hdr⟩ := run_from A1 l c1 N hN2 hcap
        have HDR := Lib.hid (hdr wr w.heap.size _ HR.out)
        have HRD := Lib.hid hrd
        have HO3 := Lib.hid ho3
        have HRX := Lib.hid hrx
        clear hrd ho3 hrx hdr hX0 hcap
        go_wp2_with fail
        refine HRD.out.mono ?_
        rintro e w3 ⟨q, p, g, X, hX, rfl, hC, hPr, hb3⟩
        have c0 : w3.cell? ⟨q, 0, none⟩ = some (.string ⟨(r.take N).toArray⟩) := hC.cell 0
        have c1' : w3.cell? ⟨q, 1, none⟩ = some (.pointer (some ⟨p, 0, none⟩)) := hC.cell 1
        have c2 : w3.cell? ⟨q, 2, none⟩ = some (.int .i64 vs) := hC.cell 2
        have p4 : w3.cell? ⟨p, 4, none⟩ = some (.bool X.path) := hPr.cell 4
        obtain ⟨rl, hrl⟩ : ∃ rl, rl = r.take N := ⟨_, rfl⟩
        rw [← hrl] at c0
        obtain ⟨xp, hxp⟩ : ∃ xp, xp = X.path := ⟨_, rfl⟩
        rw [← hxp] at p4
        have HRL := Lib.hid hrl
        have HXP := Lib.hid hxp
        have HPR := Lib.hid hPr
        have HX := Lib.hid hX
        have HB3 := Lib.hid hb3
        clear hC hb3 hPr hX hrl hxp
        cases saw with
        | true =>
          go_wp2_with fail
          refine (HER.out _ _).mono ?_
          rintro e w5 ⟨t, u, rfl, hb5⟩
          have HB5 := Lib.hid ((HB.out.trans (HB3.out.mono HB.out.size)).trans (hb5.mono (HB.out.trans (HB3.out.mono HB.out.size)).size))
          clear hb5
          go_wp2_with fail
          go_ret3
          rw [HO3.out]
          exact ⟨_, t, u, rfl, HB5.out⟩
        | false =>
          have hbq := ((Below.refl _ w3).alloc (Nat.le_refl _) (.cells #[.string ⟨rl.toArray⟩, .pointer (some ⟨p, 0, none⟩), .int .i64 vs] 81))
          have HOO := Lib.hid (own_below HOW.out (HB3.out.trans (hbq.mono HB3.out.size)))
          have hrn := reads_new w3 #[.string ⟨rl.toArray⟩, .pointer (some ⟨p, 0, none⟩), .int .i64 vs] 81 3 1 rfl
          have HBQ := Lib.hid hbq
          have HRN := Lib.hid hrn
          clear hbq hrn
          go_wp2_with (at_builtin; refine wpList_append_any _ rfl (.tmp 43) (.tmp 47) _ rfl w.heap.size 81 i0 _ 3 32 Tryz.underlying44 hi0 hz0 hz1 hz2 rfl (by decide) _ _ _ rfl HOO.out _ _ 1 1 _ rfl HRN.out ?c0 ?c1 ?c2 ?c3 ?_)
          case c0 => intro u hu; simp at hu; rcases hu with rfl | rfl | rfl <;> rfl
          case c1 => unfold maxLen; omega
          case c2 => omega
          case c3 => have := HB.out.size; have := HB3.out.size; simp; omega
          intro v' w' hown hgrow _hat
          have hbw : Below w.heap.size wr w' := ((HB3.out.mono HB.out.size).trans (HBQ.out.mono (Nat.le_trans HB.out.size HB3.out.size))).grown hgrow (by have := HB.out.size; have := HB3.out.size; simp; omega) (fun g hg => (HOO.out.lt g hg).1)
          have hpr2 := ((HP.out.below (HB3.out.trans (HBQ.out.mono HB3.out.size))).snoc (x := (⟨rl, k, vs⟩, p)) HX.out (HPR.out.below HBQ.out HPR.out.lt)).grown HOO.out hgrow
          have HBW := Lib.hid hbw
          have HPR2 := Lib.hid hpr2
          have HOW2 := Lib.hid hown
          clear hbw hpr2 hown hgrow _hat c0 c1' c2 p4
          go_wp2_with fail
          go_roundw
          case rel =>
            refine ⟨r.drop N, m + N, F, l - N, xp, ⟨A2, c1 - N, rfl, by rw [List.length_drop, HLL.out], ?_⟩, by go_num, by omega, rfl, by omega, ⟨cs ++ [(⟨rl, k, vs⟩, p)], ?_, by simp; omega, HPR2.out, ?_⟩, HB.out.trans HBW.out⟩
            · exact HDR.out.below HBW.out
            · rw [HO3.out]
              have hpx : pathX k = xp := by unfold pathX; rw [HX.out]; exact HXP.out.symm
              rw [hpx, HRL.out]
              simp only [Bool.false_eq_true, if_false, Option.map_map]
              congr 1
              funext ys
              simp
            · rw [xCells_snoc, List.length_append]
              exact HOW2.out
          case measure => simp [lenOf]; omega
end Go.Proofs.YtghddiboggdhcaaGreatDoor
/- Parts of any protocol: their copy, the last one, the split, the bytes. No condition beyond. -/
namespace Go.Proofs.YtghddiboggdhcaaGreatDoor
open Go.RowKit
variable {K : Nat} {f : Nat → Int}
attribute [local go_sem ↓] Go.wp_at_zero Go.wp_at_succ
namespace X
def vok (p : Cp) : Prop := p.vs ≤ p.l.length ∧ (p.k = 421 → p.vs < p.l.length)
def idX (p : Cp) : List UInt8 := p.l.drop p.vs
theorem protoX_tc {k : Nat} {X : ProtoX} (h : protoX k = some X) : X.tc = .nilIface ∨ ∃ t v, X.tc = .iface t v := by
  unfold protoX at h
  split at h <;> cases h <;> first | exact Or.inl rfl | exact Or.inr ⟨_, _, rfl⟩
theorem PRX.far {w : World} {cs : List (Cp × Nat)} {g : Nat} {t : TypeId} {ds : Array Value} (h : PRX w cs) (hk : Blk w g t ds) (hne : 77 ≠ t) (i : Nat) (u : Value) : PRX (w.setCell ⟨g, i, none⟩ u) cs := fun x hx => by
  obtain ⟨g', X, hX, hp⟩ := h x hx
  exact ⟨g', X, hX, hp.far (hp.ne_ hk hne) u⟩
def compBytes (cs : List (Cp × Nat)) : List UInt8 := cs.flatMap fun x => x.1.l
theorem compBytes_snoc (cs : List (Cp × Nat)) (x : Cp × Nat) : compBytes (cs ++ [x]) = compBytes cs ++ x.1.l := by simp [compBytes]
theorem compBytes_take (cs : List (Cp × Nat)) (k : Nat) (h : k < cs.length) : compBytes (cs.take (k + 1)) = compBytes (cs.take k) ++ (cs[k]).1.l := by
  rw [List.take_succ_eq_append_getElem h, compBytes_snoc]
theorem compBytes_take_le (cs : List (Cp × Nat)) (k : Nat) : (compBytes (cs.take k)).length ≤ (compBytes cs).length := by
  conv => rhs; rw [← List.take_append_drop k cs]
  unfold compBytes
  rw [List.flatMap_append, List.length_append]
  omega
theorem compBytes_at_le (cs : List (Cp × Nat)) (k : Nat) (h : k < cs.length) : (cs[k]).1.l.length ≤ (compBytes cs).length := by
  have h1 := compBytes_take cs k h
  have h2 := compBytes_take_le cs (k + 1)
  rw [h1, List.length_append] at h2
  omega
theorem xCells_one (cs : List (Cp × Nat)) : ∀ u ∈ xCells cs, u.oneCell' = true := by
  intro u hu
  simp only [xCells, List.mem_flatMap] at hu
  obtain ⟨x, _, hx⟩ := hu
  simp at hx
  rcases hx with rfl | rfl | rfl <;> rfl
theorem copyma_any (g c m : Nat) (cs : List (Cp × Nat)) (w : World) (hm : cs.length = m) (hm0 : 0 < m) (hm1 : m ≤ 1000) (hg : g < w.heap.size) (hc : ∀ j u, (xCells cs)[j]? = some u → w.cell? ⟨g, j, none⟩ = some u) :
    Calls Tryz.prog 40 #[.slice (some ⟨g, 0, none⟩) m c] w fun e w' => ∃ b, e = .returned (.slice (some ⟨b, 0, none⟩) m m) ∧ Blk w' b 81 (xCells cs).toArray ∧ w.heap.size ≤ b ∧ Below w.heap.size w w' := by
  obtain ⟨i0, hi0, hz0, hz1, hz2⟩ := info_parts comp_info2
  have hlc := xCells_length cs
  have q : ∀ (w : World) (a : Option Addr) (n c n' c' : Nat), (binOp .eql 44 (.slice a n c) (.slice none n' c')).run Tryz.prog w = .ok (.bool a.isNone) w := fun w a n c n' c' => Lib.run_eql_slice_nil w _ _ a n c n' c' Tryz.underlying44
  have hmk := fun W : World => run_make_rowN (P := Tryz.prog) 44 81 i0 _ Tryz.underlying44 hi0 hz0 .i64 .i64 m m (Nat.le_refl _) (by rw [hz2]; omega) (by omega) W
  rw [hz1] at hmk
  obtain ⟨zs, hzs⟩ : ∃ zs, zs = madeCells (Value.agg #[.string ⟨#[]⟩, .pointer none, .int .i64 0]).cells (m * 3) := ⟨_, rfl⟩
  rw [← hzs] at hmk
  have hcp := fun ty => run_copy_new (P := Tryz.prog) w 44 44 ty 81 m m c 3 ⟨g, 0, none⟩ zs (xCells cs).toArray i0 Tryz.underlying44 hi0 hz1 (by rw [hzs, size_madeCells]; simp [hlc, hm]) (by simp [hlc, hm]) (fun j u hu => by
    have hadd : (⟨g, 0, none⟩ : Addr).add j = ⟨g, j, none⟩ := by unfold Addr.add; split <;> simp_all
    rw [hadd, World.cell?_alloc_lt w _ _ hg]
    exact hc j u (by simpa using hu)) (by rw [Array.all_eq_true_iff_forall_mem]; intro u hu; exact xCells_one cs u (by simpa using hu))
  have HK := Lib.hid (Blk.new w 81 (xCells cs).toArray)
  have HB := Lib.hid ((Below.refl _ w).alloc (Nat.le_refl _) (.cells (xCells cs).toArray 81))
  obtain ⟨X, hX⟩ : ∃ X, X = (xCells cs).toArray := ⟨_, rfl⟩
  rw [← hX] at hcp HK HB ⊢
  clear hX hzs hc hi0 hz0 hz1 hz2 hlc hm
  go_enter Tryz.func40, Tryz.ntmps40
  go_wp2_with fail
  go_ret
  exact ⟨w.heap.size, rfl, HK.out, Nat.le_refl _, HB.out⟩
structure C3 (w : World) (q : Nat) (x : Cp × Nat) : Prop where
  c0 : w.cell? ⟨q, 0, none⟩ = some (.string ⟨x.1.l.toArray⟩)
  c1 : w.cell? ⟨q, 1, none⟩ = some (.pointer (some ⟨x.2, 0, none⟩))
  c2 : w.cell? ⟨q, 2, none⟩ = some (.int .i64 (x.1.vs))
theorem C3.below {w w' : World} {q : Nat} {x : Cp × Nat} (h : C3 w q x) (hb : Below w.heap.size w w') : C3 w' q x :=
  ⟨(hb.cell (World.block_lt_of_cell? _ _ h.c0)).trans h.c0, (hb.cell (World.block_lt_of_cell? _ _ h.c1)).trans h.c1, (hb.cell (World.block_lt_of_cell? _ _ h.c2)).trans h.c2⟩
structure MS (w : World) (g n c : Nat) (cs : List (Cp × Nat)) : Prop where
  len : cs.length = n
  cell : ∀ j u, (xCells cs)[j]? = some u → w.cell? ⟨g, j, none⟩ = some u
  lt : g < w.heap.size
  cap : n ≤ c
  max : c ≤ maxLen
  tot : (compBytes cs).length ≤ 1000
  vle : ∀ x ∈ cs, vok x.1
theorem MS.below {w w' : World} {g n c : Nat} {cs : List (Cp × Nat)} (h : MS w g n c cs) (hb : Below w.heap.size w w') : MS w' g n c cs :=
  ⟨h.len, fun j u hu => (hb.cell h.lt).trans (h.cell j u hu), Nat.lt_of_lt_of_le h.lt hb.size, h.cap, h.max, h.tot, h.vle⟩
theorem MS.of_own {w : World} {base : Nat} {v : Value} {cs : List (Cp × Nat)} (h : w.ownsRow base 81 3 v cs.length (xCells cs)) (hn : 0 < cs.length) (ht : (compBytes cs).length ≤ 1000) (hvl : ∀ x ∈ cs, vok x.1) : ∃ g c, v = .slice (some ⟨g, 0, none⟩) cs.length c ∧ MS w g cs.length c cs := by
  obtain ⟨g, c, rfl, hg, hlt⟩ := h.form hn
  have hr := h.2
  rcases hr with ⟨hv, _⟩ | ⟨g', cap, cur, hv, _, _, hnc, hmx, _⟩
  · cases hv
  · injection hv with h1 h2 h3
    subst h3
    exact ⟨g, c, rfl, rfl, fun j u hu => by
      have := h.cells (g := g) rfl j u hu
      have hadd : (⟨g, 0, none⟩ : Addr).add j = ⟨g, j, none⟩ := by unfold Addr.add; split <;> simp_all
      rwa [hadd] at this, hlt, hnc, hmx, ht, hvl⟩
theorem xCells_at (cs : List (Cp × Nat)) (x : Cp × Nat) (j : Nat) (hj : j < 3) : (xCells (cs ++ [x]))[cs.length * 3 + j]? = ([.string ⟨x.1.l.toArray⟩, .pointer (some ⟨x.2, 0, none⟩), .int .i64 (x.1.vs)] : List Value)[j]? := by
  rw [xCells_snoc, List.getElem?_append_right (by rw [xCells_length]; omega), xCells_length, Nat.add_sub_cancel_left]
theorem MS.init {w : World} {g n c : Nat} {cs : List (Cp × Nat)} {x : Cp × Nat} (h : MS w g n c (cs ++ [x])) : ∀ j u, (xCells cs)[j]? = some u → w.cell? ⟨g, j, none⟩ = some u := fun j u hu => by
  refine h.cell j u ?_
  rw [xCells_snoc, List.getElem?_append_left (List.getElem?_eq_some_iff.1 hu).1]
  exact hu
def OutSL (cs : List (Cp × Nat)) (x : Cp × Nat) (w : World) (e : Ending) (w' : World) : Prop :=
  ∃ T q, e = .returned (.tuple #[T, .pointer (some ⟨q, 0, none⟩)]) ∧ C3 w' q x ∧ ((cs = [] ∧ T = .slice none 0 0) ∨ (0 < cs.length ∧ ∃ b, T = .slice (some ⟨b, 0, none⟩) cs.length cs.length ∧ MS w' b cs.length cs.length cs)) ∧ Below w.heap.size w w'
theorem splitlast_one (g c : Nat) (x : Cp × Nat) (w : World) (h : MS w g 1 c ([] ++ [x])) : Calls Tryz.prog 25 #[.slice (some ⟨g, 0, none⟩) 1 c] w (OutSL [] x w) := by
  have h3 : C3 w g x := ⟨h.cell 0 _ (xCells_at [] x 0 (by decide)), h.cell 1 _ (xCells_at [] x 1 (by decide)), h.cell 2 _ (xCells_at [] x 2 (by decide))⟩
  have H3 := Lib.hid h3
  have hcap := h.cap
  clear h h3
  go_enter Tryz.func25, Tryz.ntmps25
  go_wp2_with fail
  go_quiet (fail)
  go_wp2_with fail
  go_ret2
  exact ⟨_, g, rfl, ⟨H3.out.c0, H3.out.c1, H3.out.c2⟩, Or.inl ⟨rfl, rfl⟩, below_drewN (Below.refl _ _) _⟩
theorem splitlast_more (g c : Nat) (cs : List (Cp × Nat)) (x : Cp × Nat) (w : World) (hn : 0 < cs.length) (hn1 : cs.length ≤ 1000) (h : MS w g (cs.length + 1) c (cs ++ [x])) : Calls Tryz.prog 25 #[.slice (some ⟨g, 0, none⟩) (cs.length + 1) c] w (OutSL cs x w) := by
  have c0 := h.cell (cs.length * 3 + 0) _ (xCells_at cs x 0 (by decide))
  have c1 := h.cell (cs.length * 3 + 1) _ (xCells_at cs x 1 (by decide))
  have c2 := h.cell (cs.length * 3 + 2) _ (xCells_at cs x 2 (by decide))
  rw [Nat.add_zero] at c0
  have hcap := h.cap
  have hmax : c ≤ 9223372036854775807 := h.max
  have HM := Lib.hid h.init
  have HG := Lib.hid h.lt
  have HTT := Lib.hid (show (compBytes cs).length ≤ 1000 by have := h.tot; rw [compBytes_snoc, List.length_append] at this; omega)
  have HVL := Lib.hid (show ∀ y ∈ cs, vok y.1 from fun y hy => h.vle y (by simp [hy]))
  have hz : IntKind.i64.wrap ((cs.length : Int) + 1 - 1) = (cs.length : Int) := by rw [show (cs.length : Int) + 1 - 1 = cs.length by omega]; exact IntWalk.i64_in _ (by omega)
  clear h
  go_enter Tryz.func25, Tryz.ntmps25
  have hb1 : Below w.heap.size w (w.alloc (.cells #[.string ⟨x.1.l.toArray⟩, .pointer (some ⟨x.2, 0, none⟩), .int .i64 (x.1.vs)] 81)) := (Below.refl _ w).alloc (Nat.le_refl _) _
  have hk1 := Blk.new w 81 #[.string ⟨x.1.l.toArray⟩, .pointer (some ⟨x.2, 0, none⟩), .int .i64 (x.1.vs)]
  have HC := Lib.hid (copyma_any g c cs.length cs _ rfl hn hn1 (Nat.lt_of_lt_of_le HG.out hb1.size) (fun j u hu => (hb1.cell (p := ⟨g, j, none⟩) HG.out).trans (HM.out j u hu)))
  have HB1 := Lib.hid hb1
  have HK1 := Lib.hid hk1
  clear hb1 hk1
  go_wp2_with fail
  refine HC.out.mono ?_
  rintro e w2 ⟨b, rfl, hk, _, hb2⟩
  have h3 := HK1.out.below hb2 HK1.out.lt
  have H3 := Lib.hid (show C3 w2 w.heap.size x from ⟨h3.cell 0, h3.cell 1, h3.cell 2⟩)
  have HMS := Lib.hid (show MS w2 b cs.length cs.length cs from ⟨rfl, fun j u hu => by rw [hk.cell j]; simpa using hu, hk.lt, Nat.le_refl _, by unfold maxLen; omega, HTT.out, HVL.out⟩)
  have HB2 := Lib.hid (HB1.out.trans (hb2.mono HB1.out.size))
  clear hk hb2 h3
  go_wp2_with fail
  go_ret2
  exact ⟨_, w.heap.size, rfl, H3.out, Or.inr ⟨hn, b, rfl, HMS.out⟩, HB2.out⟩
theorem rawvalue_c3 (q : Nat) (x : Cp × Nat) (w : World) (h : C3 w q x) (hv : x.1.vs ≤ x.1.l.length) (hl : x.1.l.length ≤ 100000) :
    Calls Tryz.prog 27 #[.pointer (some ⟨q, 0, none⟩)] w (OutB (x.1.l.drop (x.1.vs)) w) := by
  have c0 := h.c0
  have c2 := h.c2
  generalize x.1.l = l at *
  generalize x.1.vs = vs at *
  have hsz := size_toArray l
  have kx := extract_drop l vs
  have hL1 : (l.drop vs).length ≤ 1000000 := by simp; omega
  obtain ⟨L, hL⟩ : ∃ L, L = l.drop vs := ⟨_, rfl⟩
  rw [← hL] at kx hL1 ⊢
  have k0 : (0 : Int) ≤ (vs : Int) := by omega
  have k1 : (vs : Int) ≤ (l.length : Int) := by omega
  obtain ⟨cc, w1, hcv, hr, hb, _⟩ := conv_list w.drew L hL1
  have HR := Lib.hid hr
  have HB := Lib.hid (below_drew_left hb)
  clear h hL hr hb
  go_enter Tryz.func27, Tryz.ntmps27
  go_wp2_with fail
  go_still_tail 9, (by kernel_rfl)
  change wpList _ _ _ _ _ w.drew
  go_wp2_with fail
  go_ret
  exact ⟨_, cc, rfl, HR.out, HB.out⟩
theorem protocol_any (q p k g : Nat) {X : ProtoX} (hX : protoX k = some X) (w : World) (h : w.cell? ⟨q, 1, none⟩ = some (.pointer (some ⟨p, 0, none⟩))) (hp : Blk w p 77 (xcells X k g)) :
    Calls Tryz.prog 26 #[.pointer (some ⟨q, 0, none⟩)] w (OutPV k w) := by
  obtain ⟨S, hS⟩ : ∃ S : ByteArray, S = ⟨X.name.toArray⟩ := ⟨_, rfl⟩
  obtain ⟨m, hm⟩ : ∃ m, m = X.vc.length := ⟨_, rfl⟩
  obtain ⟨z, hz⟩ : ∃ z, z = X.size := ⟨_, rfl⟩
  obtain ⟨pt, hpt⟩ : ∃ pt, pt = X.path := ⟨_, rfl⟩
  have p0 : w.cell? ⟨p, 0, none⟩ = some (.string S) := by rw [hS]; exact hp.cell 0
  have p1 : w.cell? ⟨p, 1, none⟩ = some (.int .i64 k) := hp.cell 1
  have p2 : w.cell? ⟨p, 2, none⟩ = some (.slice (some ⟨g, 0, none⟩) m m) := by rw [hm]; exact hp.cell 2
  have p3 : w.cell? ⟨p, 3, none⟩ = some (.int .i64 z) := by rw [hz]; exact hp.cell 3
  have p4 : w.cell? ⟨p, 4, none⟩ = some (.bool pt) := by rw [hpt]; exact hp.cell 4
  have p5 : w.cell? ⟨p, 5, none⟩ = some X.tc := hp.cell 5
  have h1 := protoX_tc hX
  generalize X.tc = tc at p5 h1
  have hpw := hp.lt
  have hqw := World.block_lt_of_cell? _ _ h
  clear hS hm hz hp hpt hX
  rcases h1 with rfl | ⟨t, v, rfl⟩
  all_goals
    go_enter Tryz.func26, Tryz.ntmps26
    go_wp2_with fail
    exact bodyPost_ret (results_cell_row rfl _ _ w.heap.size 77 _ (0, 0) _ rfl (Blk.new w _ _) Tryz.underlying77 rfl (proto_size.trans rfl)) rfl ⟨_, _, _, _, _, rfl, (Below.refl _ w).alloc (Nat.le_refl _) _⟩
theorem splitlast_any (g c : Nat) (cs : List (Cp × Nat)) (x : Cp × Nat) (w : World) (hn1 : cs.length ≤ 1000) (h : MS w g (cs.length + 1) c (cs ++ [x])) : Calls Tryz.prog 25 #[.slice (some ⟨g, 0, none⟩) (cs.length + 1) c] w (OutSL cs x w) := by
  rcases cs with _ | ⟨y, cs⟩
  · exact splitlast_one g c x w h
  · exact splitlast_more g c (y :: cs) x w (by simp) hn1 h
def OutPS (cs : List (Cp × Nat)) (x : Cp × Nat) (w : World) (e : Ending) (w' : World) : Prop :=
  ∃ T, e = .returned (.tuple #[T, .string ⟨(idX x.1).toArray⟩]) ∧ ((cs = [] ∧ T = .slice none 0 0) ∨ (0 < cs.length ∧ ∃ b, T = .slice (some ⟨b, 0, none⟩) cs.length cs.length ∧ MS w' b cs.length cs.length cs)) ∧ Below w.heap.size w w'
theorem splitaddr_id (g c : Nat) (cs : List (Cp × Nat)) (x : Cp × Nat) (w : World) (hn1 : cs.length ≤ 1000) (hk : x.1.k = 421) (hp : PRX w (cs ++ [x])) (h : MS w g (cs.length + 1) c (cs ++ [x])) : Calls Tryz.prog 14 #[.slice (some ⟨g, 0, none⟩) (cs.length + 1) c] w (OutPS cs x w) := by
  have q : ∀ (w : World) (a : Option Addr) (n c n' c' : Nat), (binOp .eql 44 (.slice a n c) (.slice none n' c')).run Tryz.prog w = .ok (.bool a.isNone) w := fun w a n c n' c' => Lib.run_eql_slice_nil w _ _ a n c n' c' Tryz.underlying44
  obtain ⟨gp, X, hX, hgp⟩ := hp x (by simp)
  have HP := Lib.hid hgp
  have hfc := fun v0 v1 v2 v3 v4 v5 => field_code v0 v1 v2 v3 v4 v5
  rw [hk] at HP hX
  have HX := Lib.hid hX
  have HVL := Lib.hid (h.vle x (by simp)).1
  have HLL := Lib.hid (show x.1.l.length ≤ 1000 by have := h.tot; rw [compBytes_snoc, List.length_append] at this; omega)
  have HC := Lib.hid (splitlast_any g c cs x w hn1 h)
  have HK := Lib.hid hk
  clear hp h hk hgp hX
  go_enter Tryz.func14, Tryz.ntmps14
  go_wp2_with fail
  refine HC.out.mono ?_
  rintro e w1 ⟨T, q1, rfl, h3, hT, hb⟩
  have HB := Lib.hid hb
  have HT := Lib.hid hT
  have H3 := Lib.hid h3
  clear h3 hb hT
  go_wp2_with fail
  refine (protocol_any q1 x.2 421 gp HX.out w1 H3.out.c1 (HP.out.below HB.out HP.out.lt)).mono ?_
  rintro e w2 ⟨v0, v2, v3, v4, v5, rfl, hb2⟩
  have H3' := Lib.hid (H3.out.below hb2)
  have HT' := Lib.hid (HT.out.imp id (fun ⟨h0, b, e1, hm⟩ => ⟨h0, b, e1, hm.below hb2⟩) : (cs = [] ∧ T = Value.slice none 0 0) ∨ (0 < cs.length ∧ ∃ b, T = .slice (some ⟨b, 0, none⟩) cs.length cs.length ∧ MS w2 b cs.length cs.length cs))
  have HB' := Lib.hid (HB.out.trans (hb2.mono HB.out.size))
  clear hb2
  go_wp2_with fail
  refine (rawvalue_c3 q1 x w2 H3'.out HVL.out (by have := HLL.out; omega)).mono ?_
  rintro e w3 ⟨A3, c3, rfl, hr3, hb3⟩
  have hd : x.1.l.drop (x.1.vs) = idX x.1 := rfl
  rw [hd] at hr3 ⊢
  have hcv := run_convert_RB hr3 22 5 Tryz.underlying22 Tryz.underlying5 47 Tryz.underlying47
  have HT3 := Lib.hid (HT'.out.imp id (fun ⟨h0, b, e1, hm⟩ => ⟨h0, b, e1, hm.below hb3⟩) : (cs = [] ∧ T = Value.slice none 0 0) ∨ (0 < cs.length ∧ ∃ b, T = .slice (some ⟨b, 0, none⟩) cs.length cs.length ∧ MS w3 b cs.length cs.length cs))
  have HB3 := Lib.hid (HB'.out.trans (hb3.mono HB'.out.size))
  clear hr3 hb3 hd
  go_wp2_with fail
  go_ret2
  exact ⟨T, rfl, HT3.out, HB3.out⟩
theorem splitaddr_other (g c : Nat) (cs : List (Cp × Nat)) (x : Cp × Nat) (w : World) (hn1 : cs.length ≤ 1000) (hk : x.1.k ≠ 421) (hp : PRX w (cs ++ [x])) (h : MS w g (cs.length + 1) c (cs ++ [x])) : Calls Tryz.prog 14 #[.slice (some ⟨g, 0, none⟩) (cs.length + 1) c] w fun e w' => e = .returned (.tuple #[.slice (some ⟨g, 0, none⟩) (cs.length + 1) c, .string ⟨#[]⟩]) ∧ Below w.heap.size w w' := by
  have q : ∀ (w : World) (a : Option Addr) (n c n' c' : Nat), (binOp .eql 44 (.slice a n c) (.slice none n' c')).run Tryz.prog w = .ok (.bool a.isNone) w := fun w a n c n' c' => Lib.run_eql_slice_nil w _ _ a n c n' c' Tryz.underlying44
  obtain ⟨gp, X, hX, hgp⟩ := hp x (by simp)
  have HP := Lib.hid hgp
  have hfc := fun v0 v1 v2 v3 v4 v5 => field_code v0 v1 v2 v3 v4 v5
  obtain ⟨K, hK⟩ : ∃ K, K = x.1.k := ⟨_, rfl⟩
  have hne : ((K : Int) != 421) = true := by
    have : K ≠ 421 := by rw [hK]; exact hk
    simp; omega
  rw [← hK] at HP hX
  have HX := Lib.hid hX
  have HC := Lib.hid (splitlast_any g c cs x w hn1 h)
  clear hp h hgp hK hX
  go_enter Tryz.func14, Tryz.ntmps14
  go_wp2_with fail
  refine HC.out.mono ?_
  rintro e w1 ⟨T, q1, rfl, h3, _, hb⟩
  have HB := Lib.hid hb
  have H3 := Lib.hid h3
  clear h3 hb
  go_wp2_with fail
  refine (protocol_any q1 x.2 K gp HX.out w1 H3.out.c1 (HP.out.below HB.out HP.out.lt)).mono ?_
  rintro e w2 ⟨v0, v2, v3, v4, v5, rfl, hb2⟩
  have HB' := Lib.hid (HB.out.trans (hb2.mono HB.out.size))
  clear hb2
  go_wp2_with fail
  go_ret2
  exact ⟨rfl, HB'.out⟩
theorem xCells_get (cs : List (Cp × Nat)) (k : Nat) (hk : k < cs.length) (j : Nat) (hj : j < 3) : (xCells cs)[k * 3 + j]? = ([.string ⟨(cs[k]).1.l.toArray⟩, .pointer (some ⟨(cs[k]).2, 0, none⟩), .int .i64 ((cs[k]).1.vs)] : List Value)[j]? := by
  have e : cs = cs.take k ++ [cs[k]] ++ cs.drop (k + 1) := by simp
  have hl : (cs.take k).length = k := by rw [List.length_take]; omega
  have h1 := xCells_at (cs.take k) (cs[k]) j hj
  rw [hl] at h1
  rw [← h1]
  conv => lhs; rw [e]
  have e2 : xCells (cs.take k ++ [cs[k]] ++ cs.drop (k + 1)) = xCells (cs.take k ++ [cs[k]]) ++ xCells (cs.drop (k + 1)) := by unfold xCells; rw [List.flatMap_append]
  rw [e2, List.getElem?_append_left]
  rw [xCells_length, List.length_append, hl]
  simp
  omega
theorem bytes_any (g n c : Nat) (cs : List (Cp × Nat)) (w : World) (h : MS w g n c cs) (hn : n ≤ 1000) :
    Calls Tryz.prog 15 #[.slice (some ⟨g, 0, none⟩) n c] w (OutB (compBytes cs) w) := by
  obtain ⟨i0, hi0, hz0, hz1, hz2⟩ := info_parts u8_info
  have HM := Lib.hid h
  have HL := Lib.hid h.len
  have hlen : cs.length ≤ 1000 := by rw [h.len]; exact hn
  clear h
  go_enter Tryz.func15, Tryz.ntmps15
  go_wp2_with fail
  go_loopw [3, 12] (fun s i wr => ∃ k : Nat, k ≤ n ∧ i = .int .i64 k ∧ s = .int .i64 (compBytes (cs.take k)).length ∧ Below w.heap.size w wr) (fun _ i _ => n - (intOf i).toNat)
  case atStart => exact ⟨0, by omega, rfl, rfl, Below.refl _ _⟩
  case round =>
    obtain ⟨k, hk, rfl, rfl, hb⟩ := hrel
    have HB := Lib.hid hb
    clear hb
    by_cases hlt : k < n
    · have hlt' : k < cs.length := by rw [HL.out]; exact hlt
      have hm := HM.out.below HB.out
      have c0 := hm.cell (k * 3 + 0) _ (xCells_get cs k hlt' 0 (by decide))
      have c1 := hm.cell (k * 3 + 1) _ (xCells_get cs k hlt' 1 (by decide))
      have c2 := hm.cell (k * 3 + 2) _ (xCells_get cs k hlt' 2 (by decide))
      rw [Nat.add_zero] at c0
      have htk := compBytes_take cs k hlt'
      have hle := Nat.le_trans (compBytes_take_le cs k) HM.out.tot
      have hle2 := Nat.le_trans (compBytes_at_le cs k hlt') HM.out.tot
      have hltk : (cs.take k).length ≤ 1000 := by rw [List.length_take]; omega
      have hts : (compBytes (cs.take (k + 1))).length = (compBytes (cs.take k)).length + (cs[k]).1.l.length := by rw [htk, List.length_append]
      have hsz := size_toArray (cs[k]).1.l
      generalize hX : (cs[k]).1.l = X at *
      have hX2 : X.length ≤ 1000 := by first | omega | (rw [← hX]; omega)
      have HTS := Lib.hid hts
      generalize (compBytes (cs.take k)).length = S0 at *
      have hS0 : S0 ≤ 50000 := by omega
      clear hts htk hle hle2 hm hX
      go_wp2_with fail
      exact ⟨⟨k + 1, by omega, by go_num, by rw [HTS.out]; go_num, HB.out.alloc HB.out.size _⟩, by simp [intOf]; omega⟩
    · obtain rfl : n = k := by omega
      have htk : cs.take n = cs := by rw [← HL.out]; exact List.take_length
      rw [htk]
      clear htk
      obtain ⟨S, hS⟩ : ∃ S, S = (compBytes cs).length := ⟨_, rfl⟩
      have hS1 : S ≤ 50000 := by have := HM.out.tot; omega
      rw [← hS]
      have hmk : ∀ W : World, (Instr.makeSlice 22 (.int .i64 0) (.int .i64 (S : Int))).run Tryz.prog W = .ok (.slice (some ⟨W.heap.size, 0, none⟩) 0 S) (W.alloc (.cells (madeCells (Value.int .u8 0).cells (S * 1)) 5)) := fun W => by
        have := run_make_rowN (P := Tryz.prog) 22 5 i0 (.int .u8 0) Tryz.underlying22 hi0 hz0 .i64 .i64 0 S (Nat.zero_le _) (by rw [hz2]; omega) (by omega) W
        rwa [hz1] at this
      have HS := Lib.hid hS
      clear hS
      by_cases hlt128 : S < 128
      · have hd0 : decide ((S : Int) < 128) = true := by simp; omega
        have hn0 : 0 < 128 := by decide
        have hob : ∀ X : Array Value, X.size = 128 → (wr.alloc (.cells X 82)).ownsRow w.heap.size 82 1 (.slice (some ⟨wr.heap.size, 0, none⟩) 0 128) 0 [] := fun X hX => ⟨rfl, .inr ⟨_, _, _, rfl, HB.out.size, heap_alloc_new _ _, by omega, by unfold maxLen; omega, by omega, rfl⟩⟩
        have HOB := Lib.hid hob
        clear hob
        go_wp2_with fail
        go_loopw [6, 29] (fun v i wq => ∃ k : Nat, k ≤ n ∧ i = .int .i64 k ∧ v = .slice (some ⟨wr.heap.size, 0, none⟩) (compBytes (cs.take k)).length 128 ∧ wq.ownsRow w.heap.size 82 1 v (compBytes (cs.take k)).length (bv (compBytes (cs.take k))) ∧ Below w.heap.size w wq) (fun _ i _ => n - (intOf i).toNat)
        case atStart => exact ⟨0, by omega, rfl, rfl, HOB.out _ (by rfl), HB.out.alloc HB.out.size _⟩
        case round =>
          obtain ⟨k, hk, rfl, rfl, hown, hb⟩ := hrel
          have HO := Lib.hid hown
          have HB := Lib.hid hb
          clear hb hown
          by_cases hlt : k < n
          · have hlt' : k < cs.length := by rw [HL.out]; exact hlt
            have hm := HM.out.below HB.out
            have c0 := hm.cell (k * 3 + 0) _ (xCells_get cs k hlt' 0 (by decide))
            have c1 := hm.cell (k * 3 + 1) _ (xCells_get cs k hlt' 1 (by decide))
            have c2 := hm.cell (k * 3 + 2) _ (xCells_get cs k hlt' 2 (by decide))
            rw [Nat.add_zero] at c0
            have htk := compBytes_take cs k hlt'
            have hle := compBytes_take_le cs (k + 1)
            have hts : (compBytes (cs.take (k + 1))).length = (compBytes (cs.take k)).length + (cs[k]).1.l.length := by rw [htk, List.length_append]
            rw [hts, ← HS.out] at hle
            have hsz := size_toArray (cs[k]).1.l
            generalize hX : (cs[k]).1.l = X at *
            have HTK := Lib.hid htk
            have HTS := Lib.hid hts
            have HLE := Lib.hid hle
            have hbw : Below w.heap.size w (wr.alloc (.cells #[.string ⟨X.toArray⟩, .pointer (some ⟨(cs[k]).2, 0, none⟩), .int .i64 ((cs[k]).1.vs)] 81)) := HB.out.alloc HB.out.size _
            have HBW := Lib.hid hbw
            have HOO := Lib.hid (own_below HO.out ((Below.refl _ wr).alloc (Nat.le_refl _) (.cells #[.string ⟨X.toArray⟩, .pointer (some ⟨(cs[k]).2, 0, none⟩), .int .i64 ((cs[k]).1.vs)] 81)))
            clear hts htk hle hm hX hbw
            go_wp2_with (at_builtin; refine step_append_string rfl (.tmp 33) (.tmp 35) _ _ rfl w.heap.size 5 82 i0 Tryz.underlying22 Tryz.underlying9 hi0 hz1 _ _ _ _ rfl HOO.out _ rfl ?c1 ?c2 ?_)
            case c1 => omega
            case c2 => have := HLE.out; omega
            intro w' hown hgrow
            rw [strCells_bv, ← bv_append, ← HTK.out, ← HTS.out] at hown
            have HOF := Lib.hid hown
            have HBF := Lib.hid (HBW.out.grown hgrow HBW.out.size (fun g hg => (HOO.out.lt g hg).1))
            have hts' := HTS.out
            rw [← hts']
            clear hown hgrow hts'
            go_wp2_with fail
            go_roundw
            case rel => exact ⟨k + 1, by omega, by go_num, rfl, HOF.out, HBF.out⟩
            case measure => simp [intOf]; omega
          · obtain rfl : k = n := by omega
            have htk : cs.take k = cs := by rw [← HL.out]; exact List.take_length
            rw [htk] at HO ⊢
            clear htk
            go_wp2_with fail
            go_ret
            exact OutB.of_own HO.out HB.out
      · have hd0 : decide ((S : Int) < 128) = false := by simp; omega
        have hn0 : 0 < S := by omega
        have hob : ∀ X : Array Value, X.size = S → (wr.alloc (.cells X 5)).ownsRow w.heap.size 5 1 (.slice (some ⟨wr.heap.size, 0, none⟩) 0 S) 0 [] := fun X hX => ⟨rfl, .inr ⟨_, _, _, rfl, HB.out.size, heap_alloc_new _ _, by omega, by unfold maxLen; omega, by omega, rfl⟩⟩
        have HOB := Lib.hid hob
        clear hob
        go_wp2_with fail
        go_loopw [6, 29] (fun v i wq => ∃ k : Nat, k ≤ n ∧ i = .int .i64 k ∧ v = .slice (some ⟨wr.heap.size, 0, none⟩) (compBytes (cs.take k)).length S ∧ wq.ownsRow w.heap.size 5 1 v (compBytes (cs.take k)).length (bv (compBytes (cs.take k))) ∧ Below w.heap.size w wq) (fun _ i _ => n - (intOf i).toNat)
        case atStart => exact ⟨0, by omega, rfl, rfl, HOB.out _ (by rw [size_madeCells]), HB.out.alloc HB.out.size _⟩
        case round =>
          obtain ⟨k, hk, rfl, rfl, hown, hb⟩ := hrel
          have HO := Lib.hid hown
          have HB := Lib.hid hb
          clear hb hown
          by_cases hlt : k < n
          · have hlt' : k < cs.length := by rw [HL.out]; exact hlt
            have hm := HM.out.below HB.out
            have c0 := hm.cell (k * 3 + 0) _ (xCells_get cs k hlt' 0 (by decide))
            have c1 := hm.cell (k * 3 + 1) _ (xCells_get cs k hlt' 1 (by decide))
            have c2 := hm.cell (k * 3 + 2) _ (xCells_get cs k hlt' 2 (by decide))
            rw [Nat.add_zero] at c0
            have htk := compBytes_take cs k hlt'
            have hle := compBytes_take_le cs (k + 1)
            have hts : (compBytes (cs.take (k + 1))).length = (compBytes (cs.take k)).length + (cs[k]).1.l.length := by rw [htk, List.length_append]
            rw [hts, ← HS.out] at hle
            have hsz := size_toArray (cs[k]).1.l
            generalize hX : (cs[k]).1.l = X at *
            have HTK := Lib.hid htk
            have HTS := Lib.hid hts
            have HLE := Lib.hid hle
            have hbw : Below w.heap.size w (wr.alloc (.cells #[.string ⟨X.toArray⟩, .pointer (some ⟨(cs[k]).2, 0, none⟩), .int .i64 ((cs[k]).1.vs)] 81)) := HB.out.alloc HB.out.size _
            have HBW := Lib.hid hbw
            have HOO := Lib.hid (own_below HO.out ((Below.refl _ wr).alloc (Nat.le_refl _) (.cells #[.string ⟨X.toArray⟩, .pointer (some ⟨(cs[k]).2, 0, none⟩), .int .i64 ((cs[k]).1.vs)] 81)))
            clear hts htk hle hm hX hbw
            go_wp2_with (at_builtin; refine step_append_string rfl (.tmp 33) (.tmp 35) _ _ rfl w.heap.size 5 5 i0 Tryz.underlying22 Tryz.underlying9 hi0 hz1 _ _ _ _ rfl HOO.out _ rfl ?c1 ?c2 ?_)
            case c1 => omega
            case c2 => have := HLE.out; omega
            intro w' hown hgrow
            rw [strCells_bv, ← bv_append, ← HTK.out, ← HTS.out] at hown
            have HOF := Lib.hid hown
            have HBF := Lib.hid (HBW.out.grown hgrow HBW.out.size (fun g hg => (HOO.out.lt g hg).1))
            have hts' := HTS.out
            rw [← hts']
            clear hown hgrow hts'
            go_wp2_with fail
            go_roundw
            case rel => exact ⟨k + 1, by omega, by go_num, rfl, HOF.out, HBF.out⟩
            case measure => simp [intOf]; omega
          · obtain rfl : k = n := by omega
            have htk : cs.take k = cs := by rw [← HL.out]; exact List.take_length
            rw [htk] at HO ⊢
            clear htk
            go_wp2_with fail
            go_ret
            exact OutB.of_own HO.out HB.out
end X
end Go.Proofs.YtghddiboggdhcaaGreatDoor
/- NewMultiaddrBytes, impl.addrOf, AddrRight at any bytes. Conditions: the package variables as laid, or typed. -/
namespace Go.Proofs.YtghddiboggdhcaaGreatDoor
open Go.RowKit
variable {K : Nat} {f : Nat → Int}
attribute [local go_sem ↓] Go.wp_at_zero Go.wp_at_succ
namespace X
def parse (d : List UInt8) : Option (List Cp) := parseX (d.length + 1) false d
theorem parseX_facts : ∀ (F : Nat) (saw : Bool) (d : List UInt8) (ps : List Cp), parseX F saw d = some ps → ps.flatMap (fun p => p.l) = d ∧ (∀ p ∈ ps, vok p) ∧ ps.length ≤ d.length
  | 0, saw, d, ps, h => by simp [parseX] at h
  | F + 1, saw, d, ps, h => by
    rw [parseX] at h
    split at h
    · rename_i h0
      injection h with h
      subst h
      exact ⟨(List.eq_nil_of_length_eq_zero h0).symm, fun p hp => by simp at hp, by simp⟩
    · split at h
      · cases h
      · rename_i N k vs hr
        split at h
        · cases h
        · have hf := readX_facts hr
          cases hp : parseX F (pathX k) (d.drop N) with
          | none => rw [hp] at h; cases h
          | some qs =>
            rw [hp] at h
            injection h with h
            subst h
            obtain ⟨h1, h2, h3⟩ := parseX_facts F _ _ _ hp
            have hl : (d.take N).length = N := by rw [List.length_take]; omega
            refine ⟨?_, ?_, ?_⟩
            · rw [List.flatMap_cons, h1]
              exact List.take_append_drop N d
            · intro p hp
              rcases List.mem_cons.1 hp with rfl | hp
              · exact ⟨by show vs ≤ (d.take N).length; omega, fun hk => by have := hf.2.2.1.2 hk; show vs < (d.take N).length; omega⟩
              · exact h2 p hp
            · rw [List.length_drop] at h3
              simp
              omega
theorem parse_facts {d : List UInt8} {ps : List Cp} (h : parse d = some ps) (hd : 0 < d.length) : ps.flatMap (fun p => p.l) = d ∧ (∀ p ∈ ps, vok p) ∧ 0 < ps.length ∧ ps.length ≤ d.length := by
  obtain ⟨h1, h2, h3⟩ := parseX_facts _ _ _ _ h
  refine ⟨h1, h2, ?_, h3⟩
  rcases ps with _ | ⟨p, ps⟩
  · rw [← h1] at hd
    simp at hd
  · simp
theorem compBytes_map (cs : List (Cp × Nat)) : compBytes cs = (cs.map (·.1)).flatMap (fun p => p.l) := by
  unfold compBytes
  induction cs with
  | nil => rfl
  | cons x cs ih => simp [ih]
def OutNA (o : Option (List Cp)) (w : World) (e : Ending) (w' : World) : Prop :=
  match o with
  | none => ∃ t u, e = .returned (.tuple #[.slice none 0 0, .iface t u]) ∧ Below w.heap.size w w'
  | some ps => ∃ v cs, e = .returned (.tuple #[v, .nilIface]) ∧ cs.map (·.1) = ps ∧ PRX w' cs ∧ w'.ownsRow w.heap.size 81 3 v cs.length (xCells cs) ∧ Below w.heap.size w w'
theorem newma_x (hK : 18446744073709551616 ≤ K) (A : Option Addr) (c : Nat) (d : List UInt8) (w : World) (hE : EnvX K f w) (h : RB w w.heap.size A d.length c d) (hn : d.length ≤ 1000) (hn0 : 0 < d.length) :
    Calls Tryz.prog 24 #[.slice A d.length c] w (OutNA (parse d) w) := by
  have hmf : ∀ (fn : Fn) (first cap : Array Value) (w : World), (Instr.makeFunc fn first cap).run Tryz.prog w = .ok (.func fn first cap) w := fun _ _ _ _ => rfl
  have q0 : ∀ w : World, (binOp .neq 52 .nilIface .nilIface).run Tryz.prog w = .ok (.bool false) w := fun _ => by kernel_rfl
  have qn : ∀ (t : TypeId) (v : Value) (w : World), (binOp .neq 52 (.iface t v) .nilIface).run Tryz.prog w = .ok (.bool true) w := fun _ _ _ => by kernel_rfl
  obtain ⟨w1, hw1⟩ : ∃ w1, w1 = w.alloc (.cells #[.nilIface] 52) := ⟨_, rfl⟩
  have hb1 : Below w.heap.size w w1 := by rw [hw1]; exact (Below.refl _ w).alloc (Nat.le_refl _) _
  have hk1 : Blk w1 w.heap.size 52 #[.nilIface] := by rw [hw1]; exact Blk.new _ _ _
  have hrd := readma_x hK A c d w1 (hE.below hb1) ((h.below hb1).more hb1.size) hn hn0 (parse d) rfl
  have HB1 := Lib.hid hb1
  have HK1 := Lib.hid hk1
  have HW1 := Lib.hid hw1
  obtain ⟨L, hL⟩ : ∃ L, L = d.length := ⟨_, rfl⟩
  cases ho : parse d with
  | none =>
    rw [ho] at hrd
    rw [← hL] at hrd ⊢
    have HC := Lib.hid hrd
    clear h hE hb1 hk1 hw1 hrd ho hL
    go_enter_defers Tryz.func24, Tryz.ntmps24
    go_wp2_with fail
    rw [← HW1.out]
    refine HC.out.mono ?_
    rintro e w3 ⟨z, t, u, rfl, hb3⟩
    have hk3 := HK1.out.below hb3 HK1.out.lt
    have c0 : w3.cell? ⟨w.heap.size, 0, none⟩ = some .nilIface := hk3.cell 0
    have f0 := hk3.frozen 0
    have HB := Lib.hid (HB1.out.trans (hb3.mono HB1.out.size))
    have HK3 := Lib.hid hk3
    clear hb3 hk3
    go_wp2_with fail
    obtain ⟨w4, hw4⟩ : ∃ w4, w4 = w3.setCell ⟨w.heap.size, 0, none⟩ (.iface t u) := ⟨_, rfl⟩
    have hk4 : Blk w4 w.heap.size 52 #[.iface t u] := by rw [hw4]; exact HK3.out.set_ 0 (.iface t u)
    have HB4 := Lib.hid (show Below w.heap.size w w4 by rw [hw4]; exact HB.out.setCell (p := ⟨w.heap.size, 0, none⟩) (Nat.le_refl _) (.iface t u))
    rw [← hw4]
    have c4 : w4.cell? ⟨w.heap.size, 0, none⟩ = some (.iface t u) := hk4.cell 0
    have f4 := hk4.frozen 0
    have c4d : w4.drew.cell? ⟨w.heap.size, 0, none⟩ = some (.iface t u) := c4
    have f4d : w4.drew.frozen? ⟨w.heap.size, 0, none⟩ = false := f4
    have HK4 := Lib.hid hk4
    clear hw4 hk4 c0 f0
    go_region
    all_goals (
      clear c4 f4 c4d f4d
      go_wp2_with fail
      have hcf : (w4.setCell ⟨w.heap.size, 0, none⟩ (.iface t u)).drew.cell? ⟨w.heap.size, 0, none⟩ = some (.iface t u) := (HK4.out.set_ 0 (.iface t u)).cell 0
      have hbf := (HB4.out.setCell (p := ⟨w.heap.size, 0, none⟩) (Nat.le_refl _) (.iface t u)).drew
      refine leaves_cons (f := 37) (args := #[.pointer (some ⟨w.heap.size, 0, none⟩)]) (by simp) (by simp [go_sem]) ?_
      refine (catch_idle ⟨w.heap.size, 0, none⟩ _).mono ?_
      rintro e u' w'' ⟨rfl, rfl, rfl⟩
      have hfin : OutNA none w (.returned (.tuple #[.slice none 0 0, .iface t u])) (w4.setCell ⟨w.heap.size, 0, none⟩ (.iface t u)).drew := ⟨t, u, rfl, hbf⟩
      simp [Leaves, settle, results, Tryz.results24, go_sem, hcf]
      exact hfin)
  | some ps =>
    have hpf := parse_facts ho hn0
    rw [ho] at hrd
    rw [← hL] at hrd ⊢
    have HC := Lib.hid hrd
    clear h hE hb1 hk1 hw1 hrd ho hL
    go_enter_defers Tryz.func24, Tryz.ntmps24
    go_wp2_with fail
    rw [← HW1.out]
    refine HC.out.mono ?_
    rintro e w3 ⟨v, cs, rfl, hcs, hpr, hown, hb3⟩
    obtain ⟨A3, c3, rfl⟩ := own_slice hown
    have hk3 := HK1.out.below hb3 HK1.out.lt
    have c0 : w3.cell? ⟨w.heap.size, 0, none⟩ = some .nilIface := hk3.cell 0
    have f0 := hk3.frozen 0
    have hcl : 0 < cs.length := by have := congrArg List.length hcs; rw [List.length_map] at this; omega
    have hb4 : w.heap.size < w1.heap.size := HK1.out.lt
    have HO := Lib.hid hown
    have HP := Lib.hid hpr
    have HCS := Lib.hid hcs
    have HB := Lib.hid (HB1.out.trans (hb3.mono HB1.out.size))
    have HK3 := Lib.hid hk3
    clear hown hpr hcs hb3 hk3 hpf
    go_wp2_with fail
    have hcf : ((w3.setCell ⟨w.heap.size, 0, none⟩ .nilIface).setCell ⟨w.heap.size, 0, none⟩ .nilIface).cell? ⟨w.heap.size, 0, none⟩ = some .nilIface := ((HK3.out.set_ 0 .nilIface).set_ 0 .nilIface).cell 0
    have hpf := PRX.far (PRX.far HP.out HK3.out (by decide) 0 .nilIface) (HK3.out.set_ 0 .nilIface) (by decide) 0 .nilIface
    have hof := ownsRow_setCell_below (ownsRow_setCell_below HO.out (a := ⟨w.heap.size, 0, none⟩) hb4 .nilIface) (a := ⟨w.heap.size, 0, none⟩) hb4 .nilIface
    have hbf := (HB.out.setCell (p := ⟨w.heap.size, 0, none⟩) (Nat.le_refl _) .nilIface).setCell (p := ⟨w.heap.size, 0, none⟩) (Nat.le_refl _) .nilIface
    refine leaves_cons (f := 37) (args := #[.pointer (some ⟨w.heap.size, 0, none⟩)]) (by simp) (by simp [go_sem]) ?_
    refine (catch_idle ⟨w.heap.size, 0, none⟩ _).mono ?_
    rintro e u' w'' ⟨rfl, rfl, rfl⟩
    have hfin : OutNA (some ps) w (.returned (.tuple #[.slice A3 cs.length c3, .nilIface])) ((w3.setCell ⟨w.heap.size, 0, none⟩ .nilIface).setCell ⟨w.heap.size, 0, none⟩ .nilIface) := ⟨_, cs, rfl, HCS.out, hpf, own_base hof (Nat.le_of_lt hb4), hbf⟩
    simp [Leaves, settle, results, Tryz.results24, go_sem, hcf]
    exact hfin
def OutAO (o : Option (List Cp)) (w : World) (e : Ending) (w' : World) : Prop :=
  match o with
  | none => ∃ v, e = .returned (.tuple #[v, .bool false]) ∧ Below w.heap.size w w'
  | some ps => ∃ g c cs, e = .returned (.tuple #[.slice (some ⟨g, 0, none⟩) cs.length c, .bool true]) ∧ cs.map (·.1) = ps ∧ 0 < cs.length ∧ cs.length ≤ 1000 ∧ PRX w' cs ∧ MS w' g cs.length c cs ∧ Below w.heap.size w w'
theorem addrof_x (hK : 18446744073709551616 ≤ K) (A : Option Addr) (c : Nat) (d : List UInt8) (w : World) (hE : EnvX K f w) (h : RB w w.heap.size A d.length c d) (hn : d.length ≤ 1000) (hn0 : 0 < d.length) :
    Calls Tryz.prog 13 #[.slice A d.length c] w (OutAO (parse d) w) := by
  have HC := Lib.hid (clone_any A _ c _ w h (by omega))
  have HE := Lib.hid hE
  have q0 : ∀ w : World, (binOp .eql 52 .nilIface .nilIface).run Tryz.prog w = .ok (.bool true) w := fun _ => by kernel_rfl
  have qn : ∀ (t : TypeId) (v : Value) (w : World), (binOp .eql 52 (.iface t v) .nilIface).run Tryz.prog w = .ok (.bool false) w := fun _ _ _ => by kernel_rfl
  have HNM := Lib.hid (fun (A1 : Option Addr) (c1 : Nat) (w1 : World) (hE1 : EnvX K f w1) (h1 : RB w1 w1.heap.size A1 d.length c1 d) => newma_x hK A1 c1 d w1 hE1 h1 hn hn0)
  have HPF := Lib.hid (fun ps (ho : parse d = some ps) => parse_facts ho hn0)
  obtain ⟨L, hL⟩ : ∃ L, L = d.length := ⟨_, rfl⟩
  have HL := Lib.hid hL
  obtain ⟨o, ho⟩ : ∃ o, o = parse d := ⟨_, rfl⟩
  rw [← ho] at HNM HPF ⊢
  rw [← hL] at HC HNM hn hn0 ⊢
  clear h hE hL ho
  go_enter Tryz.func13, Tryz.ntmps13
  go_wp2_with fail
  refine HC.out.mono ?_
  rintro e w1 ⟨A1, c1, rfl, hr1, hb1⟩
  rw [← HL.out] at hr1 ⊢
  have HR1 := Lib.hid hr1
  have HB1 := Lib.hid hb1
  clear hr1 hb1
  go_wp2_with fail
  refine (HNM.out A1 c1 w1 (HE.out.below HB1.out) HR1.out).mono ?_
  intro e w2 hout
  cases o with
  | none =>
    obtain ⟨t, u, rfl, hb2⟩ := hout
    have HB := Lib.hid (HB1.out.trans (hb2.mono HB1.out.size))
    clear hb2
    go_wp2_with fail
    go_ret2
    exact ⟨_, rfl, HB.out⟩
  | some ps =>
    obtain ⟨v, cs, rfl, hcs, hpr, hown, hb2⟩ := hout
    obtain ⟨f1, f2, f3, f4⟩ := HPF.out ps rfl
    have hcl : 0 < cs.length := by have := congrArg List.length hcs; rw [List.length_map] at this; omega
    have hcl2 : cs.length ≤ 1000 := by have := congrArg List.length hcs; rw [List.length_map] at this; have := HL.out; omega
    obtain ⟨g, c2, rfl, hms⟩ := MS.of_own hown hcl (by rw [compBytes_map, hcs, f1, ← HL.out]; exact hn) (fun x hx => f2 x.1 (by rw [← hcs]; exact List.mem_map_of_mem hx))
    have HCS := Lib.hid hcs
    have HPR := Lib.hid hpr
    have HMS := Lib.hid hms
    have HB := Lib.hid (HB1.out.trans (hb2.mono HB1.out.size))
    clear hcs hpr hms hown hb2 f1 f2 f3 f4
    go_wp2_with fail
    go_ret2
    exact ⟨g, c2, cs, rfl, HCS.out, hcl, hcl2, HPR.out, HMS.out, HB.out⟩
theorem right_x (hK : 18446744073709551616 ≤ K) (A : Option Addr) (c : Nat) (d : List UInt8) (w : World) (hE : EnvX K f w) (h : RB w w.heap.size A d.length c d) (hn : d.length ≤ 1000) (hn0 : 0 < d.length) :
    Calls Tryz.prog 10 #[.slice A d.length c] w fun e w' => e = .returned (.bool (parse d).isSome) ∧ Below w.heap.size w w' := by
  have HC := Lib.hid (addrof_x hK A c d w hE h hn hn0)
  clear h hE
  generalize d.length = L at *
  generalize parse d = o at *
  go_enter Tryz.func10, Tryz.ntmps10
  go_wp2_with fail
  refine HC.out.mono ?_
  intro e w2 hout
  cases o with
  | none =>
    obtain ⟨v, rfl, hb2⟩ := hout
    have HB := Lib.hid hb2
    clear hb2
    go_wp2_with fail
    go_ret
    exact ⟨rfl, HB.out⟩
  | some ps =>
    obtain ⟨g, c1, cs, rfl, _, _, _, _, _, hb⟩ := hout
    have HB := Lib.hid hb
    clear hb
    go_wp2_with fail
    go_ret
    exact ⟨rfl, HB.out⟩
end X
end Go.Proofs.YtghddiboggdhcaaGreatDoor
/- The ID of data has two bytes at least. No condition. -/
namespace Go.Proofs.YtghddiboggdhcaaGreatDoor
open Go.RowKit
end Go.Proofs.YtghddiboggdhcaaGreatDoor
/- impl.AddrSplit, impl.AddrPeer at any bytes. Conditions: the package variables as laid, or typed. -/
namespace Go.Proofs.YtghddiboggdhcaaGreatDoor
open Go.RowKit
variable {K : Nat} {f : Nat → Int}
attribute [local go_sem ↓] Go.wp_at_zero Go.wp_at_succ
structure Inv (w : World) : Prop where
  held : ∃ t v, w.cell? ⟨0, 0, none⟩ = some (.iface t v)
theorem Inv.below {w w' : World} (h : Inv w) (hb : Below w.heap.size w w') : Inv w' := by
  obtain ⟨t, v, h⟩ := h.held
  exact ⟨t, v, (hb.cell (World.block_lt_of_cell? _ _ h)).trans h⟩
namespace X
def isId : Option (List Cp) → Bool
  | none => false
  | some ps => match ps.getLast? with
    | some p => p.k == 421
    | none => false
theorem isId_snoc (ps : List Cp) (p : Cp) : isId (some (ps ++ [p])) = (p.k == 421) := by
  show (match (ps ++ [p]).getLast? with
    | some p => p.k == 421
    | none => false) = _
  rw [List.getLast?_concat]
theorem snoc_of {α : Type} (l : List α) (h : 0 < l.length) : ∃ r x, l = r ++ [x] := ⟨l.dropLast, l.getLast (by intro e; simp [e] at h), (List.dropLast_concat_getLast _).symm⟩
theorem isplit_x (hK : 18446744073709551616 ≤ K) (A : Option Addr) (c : Nat) (d : List UInt8) (w : World) (hE : EnvX K f w) (h : RB w w.heap.size A d.length c d) (hn : d.length ≤ 1000) (hn0 : 0 < d.length) :
    Calls Tryz.prog 5 #[.slice A d.length c] w fun e w' => ∃ a b, e = .returned (.tuple #[a, b, .bool (parse d).isSome]) ∧ Below w.heap.size w w' := by
  have q : ∀ (w : World) (a : Option Addr) (n c n' c' : Nat), (binOp .neq 44 (.slice a n c) (.slice none n' c')).run Tryz.prog w = .ok (.bool (!a.isNone)) w := fun w a n c n' c' => run_neq_slice_nil_any w _ _ a n c n' c' Tryz.underlying44
  have HC := Lib.hid (addrof_x hK A c d w hE h hn hn0)
  clear h hE
  generalize d.length = L at *
  generalize parse d = o at *
  go_enter Tryz.func5, Tryz.ntmps5
  go_wp2_with fail
  refine HC.out.mono ?_
  intro e w1 hout
  cases o with
  | none =>
    obtain ⟨v, rfl, hb2⟩ := hout
    have HB := Lib.hid hb2
    clear hb2
    go_wp2_with fail
    go_ret3
    exact ⟨_, _, rfl, HB.out⟩
  | some ps =>
    obtain ⟨g, c1, cs1, rfl, hcs, hp0, hp1, hpr, hms, hb⟩ := hout
    obtain ⟨cs, x, rfl⟩ := snoc_of cs1 hp0
    rw [List.length_append, List.length_singleton] at hms hp1 ⊢
    have HB := Lib.hid hb
    have HM := Lib.hid hms
    have hix : (idX x.1).length ≤ 1000 := by
      have := hms.tot
      rw [compBytes_snoc, List.length_append] at this
      unfold idX
      rw [List.length_drop]
      omega
    by_cases hk : x.1.k = 421
    · have HP := Lib.hid (splitaddr_id g c1 cs x w1 (by omega) hk hpr hms)
      clear hpr hms hcs hb hp0
      go_wp2_with fail
      refine HP.out.mono ?_
      rintro e w2 ⟨T, rfl, hT, hb2⟩
      have HB2 := Lib.hid (HB.out.trans (hb2.mono HB.out.size))
      obtain ⟨L2, hL⟩ : ∃ L2, L2 = idX x.1 := ⟨_, rfl⟩
      rw [← hL] at hix ⊢
      clear hb2 hL
      rcases hT with ⟨_, rfl⟩ | ⟨hpos, b, rfl, hm2⟩
      · obtain ⟨c5, w5, hcv, hr5, hb5, _⟩ := conv_id w2 L2 (by omega)
        have HB5 := Lib.hid (HB2.out.trans (hb5.mono HB2.out.size))
        clear hr5 hb5
        go_wp2_with fail
        go_ret3
        exact ⟨_, _, rfl, HB5.out⟩
      · have HBY := Lib.hid (bytes_any b cs.length cs.length cs w2 hm2 (by omega))
        have hab := hm2.tot
        obtain ⟨M, hM⟩ : ∃ M, M = compBytes cs := ⟨_, rfl⟩
        rw [← hM] at HBY hab
        clear hm2 hM
        go_wp2_with fail
        refine HBY.out.mono ?_
        rintro e w3 ⟨A3, c3, rfl, hr3, hb3⟩
        have HC3 := Lib.hid (clone_any A3 _ c3 M w3 hr3 (by omega))
        have HB3 := Lib.hid (HB2.out.trans (hb3.mono HB2.out.size))
        clear hr3 hb3
        go_wp2_with fail
        refine HC3.out.mono ?_
        rintro e w4 ⟨A4, c4, rfl, hr4, hb4⟩
        obtain ⟨c5, w5, hcv, hr5, hb5, _⟩ := conv_id w4 L2 (by omega)
        have HB5 := Lib.hid ((HB3.out.trans (hb4.mono HB3.out.size)).trans (hb5.mono (Nat.le_trans HB3.out.size hb4.size)))
        clear hr5 hb5 hr4 hb4
        go_wp2_with fail
        go_ret3
        exact ⟨_, _, rfl, HB5.out⟩
    · have HP := Lib.hid (splitaddr_other g c1 cs x w1 (by omega) hk hpr hms)
      clear hpr hms hcs hb hp0
      go_wp2_with fail
      refine HP.out.mono ?_
      rintro e w2 ⟨rfl, hb2⟩
      have HBY := Lib.hid (bytes_any g (cs.length + 1) c1 (cs ++ [x]) w2 (HM.out.below hb2) hp1)
      have hab := HM.out.tot
      obtain ⟨M, hM⟩ : ∃ M, M = compBytes (cs ++ [x]) := ⟨_, rfl⟩
      rw [← hM] at HBY hab
      have HB2 := Lib.hid (HB.out.trans (hb2.mono HB.out.size))
      clear hb2 hM
      go_wp2_with fail
      refine HBY.out.mono ?_
      rintro e w3 ⟨A3, c3, rfl, hr3, hb3⟩
      have HC3 := Lib.hid (clone_any A3 _ c3 M w3 hr3 (by omega))
      have HB3 := Lib.hid (HB2.out.trans (hb3.mono HB2.out.size))
      clear hr3 hb3
      go_wp2_with fail
      refine HC3.out.mono ?_
      rintro e w4 ⟨A4, c4, rfl, hr4, hb4⟩
      obtain ⟨c5, w5, hcv, hr5, hb5, _⟩ := conv_id w4 [] (by decide)
      have HB5 := Lib.hid ((HB3.out.trans (hb4.mono HB3.out.size)).trans (hb5.mono (Nat.le_trans HB3.out.size hb4.size)))
      clear hr5 hb5 hr4 hb4
      go_wp2_with fail
      go_ret3
      exact ⟨_, _, rfl, HB5.out⟩
theorem C3.far {w : World} {q : Nat} {x : Cp × Nat} (h : C3 w q x) {p : Addr} (hne : q ≠ p.block) (u : Value) : C3 (w.setCell p u) q x :=
  ⟨(World.cell?_setCell_other w p _ u (fun e => hne (by have := congrArg Addr.block e; first | exact this | exact this.symm))).trans h.c0,
   (World.cell?_setCell_other w p _ u (fun e => hne (by have := congrArg Addr.block e; first | exact this | exact this.symm))).trans h.c1,
   (World.cell?_setCell_other w p _ u (fun e => hne (by have := congrArg Addr.block e; first | exact this | exact this.symm))).trans h.c2⟩
theorem c3_put {w : World} {b : Nat} {xs : Array Value} (h : Blk w b 81 xs) (hs : xs.size = 3) (x : Cp × Nat) :
    C3 (((w.setCell ⟨b, 0, none⟩ (.string ⟨x.1.l.toArray⟩)).setCell ⟨b, 1, none⟩ (.pointer (some ⟨x.2, 0, none⟩))).setCell ⟨b, 2, none⟩ (.int .i64 (x.1.vs))) b x := by
  have h1 := h.set_ 0 (.string ⟨x.1.l.toArray⟩)
  have h2 := h1.set_ 1 (.pointer (some ⟨x.2, 0, none⟩))
  refine ⟨?_, ?_, ?_⟩
  · rw [blk_set_cell h2 _ _ _ (by decide), blk_set_cell h1 _ _ _ (by decide), blk_set_same h _ _ (by omega)]
  · rw [blk_set_cell h2 _ _ _ (by decide), blk_set_same h1 _ _ (by simp; omega)]
  · rw [blk_set_same h2 _ _ (by simp; omega)]
theorem idcl_any (b B : Nat) (X : Cp × Nat) (w : World) (hbB : B ≤ b) (hBw : B ≤ w.heap.size) (ys : Array Value) (hk : Blk w b 81 ys) (hs : ys.size = 3) :
    Calls Tryz.prog 29 #[.agg #[.string ⟨X.1.l.toArray⟩, .pointer (some ⟨X.2, 0, none⟩), .int .i64 (X.1.vs)], .pointer (some ⟨b, 0, none⟩)] w fun e w' => e = .returned (.bool true) ∧ Below B w w' ∧ (∃ zs, Blk w' b 81 zs ∧ zs.size = 3) ∧ C3 w' b X := by
  have HK := Lib.hid hk
  have f0 := hk.frozen 0
  have f1 := hk.frozen 1
  have f2 := hk.frozen 2
  have hl : ∃ y0 y1 y2, w.cell? ⟨b, 0, none⟩ = some y0 ∧ w.cell? ⟨b, 1, none⟩ = some y1 ∧ w.cell? ⟨b, 2, none⟩ = some y2 := by
    refine ⟨ys[0]'(by omega), ys[1]'(by omega), ys[2]'(by omega), ?_, ?_, ?_⟩ <;> rw [hk.cell] <;> simp [hs]
  obtain ⟨y0, y1, y2, c0, c1, c2⟩ := hl
  have hlt := hk.lt
  have HB := Lib.hid (And.intro hbB hBw)
  clear hk
  go_enter Tryz.func29, Tryz.ntmps29
  go_wp2_with fail
  go_ret
  obtain ⟨w3, hw3⟩ : ∃ w3, w3 = ((w.setCell ⟨b, 0, none⟩ (.string ⟨X.1.l.toArray⟩)).setCell ⟨b, 1, none⟩ (.pointer (some ⟨X.2, 0, none⟩))).setCell ⟨b, 2, none⟩ (.int .i64 (X.1.vs)) := ⟨_, rfl⟩
  have h3 := c3_put HK.out hs X
  have hb3 : Below B w w3 := by rw [hw3]; exact (((Below.refl B w).setCell (p := ⟨b, 0, none⟩) hbB _).setCell (p := ⟨b, 1, none⟩) hbB _).setCell (p := ⟨b, 2, none⟩) hbB _
  have hk3 : ∃ zs, Blk w3 b 81 zs ∧ zs.size = 3 := by rw [hw3]; exact ⟨_, ((HK.out.set_ 0 _).set_ 1 _).set_ 2 _, by simp [hs]⟩
  rw [← hw3] at h3 ⊢
  obtain ⟨zs, hz, hzs⟩ := hk3
  exact ⟨rfl, hb3.alloc (Nat.le_trans hBw hb3.size) _, ⟨zs, hz.alloc _, hzs⟩, h3.below ((Below.refl _ w3).alloc (Nat.le_refl _) _)⟩
theorem foreach_last (g c n b B : Nat) (cs : List (Cp × Nat)) (w : World) (h : MS w g n c cs) (hn : n ≤ 1001) (hgB : g < B) (hbB : B ≤ b) (hBw : B ≤ w.heap.size) (xs : Array Value) (hk : Blk w b 81 xs) (hs : xs.size = 3) :
    Calls Tryz.prog 28 #[.slice (some ⟨g, 0, none⟩) n c, .func (Fn.func 29) #[] #[.pointer (some ⟨b, 0, none⟩)]] w fun e w' => (∃ v, e = .returned v) ∧ Below B w w' ∧ (n = 0 ∨ ∃ hi : n - 1 < cs.length, C3 w' b cs[n - 1]) := by
  have HH := Lib.hid h
  have HL := Lib.hid h.len
  have HK := Lib.hid hk
  clear h hk
  have HB0 := Lib.hid (And.intro hgB (And.intro hbB hBw))
  go_enter Tryz.func28, Tryz.ntmps28
  go_wp2_with fail
  go_loopw [5, 8] (fun _ iv wr => ∃ k : Nat, k ≤ n ∧ iv = .int .i64 k ∧ Below B w wr ∧ (∃ ys, Blk wr b 81 ys ∧ ys.size = 3) ∧ (k = 0 ∨ ∃ hi : k - 1 < cs.length, C3 wr b cs[k - 1])) (fun _ iv _ => n - (intOf iv).toNat)
  case atStart => exact ⟨0, by omega, rfl, Below.refl _ _, ⟨xs, HK.out, hs⟩, Or.inl rfl⟩
  case round =>
    obtain ⟨k, hk, rfl, hb, ⟨ys, hys, hsz⟩, hlast⟩ := hrel
    have HB := Lib.hid hb
    have HY := Lib.hid hys
    have HLS := Lib.hid hlast
    clear hb hys hlast
    by_cases hlt : k < n
    · have hlt' : k < cs.length := by rw [HL.out]; exact hlt
      have c0 := (HB.out.cell (p := ⟨g, k * 3, none⟩) hgB).trans (HH.out.cell (k * 3 + 0) _ (xCells_get cs k hlt' 0 (by decide)))
      have c1 := (HB.out.cell (p := ⟨g, k * 3 + 1, none⟩) hgB).trans (HH.out.cell (k * 3 + 1) _ (xCells_get cs k hlt' 1 (by decide)))
      have c2 := (HB.out.cell (p := ⟨g, k * 3 + 2, none⟩) hgB).trans (HH.out.cell (k * 3 + 2) _ (xCells_get cs k hlt' 2 (by decide)))
      obtain ⟨X, hX⟩ : ∃ X, X = cs[k] := ⟨_, rfl⟩
      rw [← hX] at c0 c1 c2
      have HX := Lib.hid hX
      clear hX
      have HBA := Lib.hid (HB.out.alloc (Nat.le_trans hBw HB.out.size) (.cells #[.string ⟨X.1.l.toArray⟩, .pointer (some ⟨X.2, 0, none⟩), .int .i64 (X.1.vs)] 81))
      have HIC := Lib.hid (idcl_any b B X (wr.alloc (.cells #[.string ⟨X.1.l.toArray⟩, .pointer (some ⟨X.2, 0, none⟩), .int .i64 (X.1.vs)] 81)) hbB (Nat.le_trans hBw HBA.out.size) ys (HY.out.alloc _) hsz)
      go_wp2_with fail
      refine HIC.out.mono ?_
      rintro e w2 ⟨rfl, hb2, ⟨zs, hz, hzs⟩, h3⟩
      rw [HX.out] at h3
      have H3 := Lib.hid h3
      have HZ := Lib.hid hz
      have HB2 := Lib.hid (HBA.out.trans hb2)
      clear hb2 hz h3
      go_wp2_with fail
      go_roundw
      case rel => exact ⟨k + 1, by omega, by go_num, HB2.out, ⟨zs, HZ.out, hzs⟩, Or.inr ⟨by omega, H3.out⟩⟩
      case measure => simp [intOf]; omega
    · obtain rfl : n = k := by omega
      go_wp2_with fail
      go_returns
      exact ⟨⟨_, rfl⟩, HB.out, HLS.out⟩
theorem idfrom_id (g c : Nat) (cs : List (Cp × Nat)) (x : Cp × Nat) (w : World) (hn1 : cs.length ≤ 1000) (hk : x.1.k = 421) (hp : PRX w (cs ++ [x])) (h : MS w g (cs.length + 1) c (cs ++ [x])) :
    Calls Tryz.prog 16 #[.slice (some ⟨g, 0, none⟩) (cs.length + 1) c] w fun e w' => e = .returned (.tuple #[.string ⟨(idX x.1).toArray⟩, .nilIface]) ∧ Below w.heap.size w w' := by
  have q : ∀ (w : World) (a : Option Addr) (n c n' c' : Nat), (binOp .eql 44 (.slice a n c) (.slice none n' c')).run Tryz.prog w = .ok (.bool a.isNone) w := fun w a n c n' c' => Lib.run_eql_slice_nil w _ _ a n c n' c' Tryz.underlying44
  obtain ⟨gp, XX, hX, hgp⟩ := hp x (by simp)
  have HP := Lib.hid hgp
  have hfc := fun v0 v1 v2 v3 v4 v5 => field_code v0 v1 v2 v3 v4 v5
  rw [hk] at HP hX
  have HX := Lib.hid hX
  have HVL := Lib.hid (h.vle x (by simp)).1
  have HLL := Lib.hid (show x.1.l.length ≤ 1000 by have := h.tot; rw [compBytes_snoc, List.length_append] at this; omega)
  have HK := Lib.hid hk
  have hba := (Below.refl w.heap.size w).alloc (Nat.le_refl _) (.cells #[.string ⟨#[]⟩, .pointer none, .int .i64 0] 81)
  have HF := Lib.hid (foreach_last g c (cs.length + 1) w.heap.size w.heap.size (cs ++ [x]) (w.alloc (.cells #[.string ⟨#[]⟩, .pointer none, .int .i64 0] 81)) (h.below hba) (by omega) h.lt (Nat.le_refl _) hba.size #[.string ⟨#[]⟩, .pointer none, .int .i64 0] (Blk.new _ _ _) rfl)
  have HBA := Lib.hid hba
  clear hp h hk hgp hba hX
  go_enter Tryz.func16, Tryz.ntmps16
  go_wp2_with fail
  refine HF.out.mono ?_
  rintro e w1 ⟨⟨v, rfl⟩, hb1, hlast⟩
  have h3 : C3 w1 w.heap.size x := by
    rcases hlast with h0 | ⟨hi, h3⟩
    · omega
    · simpa using h3
  have H3 := Lib.hid h3
  have HB1 := Lib.hid (HBA.out.trans hb1)
  clear hlast hb1 h3
  go_wp2_with fail
  refine (protocol_any w.heap.size x.2 421 gp HX.out w1 H3.out.c1 (HP.out.below HB1.out HP.out.lt)).mono ?_
  rintro e w2 ⟨v0, v2, v3, v4, v5, rfl, hb2⟩
  have H3' := Lib.hid (H3.out.below hb2)
  have HB2 := Lib.hid (HB1.out.trans (hb2.mono HB1.out.size))
  clear hb2
  go_wp2_with fail
  refine (rawvalue_c3 w.heap.size x w2 H3'.out HVL.out (by have := HLL.out; omega)).mono ?_
  rintro e w3 ⟨A3, c3, rfl, hr3, hb3⟩
  have hd : x.1.l.drop (x.1.vs) = idX x.1 := rfl
  rw [hd] at hr3 ⊢
  have hcv := run_convert_RB hr3 22 5 Tryz.underlying22 Tryz.underlying5 47 Tryz.underlying47
  have HB3 := Lib.hid (HB2.out.trans (hb3.mono HB2.out.size))
  clear hr3 hb3 hd
  go_wp2_with fail
  go_ret2
  exact ⟨rfl, HB3.out⟩
theorem idfrom_other (g c : Nat) (cs : List (Cp × Nat)) (x : Cp × Nat) (w : World) (hn1 : cs.length ≤ 1000) (hk : x.1.k ≠ 421) (hu : Inv w) (hp : PRX w (cs ++ [x])) (h : MS w g (cs.length + 1) c (cs ++ [x])) :
    Calls Tryz.prog 16 #[.slice (some ⟨g, 0, none⟩) (cs.length + 1) c] w fun e w' => (∃ t v, e = .returned (.tuple #[.string ⟨#[]⟩, .iface t v])) ∧ Below w.heap.size w w' := by
  have q : ∀ (w : World) (a : Option Addr) (n c n' c' : Nat), (binOp .eql 44 (.slice a n c) (.slice none n' c')).run Tryz.prog w = .ok (.bool a.isNone) w := fun w a n c n' c' => Lib.run_eql_slice_nil w _ _ a n c n' c' Tryz.underlying44
  obtain ⟨gp, XX, hX, hgp⟩ := hp x (by simp)
  have HP := Lib.hid hgp
  have hfc := fun v0 v1 v2 v3 v4 v5 => field_code v0 v1 v2 v3 v4 v5
  obtain ⟨kk, hkk⟩ : ∃ kk, kk = x.1.k := ⟨_, rfl⟩
  have hne : ((kk : Int) != 421) = true := by simp; omega
  have HU := Lib.hid hu
  rw [← hkk] at HP hX
  have HX := Lib.hid hX
  have HVL := Lib.hid (h.vle x (by simp)).1
  have HLL := Lib.hid (show x.1.l.length ≤ 1000 by have := h.tot; rw [compBytes_snoc, List.length_append] at this; omega)
  have HK := Lib.hid hk
  have hba := (Below.refl w.heap.size w).alloc (Nat.le_refl _) (.cells #[.string ⟨#[]⟩, .pointer none, .int .i64 0] 81)
  have HF := Lib.hid (foreach_last g c (cs.length + 1) w.heap.size w.heap.size (cs ++ [x]) (w.alloc (.cells #[.string ⟨#[]⟩, .pointer none, .int .i64 0] 81)) (h.below hba) (by omega) h.lt (Nat.le_refl _) hba.size #[.string ⟨#[]⟩, .pointer none, .int .i64 0] (Blk.new _ _ _) rfl)
  have HBA := Lib.hid hba
  clear hp h hk hgp hba hX hu hkk
  go_enter Tryz.func16, Tryz.ntmps16
  go_wp2_with fail
  refine HF.out.mono ?_
  rintro e w1 ⟨⟨v, rfl⟩, hb1, hlast⟩
  have h3 : C3 w1 w.heap.size x := by
    rcases hlast with h0 | ⟨hi, h3⟩
    · omega
    · simpa using h3
  have H3 := Lib.hid h3
  have HB1 := Lib.hid (HBA.out.trans hb1)
  clear hlast hb1 h3
  go_wp2_with fail
  refine (protocol_any w.heap.size x.2 kk gp HX.out w1 H3.out.c1 (HP.out.below HB1.out HP.out.lt)).mono ?_
  rintro e w2 ⟨v0, v2, v3, v4, v5, rfl, hb2⟩
  have H3' := Lib.hid (H3.out.below hb2)
  have HB2 := Lib.hid (HB1.out.trans (hb2.mono HB1.out.size))
  clear hb2
  obtain ⟨et, ev, hev⟩ := (HU.out.below HB2.out).held
  go_wp2_with fail
  go_quiet (fail)
  go_wp2_with fail
  go_ret2
  exact ⟨⟨et, ev, rfl⟩, below_drewN HB2.out _⟩
theorem peer_x (hK : 18446744073709551616 ≤ K) (A : Option Addr) (c : Nat) (d : List UInt8) (w : World) (hE : EnvX K f w) (hu : Inv w) (h : RB w w.heap.size A d.length c d) (hn : d.length ≤ 1000) (hn0 : 0 < d.length) :
    Calls Tryz.prog 7 #[.slice A d.length c] w fun e w' => ∃ a, e = .returned (.tuple #[a, .bool (isId (parse d))]) ∧ Below w.heap.size w w' := by
  have q0 : ∀ w : World, (binOp .neq 52 .nilIface .nilIface).run Tryz.prog w = .ok (.bool false) w := fun _ => by kernel_rfl
  have qn : ∀ (t : TypeId) (v : Value) (w : World), (binOp .neq 52 (.iface t v) .nilIface).run Tryz.prog w = .ok (.bool true) w := fun _ _ _ => by kernel_rfl
  have HC := Lib.hid (addrof_x hK A c d w hE h hn hn0)
  have HU := Lib.hid hu
  clear h hE hu
  generalize d.length = L at *
  generalize parse d = o at *
  obtain ⟨ii, hii⟩ : ∃ ii, ii = isId o := ⟨_, rfl⟩
  have HII := Lib.hid hii
  rw [← hii]
  clear hii
  go_enter Tryz.func7, Tryz.ntmps7
  go_wp2_with fail
  refine HC.out.mono ?_
  intro e w1 hout
  cases o with
  | none =>
    obtain ⟨v, rfl, hb2⟩ := hout
    have HB := Lib.hid hb2
    have HI := Lib.hid (show ii = false from HII.out)
    clear hb2
    go_wp2_with fail
    go_ret2
    rw [HI.out]
    exact ⟨_, rfl, HB.out⟩
  | some ps =>
    obtain ⟨g, c1, cs1, rfl, hcs, hp0, hp1, hpr, hms, hb⟩ := hout
    obtain ⟨cs, x, rfl⟩ := snoc_of cs1 hp0
    rw [List.length_append, List.length_singleton] at hms hp1 ⊢
    have HB := Lib.hid hb
    have hi : ii = (x.1.k == 421) := by rw [HII.out, ← hcs, List.map_append]; exact isId_snoc _ _
    have hix : (idX x.1).length ≤ 1000 := by
      have := hms.tot
      rw [compBytes_snoc, List.length_append] at this
      unfold idX
      rw [List.length_drop]
      omega
    by_cases hk : x.1.k = 421
    · have HP := Lib.hid (idfrom_id g c1 cs x w1 (by omega) hk hpr hms)
      have HI := Lib.hid (show ii = true by rw [hi, hk]; rfl)
      clear hpr hms hcs hb hp0 hi
      go_wp2_with fail
      refine HP.out.mono ?_
      rintro e w2 ⟨rfl, hb2⟩
      have hb02 := HB.out.trans (hb2.mono HB.out.size)
      obtain ⟨L2, hL⟩ : ∃ L2, L2 = idX x.1 := ⟨_, rfl⟩
      rw [← hL] at hix ⊢
      obtain ⟨c5, w5, hcv, hr5, hb5, _⟩ := conv_id w2 L2 (by omega)
      have HB5 := Lib.hid (hb02.trans (hb5.mono hb02.size))
      clear hr5 hb5 hb2 hb02 hL
      go_wp2_with fail
      go_ret2
      rw [HI.out]
      exact ⟨_, rfl, HB5.out⟩
    · have HP := Lib.hid (idfrom_other g c1 cs x w1 (by omega) hk (HU.out.below HB.out) hpr hms)
      have HI := Lib.hid (show ii = false by rw [hi]; simp [hk])
      clear hpr hms hcs hb hp0 hi
      go_wp2_with fail
      refine HP.out.mono ?_
      rintro e w2 ⟨⟨t, v, rfl⟩, hb2⟩
      have HB2 := Lib.hid (HB.out.trans (hb2.mono HB.out.size))
      clear hb2
      go_wp2_with fail
      go_ret2
      rw [HI.out]
      exact ⟨_, rfl, HB2.out⟩
end X
end Go.Proofs.YtghddiboggdhcaaGreatDoor
/- Words for lists of byte slices: a slice whose block's type is known; slices of slices. No condition. -/
namespace Go.Proofs.YtghddiboggdhcaaGreatDoor
open Go.RowKit
structure TB (w : World) (p : Part) : Prop where
  rb : RB w w.heap.size p.A p.n p.c p.l
  ty : ∀ ad, p.A = some ad → ∃ cs fr, w.heap[ad.block]? = some (.cells cs 5 fr)
theorem heap_lt {w : World} {g : Nat} {o : Obj} (h : w.heap[g]? = some o) : g < w.heap.size := by
  rcases Nat.lt_or_ge g w.heap.size with hlt | hge
  · exact hlt
  · rw [Array.getElem?_eq_none hge] at h; cases h
theorem TB.below {w w' : World} {p : Part} (h : TB w p) (hb : Below w.heap.size w w') : TB w' p :=
  ⟨h.rb.next hb, fun ad e => by
    obtain ⟨cs, fr, hc⟩ := h.ty ad e
    exact ⟨cs, fr, (hb.block _ (heap_lt hc)).trans hc⟩⟩
theorem TB.kept {w w' : World} {p : Part} {row : Option Nat} (h : TB w p) (hg : w.grownBy w' row) (hne : ∀ ad, p.A = some ad → some ad.block ≠ row) : TB w' p := by
  refine ⟨⟨⟨h.rb.reads.1, fun hn => ?_⟩, h.rb.cap, h.rb.max⟩, fun ad e => ?_⟩
  · obtain ⟨ad, e, hlt, hc⟩ := h.rb.reads.2 hn
    exact ⟨ad, e, Nat.lt_of_lt_of_le hlt hg.size, fun j u hu => (World.cell?_of_block (hg.block _ (by rw [block_of_add]; exact hlt) (by rw [block_of_add]; exact hne ad e))).trans (hc j u hu)⟩
  · obtain ⟨cs, fr, hc⟩ := h.ty ad e
    exact ⟨cs, fr, (hg.block _ (heap_lt hc) (hne ad e)).trans hc⟩
theorem TB.grown {w w' : World} {p : Part} {base : Nat} {e : TypeId} {size n : Nat} {v : Value} {xs : List Value} (h : TB w p) (ho : w.ownsRow base e size v n xs) (hne : e ≠ 5) (hg : w.grownBy w' v.ownBlock) : TB w' p :=
  h.kept hg fun ad e1 e2 => by
    obtain ⟨cs, fr, hc⟩ := h.ty ad e1
    rcases ho.2 with ⟨rfl, _⟩ | ⟨g, cap, cur, rfl, _, hh, _⟩
    · simp [Value.ownBlock] at e2
    · simp [Value.ownBlock] at e2
      rw [e2, hh] at hc
      injection hc with hc
      injection hc with _ ht
      exact hne ht
theorem TB.of_own {w : World} {base : Nat} {A : Option Addr} {c : Nat} {l : List UInt8} (h : w.ownsRow base 5 1 (.slice A l.length c) l.length (bv l)) : TB w ⟨A, l.length, c, l⟩ :=
  ⟨RB.of_own h, fun ad e => by
    rcases h.2 with ⟨hv, _⟩ | ⟨g, cap, cur, hv, _, hh, _⟩
    · injection hv with hA
      rw [hA] at e
      cases e
    · injection hv with hA
      rw [hA] at e
      injection e with e
      subst e
      exact ⟨_, _, hh⟩⟩
def TBs (w : World) (ps : List Part) : Prop := ∀ p ∈ ps, TB w p
theorem TBs.snoc {w : World} {ps : List Part} {p : Part} (h : TBs w ps) (hp : TB w p) : TBs w (ps ++ [p]) := fun x hx => by
  rcases List.mem_append.1 hx with hx | hx
  · exact h x hx
  · simp at hx; subst hx; exact hp
def partCells (ps : List Part) : List Value := ps.map Part.v
theorem partCells_snoc (ps : List Part) (p : Part) : partCells (ps ++ [p]) = partCells ps ++ [p.v] := by simp [partCells]
theorem partCells_length (ps : List Part) : (partCells ps).length = ps.length := by simp [partCells]
structure LS (w : World) (B : Nat) (A : Option Addr) (n c : Nat) (ps : List Part) : Prop where
  len : ps.length = n
  cap : n ≤ c
  max : c ≤ maxLen
  at_ : ∀ i (hi : i < ps.length), ∃ ad, A = some ad ∧ ad.block < B ∧ w.cell? (ad.add i) = some (ps[i]).v ∧ RB w B (ps[i]).A (ps[i]).n (ps[i]).c (ps[i]).l
theorem LS.below {w w' : World} {B : Nat} {A : Option Addr} {n c : Nat} {ps : List Part} (h : LS w B A n c ps) (hb : Below B w w') : LS w' B A n c ps :=
  ⟨h.len, h.cap, h.max, fun i hi => by
    obtain ⟨ad, e, hlt, c0, hr⟩ := h.at_ i hi
    exact ⟨ad, e, hlt, (hb.cell (by rw [block_of_add]; exact hlt)).trans c0, hr.below hb⟩⟩
theorem LS.more {w : World} {B B' : Nat} {A : Option Addr} {n c : Nat} {ps : List Part} (h : LS w B A n c ps) (hB : B ≤ B') : LS w B' A n c ps :=
  ⟨h.len, h.cap, h.max, fun i hi => by
    obtain ⟨ad, e, hlt, c0, hr⟩ := h.at_ i hi
    exact ⟨ad, e, by omega, c0, hr.more hB⟩⟩
theorem LS.of_own {w : World} {base : Nat} {e : TypeId} {A : Option Addr} {n c : Nat} {ps : List Part} (h : w.ownsRow base e 1 (.slice A n c) n (partCells ps)) (hr : TBs w ps) : LS w w.heap.size A n c ps := by
  have hrd := Reads.of_own h
  have hln : ps.length = n := by have := hrd.1; rw [partCells_length] at this; omega
  refine ⟨hln, ?_, ?_, fun i hi => ?_⟩
  · rcases h.2 with ⟨hv, h0⟩ | ⟨g, cap, cur, hv, _, _, hle, _⟩
    · injection hv with _ h1 hc; omega
    · injection hv with _ _ hc; omega
  · rcases h.2 with ⟨hv, h0⟩ | ⟨g, cap, cur, hv, _, _, _, hle, _⟩
    · injection hv with _ _ hc; subst hc; simp [maxLen]
    · injection hv with _ _ hc; subst hc; exact hle
  · obtain ⟨ad, e1, hlt, hc⟩ := hrd.2 (by omega)
    exact ⟨ad, e1, hlt, hc i _ (by simp [partCells, hi]), (hr _ (List.getElem_mem hi)).rb⟩
end Go.Proofs.YtghddiboggdhcaaGreatDoor
