/- A component's value as a text, whatever its bytes; varints of codes. Conditions: the tables and errors of the packages as laid, or typed. -/
import Derived.Test.YtghddiboggdhcaaGreatDoorVo
import Derived.Test.YtghddiboggdhcaaGreatDoorVg
import Derived.Test.YtghddiboggdhcaaGreatDoorVr
import Derived.Test.YtghddiboggdhcaaGreatDoorVc
set_option maxRecDepth 100000
set_option maxHeartbeats 4000000
namespace Go.Proofs.YtghddiboggdhcaaGreatDoor
open Go.RowKit
variable {K : Nat}
attribute [local go_sem ↓] Go.wp_at_zero Go.wp_at_succ
structure EnvX (K : Nat) (f : Nat → Int) (w : World) : Prop where
  tab : Tab K w
  vrs : Vrs w
  shr : Shr w
  url : UrlT f w
theorem EnvX.below {f : Nat → Int} {w w' : World} (h : EnvX K f w) (hb : Below w.heap.size w w') : EnvX K f w' := ⟨h.tab.below hb, h.vrs.below hb, h.shr.below hb, h.url.below hb⟩
theorem EnvX.drewN {f : Nat → Int} {w : World} (h : EnvX K f w) (n : Nat) : EnvX K f (w.drewN n) := h.below (below_drewN (Below.refl _ w) n)
theorem EnvX.drew {f : Nat → Int} {w : World} (h : EnvX K f w) : EnvX K f w.drew := h.below (Below.refl _ w).drew
theorem OutVal.split {ok : Bool} {w w' : World} {e : Ending} (h : OutVal ok w e w') : ∃ v, e = .returned v ∧ ((ok = true ∧ v = .nilIface) ∨ (ok = false ∧ ∃ t u, v = .iface t u)) ∧ Below w.heap.size w w' := by
  obtain ⟨⟨h, rfl⟩ | ⟨h, t, u, rfl⟩, hb⟩ := h
  · exact ⟨_, rfl, .inl ⟨h, rfl⟩, hb⟩
  · exact ⟨_, rfl, .inr ⟨h, t, u, rfl⟩, hb⟩
theorem OutBS.split {ok : Bool} {w w' : World} {e : Ending} (h : OutBS ok w e w') : ∃ s v, e = .returned (.tuple #[.string s, v]) ∧ ((ok = true ∧ v = .nilIface) ∨ (ok = false ∧ ∃ t u, v = .iface t u)) ∧ Below w.heap.size w w' := by
  obtain ⟨⟨h, s, rfl⟩ | ⟨h, s, t, u, rfl⟩, hb⟩ := h
  · exact ⟨s, _, rfl, .inl ⟨h, rfl⟩, hb⟩
  · exact ⟨s, _, rfl, .inr ⟨h, t, u, rfl⟩, hb⟩
theorem p2p_bts (A : Option Addr) (n c : Nat) (d : List UInt8) (w : World) (h : RB w w.heap.size A n c d) (hE : Vrs w) (hS : Shr w) (hn : n ≤ 1000) (hn0 : 0 < n) : Calls Tryz.prog 161 #[.slice A n c] w (OutBS (mhOk d).isSome w) := by
  have q0 : ∀ w : World, (binOp .neq 52 .nilIface .nilIface).run Tryz.prog w = .ok (.bool false) w := fun _ => by kernel_rfl
  have qn : ∀ (t : TypeId) (v : Value) (w : World), (binOp .neq 52 (.iface t v) .nilIface).run Tryz.prog w = .ok (.bool true) w := fun _ _ _ => by kernel_rfl
  have HC := Lib.hid (cast_g A n c d w h hE hS (by omega) hn0)
  have HR := Lib.hid h
  have HL := Lib.hid h.len
  clear h hE hS
  go_enter Tryz.func161, Tryz.ntmps161
  go_wp2_with fail
  refine HC.out.mono ?_
  rintro e w1 ⟨hb, ⟨hok, rfl⟩ | ⟨hok, x, t, v, rfl⟩⟩
  · have HB := Lib.hid hb
    have HOK := Lib.hid hok
    clear hb hok
    go_wp2_with fail
    refine (b58_g A n c d w1 (by have := HL.out; omega) (HR.out.next HB.out)).mono ?_
    rintro e w2 ⟨s, rfl, _, hb⟩
    have HB2 := Lib.hid (HB.out.trans (hb.mono HB.out.size))
    clear hb
    go_wp2_with fail
    go_ret2
    exact ⟨.inl ⟨HOK.out, s, rfl⟩, HB2.out⟩
  · have HB := Lib.hid hb
    have HOK := Lib.hid hok
    clear hb hok
    go_wp2_with fail
    go_ret2
    exact ⟨.inr ⟨HOK.out, _, t, v, rfl⟩, HB.out⟩
def rvc (d : List UInt8) : Option (Nat × Nat) := match uv d with
  | some (v, n) => if v ≤ 2147483647 then some (v, n) else none
  | none => none
theorem rvc_x (A : Option Addr) (n c : Nat) (d : List UInt8) (w : World) (h : RB w w.heap.size A n c d) (hE : Vrs w) (hn : n ≤ 100000) : Calls Tryz.prog 61 #[.slice A n c] w (OutUv .i64 (rvc d) w) := by
  have q0 : ∀ w : World, (binOp .neq 52 .nilIface .nilIface).run Tryz.prog w = .ok (.bool false) w := fun _ => by kernel_rfl
  have qn : ∀ (t : TypeId) (v : Value) (w : World), (binOp .neq 52 (.iface t v) .nilIface).run Tryz.prog w = .ok (.bool true) w := fun _ _ _ => by kernel_rfl
  have HF := Lib.hid (fromuv_x A n c d w h hE hn)
  have HEV := Lib.hid hE
  clear h hE
  go_enter Tryz.func61, Tryz.ntmps61
  go_wp2_with fail
  refine HF.out.mono ?_
  rintro e w1 ⟨hb, ⟨v, m, huv, rfl⟩ | ⟨huv, t, u, rfl⟩⟩
  · have HB := Lib.hid hb
    have HU := Lib.hid huv
    obtain ⟨⟨ot, ov, hov⟩, _, _⟩ := HEV.out.below hb
    have hv := (uv_facts huv).2.2.2
    clear hb huv
    by_cases hle : v ≤ 2147483647
    · have e1 : decide ((2147483647 : Int) < (v : Int)) = false := by simp; omega
      have hwr : IntKind.i64.wrap (v : Int) = (v : Int) := IntWalk.i64_in _ (by omega)
      go_wp2_with fail
      go_ret3
      exact ⟨HB.out, .inl ⟨v, m, by unfold rvc; rw [HU.out]; simp only; rw [if_pos hle], rfl⟩⟩
    · have e1 : decide ((2147483647 : Int) < (v : Int)) = true := by simp; omega
      go_wp2_with fail
      go_quiet (fail)
      go_wp2_with fail
      go_ret3
      exact ⟨below_drewN HB.out _, .inr ⟨by unfold rvc; rw [HU.out]; simp only; rw [if_neg hle], ot, ov, rfl⟩⟩
  · have HB := Lib.hid hb
    have HU := Lib.hid huv
    clear hb huv
    go_wp2_with fail
    go_ret3
    exact ⟨HB.out, .inr ⟨by unfold rvc; rw [HU.out], t, u, rfl⟩⟩
theorem twrp_btsg (ok : Bool) (a b : Nat) (v : Value) (hv : v = .nilFunc ∨ ∃ c, v = .func (Fn.func c) #[] #[]) (A : Option Addr) (n c : Nat) (w : World)
    (he : ∀ args w, (callFunc b args).run Tryz.prog w = .ok (.enter b args) w) (hf : ∀ w1, Below w.heap.size w w1 → Calls Tryz.prog b #[.slice A n c] w1 (OutBS ok w1)) :
    Calls Tryz.prog 369 #[.agg #[.func (Fn.func a) #[] #[], .func (Fn.func b) #[] #[], v], .slice A n c] w (OutBS ok w) := by
  have HB := Lib.hid ((Below.refl _ w).alloc (Nat.le_refl _) (.cells #[.func (Fn.func a) #[] #[], .func (Fn.func b) #[] #[], v] 147))
  have HF := Lib.hid (hf _ HB.out)
  clear hf
  rcases hv with rfl | ⟨cc, rfl⟩
  all_goals
    go_enter Tryz.func369, Tryz.ntmps369
    go_wp2_with fail
    go_at_fn b
    refine HF.out.mono ?_
    intro e w2 hout
    obtain ⟨s, vv, rfl, hvv, hb⟩ := hout.split
    have HB2 := Lib.hid (HB.out.trans (hb.mono (by simp)))
    have HV := Lib.hid hvv
    clear hb hvv hout
    go_wp2_with fail
    go_ret2
    rcases HV.out with ⟨h, rfl⟩ | ⟨h, t, u, rfl⟩
    · exact ⟨.inl ⟨h, _, rfl⟩, HB2.out⟩
    · exact ⟨.inr ⟨h, _, t, u, rfl⟩, HB2.out⟩
theorem twrp_valg (ok : Bool) (a b v : Nat) (A : Option Addr) (n c : Nat) (w : World) (he : ∀ args w, (callFunc v args).run Tryz.prog w = .ok (.enter v args) w)
    (hf : ∀ w1, Below w.heap.size w w1 → Calls Tryz.prog v #[.slice A n c] w1 (OutVal ok w1)) :
    Calls Tryz.prog 371 #[.agg #[.func (Fn.func a) #[] #[], .func (Fn.func b) #[] #[], .func (Fn.func v) #[] #[]], .slice A n c] w (OutVal ok w) := by
  have HB := Lib.hid ((Below.refl _ w).alloc (Nat.le_refl _) (.cells #[.func (Fn.func a) #[] #[], .func (Fn.func b) #[] #[], .func (Fn.func v) #[] #[]] 147))
  have HF := Lib.hid (hf _ HB.out)
  clear hf
  have q0 := eql_nilFunc
  have q1 := fun v => eql_func v
  go_enter Tryz.func371, Tryz.ntmps371
  go_wp2_with fail
  go_at_fn v
  refine HF.out.mono ?_
  intro e w2 hout
  obtain ⟨vv, rfl, hvv, hb⟩ := hout.split
  have HB2 := Lib.hid (HB.out.trans (hb.mono (by simp)))
  have HV := Lib.hid hvv
  clear hb hvv hout
  go_wp2_with fail
  go_ret
  rcases HV.out with ⟨h, rfl⟩ | ⟨h, t, u, rfl⟩
  · exact ⟨.inl ⟨h, rfl⟩, HB2.out⟩
  · exact ⟨.inr ⟨h, t, u, rfl⟩, HB2.out⟩
def Bts (K : Nat) (f : Nat → Int) (b : Nat) (ok : List UInt8 → Bool) (L : List UInt8) : Prop := ∀ w1 g c, EnvX K f w1 → RB w1 w1.heap.size (some ⟨g, 0, none⟩) L.length c L → Calls Tryz.prog b #[.slice (some ⟨g, 0, none⟩) L.length c] w1 (OutBS (ok L) w1)
def Vlb (K : Nat) (f : Nat → Int) (b : Nat) (ok : List UInt8 → Bool) (L : List UInt8) : Prop := ∀ w1 g c, EnvX K f w1 → RB w1 w1.heap.size (some ⟨g, 0, none⟩) L.length c L → Calls Tryz.prog b #[.slice (some ⟨g, 0, none⟩) L.length c] w1 (OutVal (ok L) w1)
theorem ip_keepx {f : Nat → Int} {w w1 w2 : World} {a0 a1 a2 a3 : Addr} {v0 v1 v2 v3 : Value} (hb : Below w1.heap.size w1 w2) (h : Below w.heap.size w w1 ∧ EnvX K f w1 ∧ w1.cell? a0 = some v0 ∧ w1.cell? a1 = some v1 ∧ w1.cell? a2 = some v2 ∧ w1.cell? a3 = some v3) :
    Below w.heap.size w w2 ∧ EnvX K f w2 ∧ w2.cell? a0 = some v0 ∧ w2.cell? a1 = some v1 ∧ w2.cell? a2 = some v2 ∧ w2.cell? a3 = some v3 :=
  have ⟨h1, ht, c0, c1, c2, c3⟩ := h
  ⟨h1.trans (hb.mono h1.size), ht.below hb, (hb.cell (World.block_lt_of_cell? _ _ c0)).trans c0, (hb.cell (World.block_lt_of_cell? _ _ c1)).trans c1, (hb.cell (World.block_lt_of_cell? _ _ c2)).trans c2, (hb.cell (World.block_lt_of_cell? _ _ c3)).trans c3⟩
theorem valuex_some (f : Nat → Int) (ok : List UInt8 → Bool) (X : ProtoX) (q : Nat) (l : List UInt8) (p vs g k : Nat) (a b : Nat) (v : Value) (hv1 : v = .nilFunc ∨ ∃ c, v = .func (Fn.func c) #[] #[]) (htc : X.tc = .iface 147 (.agg #[.func (Fn.func a) #[] #[], .func (Fn.func b) #[] #[], v])) (he : ∀ args w, (callFunc b args).run Tryz.prog w = .ok (.enter b args) w)
    (w : World) (ht : EnvX K f w) (h : Blk w q 81 (ccells l p vs)) (hp : Blk w p 77 (xcells X k g)) (hv : vs ≤ l.length) (hl : l.length ≤ 100000)
    (hf : Bts K f b ok (l.drop vs)) :
    Calls Tryz.prog 70 #[.pointer (some ⟨q, 0, none⟩)] w (OutBS (ok (l.drop vs)) w) := by
  have c0 : w.cell? ⟨q, 0, none⟩ = some (.string ⟨l.toArray⟩) := h.cell 0
  have c1 : w.cell? ⟨q, 1, none⟩ = some (.pointer (some ⟨p, 0, none⟩)) := h.cell 1
  have c2 : w.cell? ⟨q, 2, none⟩ = some (.int .i64 vs) := h.cell 2
  have p5 : w.cell? ⟨p, 5, none⟩ = some (.iface 147 (.agg #[.func (Fn.func a) #[] #[], .func (Fn.func b) #[] #[], v])) := (hp.cell 5).trans (by rw [← htc]; rfl)
  have hsz := size_toArray l
  have kx := extract_drop l vs
  have hL1 : (l.drop vs).length ≤ 1000000 := by simp; omega
  obtain ⟨L, hL⟩ : ∃ L, L = l.drop vs := ⟨_, rfl⟩
  rw [← hL] at hf ⊢
  have HF := Lib.hid hf
  have qn : ∀ (t : TypeId) (v : Value) (w : World), (binOp .neq 52 (.iface t v) .nilIface).run Tryz.prog w = .ok (.bool true) w := fun _ _ _ => by kernel_rfl
  have q0 : ∀ w : World, (binOp .neq 52 .nilIface .nilIface).run Tryz.prog w = .ok (.bool false) w := fun _ => by kernel_rfl
  rw [← hL] at kx hL1
  have k0 : (0 : Int) ≤ (vs : Int) := by omega
  have k1 : (vs : Int) ≤ (l.length : Int) := by omega
  have hcv := fun w : World => Lib.run_convert_string_bytes (P := Tryz.prog) w 9 22 5 ⟨L.toArray⟩ Tryz.underlying9 Tryz.underlying22 Tryz.underlying5
  simp only [size_toArray] at hcv
  have hm := fun (n : Nat) (w : World) => method_bts a b v n w
  have HT := Lib.hid ht
  have HE := Lib.hid he
  clear h hp hL hf htc ht he
  go_enter Tryz.func70, Tryz.ntmps70
  go_wp2_with fail
  refine wp_region_noPanic ?_
  refine wp_region_held_drew (S := (fun w' => Below w.heap.size w w' ∧ EnvX K f w' ∧ w'.cell? ⟨q, 0, none⟩ = some (.string ⟨l.toArray⟩) ∧ w'.cell? ⟨q, 1, none⟩ = some (.pointer (some ⟨p, 0, none⟩)) ∧ w'.cell? ⟨q, 2, none⟩ = some (.int .i64 vs) ∧ w'.cell? ⟨p, 5, none⟩ = some (.iface 147 (.agg #[.func (Fn.func a) #[] #[], .func (Fn.func b) #[] #[], v])))) (by kernel_rfl) ?_ (fun hHeld => ?_)
  · exact ⟨(Below.refl _ _).drew, HT.out.drew, c0, c1, c2, p5⟩
  refine wpAnyH_take (i := 0) (v := ?v1) rfl (by kernel_rfl) (by kernel_rfl) (by kernel_rfl) (fun _ _ _ h => h) (Or.inl ⟨?w1, ?y1⟩) hHeld ?_
  case w1 => rfl
  case y1 => (intro w hSw; (try dsimp only at hSw); go_simp; first | done | with_reducible rfl)
  try simp only [Act.put, List.setIfInBounds_toArray]
  refine wpAnyH_take (i := 1) (v := ?v2) rfl (by kernel_rfl) (by kernel_rfl) (by kernel_rfl) (fun _ _ _ h => h) (Or.inl ⟨?w2, ?y2⟩) hHeld ?_
  case w2 => rfl
  case y2 => (intro w hSw; (try dsimp only at hSw); go_simp; first | done | with_reducible rfl)
  try simp only [Act.put]
  refine wpAnyH_take (i := 2) (v := ?v3) rfl (by kernel_rfl) (by kernel_rfl) (by kernel_rfl) (fun _ _ _ h => h) (Or.inl ⟨?w3, ?y3⟩) hHeld ?_
  case w3 => rfl
  case y3 => (intro w hSw; (try dsimp only at hSw); go_simp; first | done | with_reducible rfl)
  try simp only [Act.put]
  refine wpAnyH_take (i := 3) (v := ?v4) rfl (by kernel_rfl) (by kernel_rfl) (by kernel_rfl) (fun _ _ _ h => h) (Or.inl ⟨?w4, ?y4⟩) hHeld ?_
  case w4 => rfl
  case y4 => (intro w hSw; (try dsimp only at hSw); go_simp; first | done | with_reducible rfl)
  try simp only [Act.put]
  refine wpAnyH_take (i := 4) (v := ?v5) rfl (by kernel_rfl) (by kernel_rfl) (by kernel_rfl) (fun _ _ _ h => h) (Or.inl ⟨?w5, ?y5⟩) hHeld ?_
  case w5 => rfl
  case y5 => (intro w hSw; (try dsimp only at hSw); go_simp; first | done | with_reducible rfl)
  try simp only [Act.put]
  refine wpAnyH_take (i := 5) (v := ?v6) rfl (by kernel_rfl) (by kernel_rfl) (by kernel_rfl) (fun _ _ _ h => h) (Or.inl ⟨?w6, ?y6⟩) hHeld ?_
  case w6 => rfl
  case y6 => (intro w hSw; (try dsimp only at hSw); go_simp; first | done | with_reducible rfl)
  try simp only [Act.put]
  refine wpAnyH_take (i := 6) (v := ?v7) rfl (by kernel_rfl) (by kernel_rfl) (by kernel_rfl) (fun _ _ _ h => h) (Or.inl ⟨?w7, ?y7⟩) hHeld ?_
  case w7 => rfl
  case y7 => (intro w hSw; (try dsimp only at hSw); go_simp; first | done | with_reducible rfl)
  try simp only [Act.put]
  refine wpAnyH_take (i := 7) (v := ?v8) rfl (by kernel_rfl) (by kernel_rfl) (by kernel_rfl) (fun _ _ _ h => h) (Or.inl ⟨?w8, ?y8⟩) hHeld ?_
  case w8 => rfl
  case y8 => (intro w hSw; (try dsimp only at hSw); go_simp; first | done | with_reducible rfl)
  try simp only [Act.put]
  refine wpAnyH_take (i := 8) (v := ?v9) rfl (by kernel_rfl) (by kernel_rfl) (by kernel_rfl) (fun _ _ _ h => h) (Or.inl ⟨?w9, ?y9⟩) hHeld ?_
  case w9 => rfl
  case y9 => (intro w hSw; (try dsimp only at hSw); go_simp; first | done | with_reducible rfl)
  try simp only [Act.put]
  refine wpAnyH_take (i := 9) (v := ?v10) rfl (by kernel_rfl) (by kernel_rfl) (by kernel_rfl) (fun _ _ _ h => h) (Or.inl ⟨?w10, ?y10⟩) hHeld ?_
  case w10 => rfl
  case y10 => (intro w hSw; (try dsimp only at hSw); go_simp; first | done | with_reducible rfl)
  try simp only [Act.put]
  refine wpAnyH_take (i := 10) (v := ?v11) rfl (by kernel_rfl) (by kernel_rfl) (by kernel_rfl) (fun _ _ _ h => h) (Or.inl ⟨?w11, ?y11⟩) hHeld ?_
  case w11 => rfl
  case y11 => (intro w hSw; (try dsimp only at hSw); go_simp; first | done | with_reducible rfl)
  try simp only [Act.put]
  refine wpAnyH_take (i := 11) (v := ?v12) rfl (by kernel_rfl) (by kernel_rfl) (by kernel_rfl) (fun _ _ _ h => h) (Or.inl ⟨?w12, ?y12⟩) hHeld ?_
  case w12 => rfl
  case y12 => (intro w hSw; (try dsimp only at hSw); go_simp; first | done | with_reducible rfl)
  try simp only [Act.put]
  refine wpAnyH_take (i := 12) (v := ?v13) rfl (by kernel_rfl) (by kernel_rfl) (by kernel_rfl) (fun _ _ _ h => h) (Or.inl ⟨?w13, ?y13⟩) hHeld ?_
  case w13 => rfl
  case y13 => (intro w hSw; (try dsimp only at hSw); go_simp; first | done | with_reducible rfl)
  try simp only [Act.put]
  refine wpAnyH_take (i := 13) (v := ?v14) rfl (by kernel_rfl) (by kernel_rfl) (by kernel_rfl) (fun _ _ _ h => h) (Or.inl ⟨?w14, ?y14⟩) hHeld ?_
  case w14 => rfl
  case y14 => (intro w hSw; (try dsimp only at hSw); go_simp; first | done | with_reducible rfl)
  try simp only [Act.put]
  refine wpAnyH_take (i := 14) (v := ?v15) rfl (by kernel_rfl) (by kernel_rfl) (by kernel_rfl) (fun _ _ _ h => h) (Or.inl ⟨?w15, ?y15⟩) hHeld ?_
  case w15 => rfl
  case y15 => (intro w hSw; (try dsimp only at hSw); go_simp; first | done | with_reducible rfl)
  try simp only [Act.put]
  refine wpAnyH_take (i := 15) (v := ?v16) rfl (by kernel_rfl) (by kernel_rfl) (by kernel_rfl) (fun _ _ _ h => h) (Or.inl ⟨?w16, ?y16⟩) hHeld ?_
  case w16 => rfl
  case y16 => (intro w hSw; (try dsimp only at hSw); go_simp; first | done | with_reducible rfl)
  try simp only [Act.put]
  refine wpAnyH_take (i := 17) (v := ?v17) rfl (by kernel_rfl) (by kernel_rfl) (by kernel_rfl) (fun _ _ _ h => h) (Or.inl ⟨?w17, ?y17⟩) hHeld ?_
  case w17 => rfl
  case y17 => (intro w hSw; (try dsimp only at hSw); go_simp; first | done | with_reducible rfl)
  try simp only [Act.put]
  refine wpAnyH_take (i := 18) (v := ?v18) rfl (by kernel_rfl) (by kernel_rfl) (by kernel_rfl) (fun _ _ _ h => h) (Or.inl ⟨?w18, ?y18⟩) hHeld ?_
  case w18 => rfl
  case y18 => (intro w hSw; (try dsimp only at hSw); go_simp; first | done | with_reducible rfl)
  try simp only [Act.put]
  refine wpAnyH_ready (rs := [16]) (by kernel_rfl) (by simp) ?_
  refine AllReadyH.cons rfl (fun K hK => ?_) AllReadyH.nil
  go_simp
  refine hK.out _ _ ?_ (fun hHeld => ?_)
  · exact ip_keepx (below_bytesWorld _ _ _) ‹_›
  clear hK K
  try simp only [Act.put, List.setIfInBounds_toArray, List.set_cons_zero, List.set_cons_succ]
  refine wpAnyH_ready (rs := [19]) (by kernel_rfl) (by simp) ?_
  refine AllReadyH.cons rfl (fun K hK => ?_) AllReadyH.nil
  go_simp
  go_at_call 369
  refine (twrp_btsg (ok L) a b v hv1 _ _ _ _ HE.out (fun w1 hb => HF.out w1 _ _ (hHeld.2.1.below hb) ((RB.of_bytesWorld w.drew 5 L (by unfold maxLen; omega)).next hb))).mono ?_
  intro e w2 hout
  obtain ⟨s, vv, rfl, hvv, hb2⟩ := hout.split
  have HVV := Lib.hid hvv
  clear hout hvv
  go_wp2_with fail
  refine hK.out _ _ ?_ (fun hHeld => ?_)
  · exact ip_keepx hb2 ‹_›
  clear hK K
  try simp only [Act.put, List.setIfInBounds_toArray, List.set_cons_zero, List.set_cons_succ]
  refine wpAnyH_take (i := 20) (v := ?v19) rfl (by kernel_rfl) (by kernel_rfl) (by kernel_rfl) (fun _ _ _ h => h) (Or.inl ⟨?w19, ?y19⟩) hHeld ?_
  case w19 => rfl
  case y19 => (intro w hSw; (try dsimp only at hSw); go_simp; first | done | with_reducible rfl)
  try simp only [Act.put, List.setIfInBounds_toArray]
  refine wpAnyH_take (i := 21) (v := ?v20) rfl (by kernel_rfl) (by kernel_rfl) (by kernel_rfl) (fun _ _ _ h => h) (Or.inl ⟨?w20, ?y20⟩) hHeld ?_
  case w20 => rfl
  case y20 => (intro w hSw; (try dsimp only at hSw); go_simp; first | done | with_reducible rfl)
  try simp only [Act.put]
  refine wpAnyH_take (i := 22) (v := ?v21) rfl (by kernel_rfl) (by kernel_rfl) (by kernel_rfl) (fun _ _ _ h => h) (Or.inl ⟨?w21, ?y21⟩) hHeld ?_
  case w21 => rfl
  case y21 => (intro w hSw; (try dsimp only at hSw); go_simp; first | done | with_reducible rfl)
  try simp only [Act.put]
  refine wpAnyH_take (i := 23) (v := ?v22) rfl (by kernel_rfl) (by kernel_rfl) (by kernel_rfl) (fun _ _ _ h => h) (Or.inl ⟨?w22, ?y22⟩) hHeld ?_
  case w22 => rfl
  case y22 => (intro w hSw; (try dsimp only at hSw); go_simp; first | done | with_reducible rfl)
  try simp only [Act.put]
  refine wpAnyH_take (i := 24) (v := ?v23) rfl (by kernel_rfl) (by kernel_rfl) (by kernel_rfl) (fun _ _ _ h => h) (Or.inl ⟨?w23, ?y23⟩) hHeld ?_
  case w23 => rfl
  case y23 => (intro w hSw; (try dsimp only at hSw); go_simp; first | done | with_reducible rfl)
  try simp only [Act.put]
  refine wpAnyH_done (by kernel_rfl) ?_ _
  refine NoPanic.normal ?_
  have HB := Lib.hid hHeld.1
  clear hHeld hb2
  rcases HVV.out with ⟨h, rfl⟩ | ⟨h, t, u, rfl⟩
  · go_wp2_with fail
    go_ret2
    first | exact ⟨.inl ⟨h, s, rfl⟩, HB.out⟩ | exact ⟨.inl ⟨rfl, s, rfl⟩, HB.out⟩
  · go_wp2_with fail
    go_ret2
    first | exact ⟨.inr ⟨h, _, t, u, rfl⟩, HB.out⟩ | exact ⟨.inr ⟨rfl, _, t, u, rfl⟩, HB.out⟩
theorem valuex_none (X : ProtoX) (q : Nat) (l : List UInt8) (p vs g k : Nat) (htc : X.tc = .nilIface) (w : World) (h : Blk w q 81 (ccells l p vs)) (hp : Blk w p 77 (xcells X k g)) :
    Calls Tryz.prog 70 #[.pointer (some ⟨q, 0, none⟩)] w (OutBS true w) := by
  have c1 : w.cell? ⟨q, 1, none⟩ = some (.pointer (some ⟨p, 0, none⟩)) := h.cell 1
  have p5 : w.cell? ⟨p, 5, none⟩ = some .nilIface := (hp.cell 5).trans (by rw [← htc]; rfl)
  clear h hp htc
  go_enter Tryz.func70, Tryz.ntmps70
  go_wp2_with fail
  go_ret2
  exact ⟨.inl ⟨rfl, _, rfl⟩, Below.refl _ _⟩
end Go.Proofs.YtghddiboggdhcaaGreatDoor
/- A component, its protocol and its code on the heap, and what is carried along with them. -/
namespace Go.Proofs.YtghddiboggdhcaaGreatDoor
open Go.RowKit
variable {K : Nat} {f : Nat → Int}
def pcx (nm : ByteArray) (code : Int) (m : Nat) (z : Int) (pt : Bool) (tc : Value) (g : Nat) : Array Value := #[.string nm, .int .i64 code, .slice (some ⟨g, 0, none⟩) m m, .int .i64 z, .bool pt, tc]
structure CmX (w : World) (q : Nat) (l : List UInt8) (p vs g : Nat) (nm : ByteArray) (code z : Int) (pt : Bool) (tc : Value) (vc : List UInt8) : Prop where
  comp : Blk w q 81 (ccells l p vs)
  prot : Blk w p 77 (pcx nm code vc.length z pt tc g)
  vco : Blk w g 5 (bv vc).toArray
section
variable {w w' : World} {q : Nat} {l : List UInt8} {p vs g : Nat} {nm : ByteArray} {code z : Int} {pt : Bool} {tc : Value} {vc : List UInt8}
theorem CmX.below (h : CmX w q l p vs g nm code z pt tc vc) (hb : Below w.heap.size w w') : CmX w' q l p vs g nm code z pt tc vc := ⟨h.comp.below hb h.comp.lt, h.prot.below hb h.prot.lt, h.vco.below hb h.vco.lt⟩
theorem CmX.drewN (h : CmX w q l p vs g nm code z pt tc vc) (n : Nat) : CmX (w.drewN n) q l p vs g nm code z pt tc vc := ⟨h.comp, h.prot, h.vco⟩
theorem CmX.drew (h : CmX w q l p vs g nm code z pt tc vc) : CmX w.drew q l p vs g nm code z pt tc vc := ⟨h.comp, h.prot, h.vco⟩
theorem CmX.cells (h : CmX w q l p vs g nm code z pt tc vc) : w.cell? ⟨q, 0, none⟩ = some (.string ⟨l.toArray⟩) ∧ w.cell? ⟨q, 1, none⟩ = some (.pointer (some ⟨p, 0, none⟩)) ∧ w.cell? ⟨q, 2, none⟩ = some (.int .i64 vs) ∧
    w.cell? ⟨p, 2, none⟩ = some (.slice (some ⟨g, 0, none⟩) vc.length vc.length) ∧ w.cell? ⟨p, 3, none⟩ = some (.int .i64 z) ∧ w.cell? ⟨p, 5, none⟩ = some tc :=
  ⟨h.comp.cell 0, h.comp.cell 1, h.comp.cell 2, h.prot.cell 2, h.prot.cell 3, h.prot.cell 5⟩
def CrX (K : Nat) (f : Nat → Int) (w0 w : World) (q : Nat) (l : List UInt8) (p vs g : Nat) (nm : ByteArray) (code z : Int) (pt : Bool) (tc : Value) (vc : List UInt8) : Prop := Below w0.heap.size w0 w ∧ EnvX K f w ∧ CmX w q l p vs g nm code z pt tc vc
theorem CrX.below {w0 : World} (h : CrX K f w0 w q l p vs g nm code z pt tc vc) (hb : Below w.heap.size w w') : CrX K f w0 w' q l p vs g nm code z pt tc vc := ⟨h.1.trans (hb.mono h.1.size), h.2.1.below hb, h.2.2.below hb⟩
theorem CrX.drewN {w0 : World} (h : CrX K f w0 w q l p vs g nm code z pt tc vc) (n : Nat) : CrX K f w0 (w.drewN n) q l p vs g nm code z pt tc vc := ⟨below_drewN h.1 n, h.2.1.drewN n, h.2.2.drewN n⟩
theorem CrX.drew {w0 : World} (h : CrX K f w0 w q l p vs g nm code z pt tc vc) : CrX K f w0 w.drew q l p vs g nm code z pt tc vc := ⟨h.1.drew, h.2.1.drew, h.2.2.drew⟩
theorem CrX.held {w0 : World} (h : CrX K f w0 w q l p vs g nm code z pt tc vc) : CrX K f w0 w q l p vs g nm code z pt tc vc ∧ w.cell? ⟨q, 0, none⟩ = some (.string ⟨l.toArray⟩) ∧ w.cell? ⟨q, 1, none⟩ = some (.pointer (some ⟨p, 0, none⟩)) ∧ w.cell? ⟨q, 2, none⟩ = some (.int .i64 vs) ∧
    w.cell? ⟨p, 2, none⟩ = some (.slice (some ⟨g, 0, none⟩) vc.length vc.length) ∧ w.cell? ⟨p, 3, none⟩ = some (.int .i64 z) ∧ w.cell? ⟨p, 5, none⟩ = some tc := ⟨h, h.2.2.cells⟩
end
end Go.Proofs.YtghddiboggdhcaaGreatDoor
/- A component is checked, whatever its bytes. -/
namespace Go.Proofs.YtghddiboggdhcaaGreatDoor
open Go.RowKit
variable {K : Nat} {f : Nat → Int}
attribute [local go_sem ↓] Go.wp_at_zero Go.wp_at_succ
theorem validx_0 (q : Nat) (l vc d : List UInt8) (p g : Nat) (nm : ByteArray) (code : Int) (pt : Bool) (w : World) (ht : EnvX K f w) (hs : d.length = 0) (hC : CmX w q l p vc.length g nm code 0 pt .nilIface vc) (hm0 : 0 < vc.length) (hm : vc.length ≤ 10) (hl : l = vc ++ (d))
    (hval : ∀ w1, EnvX K f w1 → Below w.heap.size w w1 → Calls Tryz.prog 70 #[.pointer (some ⟨q, 0, none⟩)] w1 (OutBS true w1)) :
    Calls Tryz.prog 64 #[.pointer (some ⟨q, 0, none⟩)] w (OutVal true w) := by
  have qn : ∀ (t : TypeId) (v : Value) (w : World), (binOp .neq 52 (.iface t v) .nilIface).run Tryz.prog w = .ok (.bool true) w := fun _ _ _ => by kernel_rfl
  have q0 : ∀ w : World, (binOp .neq 52 .nilIface .nilIface).run Tryz.prog w = .ok (.bool false) w := fun _ => by kernel_rfl
  have hlen : l.length = vc.length := by rw [hl]; simp [hs]
  have hd1 : l.drop vc.length = d := by rw [hl, List.drop_left]
  have ht0 : l.take vc.length = vc := by rw [hl, List.take_left]
  have hsz := size_toArray l
  rw [hlen] at hsz
  have kt := extract_take l vc.length
  rw [ht0] at kt
  have kx := extract_drop l vc.length
  rw [hd1, hlen] at kx
  have hzd := size_toArray d
  rw [hs] at hzd
  have hzv := size_toArray vc
  have hcv := fun (w : World) (L : List UInt8) => Lib.run_convert_string_bytes (P := Tryz.prog) w 9 22 5 ⟨L.toArray⟩ Tryz.underlying9 Tryz.underlying22 Tryz.underlying5
  have cv0 := fun w => hcv w vc
  rw [hzv] at cv0
  have cv1 := fun w => hcv w d
  rw [hzd] at cv1
  have HV := Lib.hid hval
  have HS := Lib.hid hs
  have hcar : CrX K f w w q l p vc.length g nm code 0 pt .nilIface vc := ⟨Below.refl _ _, ht, hC⟩
  obtain ⟨c0, c1, c2, p2, p3, p5⟩ := hC.cells
  have HCar := Lib.hid hcar
  clear hcar hC hl hlen hd1 ht0 hval hcv ht hs
  go_enter Tryz.func64, Tryz.ntmps64
  go_wp2_with fail
  go_quiet (fail)
  go_wp2_with fail
  go_quiet (fail)
  go_wp2_with fail
  clear c0 c1 c2 p2 p3 p5
  refine wp_gen (fun w1 => CrX K f w w1 q l p vc.length g nm code 0 pt .nilIface vc) (by first | exact HCar.out.drewN _ | exact (HCar.out.drewN _).drewN _) ?_
  intro w1 hc1
  refine wp_region_noPanic ?_
  refine wp_region_held_drew (S := (fun w' => CrX K f w w' q l p vc.length g nm code 0 pt .nilIface vc ∧ w'.cell? ⟨q, 0, none⟩ = some (.string ⟨l.toArray⟩) ∧ w'.cell? ⟨q, 1, none⟩ = some (.pointer (some ⟨p, 0, none⟩)) ∧ w'.cell? ⟨q, 2, none⟩ = some (.int .i64 (vc.length : Nat)) ∧ w'.cell? ⟨p, 2, none⟩ = some (.slice (some ⟨g, 0, none⟩) vc.length vc.length) ∧ w'.cell? ⟨p, 3, none⟩ = some (.int .i64 0) ∧ w'.cell? ⟨p, 5, none⟩ = some .nilIface)) (by kernel_rfl) ?_ (fun hHeld => ?_)
  · exact hc1.drew.held
  refine wpAnyH_take (i := 0) (v := ?v1) rfl (by kernel_rfl) (by kernel_rfl) (by kernel_rfl) (fun _ _ _ h => h) (Or.inl ⟨?w1, ?y1⟩) hHeld ?_
  case w1 => rfl
  case y1 => (intro w hSw; (try dsimp only at hSw); go_simp; first | done | with_reducible rfl)
  try simp only [Act.put, List.setIfInBounds_toArray]
  refine wpAnyH_take (i := 1) (v := ?v2) rfl (by kernel_rfl) (by kernel_rfl) (by kernel_rfl) (fun _ _ _ h => h) (Or.inl ⟨?w2, ?y2⟩) hHeld ?_
  case w2 => rfl
  case y2 => (intro w hSw; (try dsimp only at hSw); go_simp; first | done | with_reducible rfl)
  try simp only [Act.put]
  refine wpAnyH_take (i := 2) (v := ?v3) rfl (by kernel_rfl) (by kernel_rfl) (by kernel_rfl) (fun _ _ _ h => h) (Or.inl ⟨?w3, ?y3⟩) hHeld ?_
  case w3 => rfl
  case y3 => (intro w hSw; (try dsimp only at hSw); go_simp; first | done | with_reducible rfl)
  try simp only [Act.put]
  refine wpAnyH_take (i := 3) (v := ?v4) rfl (by kernel_rfl) (by kernel_rfl) (by kernel_rfl) (fun _ _ _ h => h) (Or.inl ⟨?w4, ?y4⟩) hHeld ?_
  case w4 => rfl
  case y4 => (intro w hSw; (try dsimp only at hSw); go_simp; first | done | with_reducible rfl)
  try simp only [Act.put]
  refine wpAnyH_take (i := 4) (v := ?v5) rfl (by kernel_rfl) (by kernel_rfl) (by kernel_rfl) (fun _ _ _ h => h) (Or.inl ⟨?w5, ?y5⟩) hHeld ?_
  case w5 => rfl
  case y5 => (intro w hSw; (try dsimp only at hSw); go_simp; first | done | with_reducible rfl)
  try simp only [Act.put]
  refine wpAnyH_take (i := 5) (v := ?v6) rfl (by kernel_rfl) (by kernel_rfl) (by kernel_rfl) (fun _ _ _ h => h) (Or.inl ⟨?w6, ?y6⟩) hHeld ?_
  case w6 => rfl
  case y6 => (intro w hSw; (try dsimp only at hSw); go_simp; first | done | with_reducible rfl)
  try simp only [Act.put]
  refine wpAnyH_take (i := 6) (v := ?v7) rfl (by kernel_rfl) (by kernel_rfl) (by kernel_rfl) (fun _ _ _ h => h) (Or.inl ⟨?w7, ?y7⟩) hHeld ?_
  case w7 => rfl
  case y7 => (intro w hSw; (try dsimp only at hSw); go_simp; first | done | with_reducible rfl)
  try simp only [Act.put]
  refine wpAnyH_take (i := 7) (v := ?v8) rfl (by kernel_rfl) (by kernel_rfl) (by kernel_rfl) (fun _ _ _ h => h) (Or.inl ⟨?w8, ?y8⟩) hHeld ?_
  case w8 => rfl
  case y8 => (intro w hSw; (try dsimp only at hSw); go_simp; first | done | with_reducible rfl)
  try simp only [Act.put]
  refine wpAnyH_take (i := 8) (v := ?v9) rfl (by kernel_rfl) (by kernel_rfl) (by kernel_rfl) (fun _ _ _ h => h) (Or.inl ⟨?w9, ?y9⟩) hHeld ?_
  case w9 => rfl
  case y9 => (intro w hSw; (try dsimp only at hSw); go_simp; first | done | with_reducible rfl)
  try simp only [Act.put]
  refine wpAnyH_take (i := 9) (v := ?v10) rfl (by kernel_rfl) (by kernel_rfl) (by kernel_rfl) (fun _ _ _ h => h) (Or.inl ⟨?w10, ?y10⟩) hHeld ?_
  case w10 => rfl
  case y10 => (intro w hSw; (try dsimp only at hSw); go_simp; first | done | with_reducible rfl)
  try simp only [Act.put]
  refine wpAnyH_take (i := 10) (v := ?v11) rfl (by kernel_rfl) (by kernel_rfl) (by kernel_rfl) (fun _ _ _ h => h) (Or.inl ⟨?w11, ?y11⟩) hHeld ?_
  case w11 => rfl
  case y11 => (intro w hSw; (try dsimp only at hSw); go_simp; first | done | with_reducible rfl)
  try simp only [Act.put]
  refine wpAnyH_take (i := 11) (v := ?v12) rfl (by kernel_rfl) (by kernel_rfl) (by kernel_rfl) (fun _ _ _ h => h) (Or.inl ⟨?w12, ?y12⟩) hHeld ?_
  case w12 => rfl
  case y12 => (intro w hSw; (try dsimp only at hSw); go_simp; first | done | with_reducible rfl)
  try simp only [Act.put]
  refine wpAnyH_take (i := 12) (v := ?v13) rfl (by kernel_rfl) (by kernel_rfl) (by kernel_rfl) (fun _ _ _ h => h) (Or.inl ⟨?w13, ?y13⟩) hHeld ?_
  case w13 => rfl
  case y13 => (intro w hSw; (try dsimp only at hSw); go_simp; first | done | with_reducible rfl)
  try simp only [Act.put]
  refine wpAnyH_take (i := 14) (v := ?v14) rfl (by kernel_rfl) (by kernel_rfl) (by kernel_rfl) (fun _ _ _ h => h) (Or.inl ⟨?w14, ?y14⟩) hHeld ?_
  case w14 => rfl
  case y14 => (intro w hSw; (try dsimp only at hSw); go_simp; first | done | with_reducible rfl)
  try simp only [Act.put]
  refine wpAnyH_take (i := 15) (v := ?v15) rfl (by kernel_rfl) (by kernel_rfl) (by kernel_rfl) (fun _ _ _ h => h) (Or.inl ⟨?w15, ?y15⟩) hHeld ?_
  case w15 => rfl
  case y15 => (intro w hSw; (try dsimp only at hSw); go_simp; first | done | with_reducible rfl)
  try simp only [Act.put]
  refine wpAnyH_take (i := 16) (v := ?v16) rfl (by kernel_rfl) (by kernel_rfl) (by kernel_rfl) (fun _ _ _ h => h) (Or.inl ⟨?w16, ?y16⟩) hHeld ?_
  case w16 => rfl
  case y16 => (intro w hSw; (try dsimp only at hSw); go_simp; first | done | with_reducible rfl)
  try simp only [Act.put]
  refine wpAnyH_take (i := 17) (v := ?v17) rfl (by kernel_rfl) (by kernel_rfl) (by kernel_rfl) (fun _ _ _ h => h) (Or.inl ⟨?w17, ?y17⟩) hHeld ?_
  case w17 => rfl
  case y17 => (intro w hSw; (try dsimp only at hSw); go_simp; first | done | with_reducible rfl)
  try simp only [Act.put]
  refine wpAnyH_take (i := 18) (v := ?v18) rfl (by kernel_rfl) (by kernel_rfl) (by kernel_rfl) (fun _ _ _ h => h) (Or.inl ⟨?w18, ?y18⟩) hHeld ?_
  case w18 => rfl
  case y18 => (intro w hSw; (try dsimp only at hSw); go_simp; first | done | with_reducible rfl)
  try simp only [Act.put]
  refine wpAnyH_take (i := 19) (v := ?v19) rfl (by kernel_rfl) (by kernel_rfl) (by kernel_rfl) (fun _ _ _ h => h) (Or.inl ⟨?w19, ?y19⟩) hHeld ?_
  case w19 => rfl
  case y19 => (intro w hSw; (try dsimp only at hSw); go_simp; first | done | with_reducible rfl)
  try simp only [Act.put]
  refine wpAnyH_take (i := 20) (v := ?v20) rfl (by kernel_rfl) (by kernel_rfl) (by kernel_rfl) (fun _ _ _ h => h) (Or.inl ⟨?w20, ?y20⟩) hHeld ?_
  case w20 => rfl
  case y20 => (intro w hSw; (try dsimp only at hSw); go_simp; first | done | with_reducible rfl)
  try simp only [Act.put]
  refine wpAnyH_ready (rs := [13]) (by kernel_rfl) (by simp) ?_
  refine AllReadyH.cons rfl (fun K hK => ?_) AllReadyH.nil
  go_simp
  refine hK.out _ _ ?_ (fun hHeld => ?_)
  · exact (hHeld.1.below (below_bytesWorld _ _ _)).held
  clear hK K
  try simp only [Act.put, List.setIfInBounds_toArray, List.set_cons_zero, List.set_cons_succ]
  refine wpAnyH_ready (rs := [21]) (by kernel_rfl) (by simp) ?_
  refine AllReadyH.cons rfl (fun K hK => ?_) AllReadyH.nil
  go_simp
  go_at_call 12
  refine (equal_any _ _ _ _ _ _ vc vc _ (RB.of_bytesWorld _ 5 vc (by unfold maxLen; omega)) (RB.of_blk hHeld.1.2.2.vco (by unfold maxLen; omega))).mono ?_
  rintro e w2 ⟨rfl, rfl⟩
  go_wp2_with fail
  refine hK.out _ _ ?_ (fun hHeld => ?_)
  · exact hHeld
  clear hK K
  try simp only [Act.put, List.setIfInBounds_toArray, List.set_cons_zero, List.set_cons_succ]
  refine wpAnyH_take (i := 22) (v := ?v21) rfl (by kernel_rfl) (by kernel_rfl) (by kernel_rfl) (fun _ _ _ h => h) (Or.inl ⟨?w21, ?y21⟩) hHeld ?_
  case w21 => rfl
  case y21 => (intro w hSw; (try dsimp only at hSw); go_simp; first | done | with_reducible rfl)
  try simp only [Act.put, List.setIfInBounds_toArray]
  refine wpAnyH_done (by kernel_rfl) ?_ _
  refine NoPanic.normal ?_
  have hc2 := hHeld.1
  clear hHeld
  generalize hw2 : Lib.bytesWorld _ _ _ = w2 at hc2 ⊢
  clear hw2
  obtain ⟨c0, c1, c2, p2, p3, p5⟩ := hc2.2.2.cells
  have HC2 := Lib.hid hc2
  clear hc2
  go_wp2_with fail
  go_quiet (fail)
  go_wp2_with fail
  go_quiet (fail)
  go_wp2_with fail
  clear c0 c1 c2 p2 p3 p5
  refine (HV.out _ ?b0 ?b1).mono ?_
  case b0 => first | exact HC2.out.2.1.drewN _ | exact (HC2.out.2.1.drewN _).drewN _
  case b1 => first | exact below_drewN HC2.out.1 _ | exact below_drewN (below_drewN HC2.out.1 _) _
  rintro e w5 ⟨⟨_, s5, rfl⟩ | ⟨hfl, _⟩, hb5⟩
  case inr => exact absurd hfl (by decide)
  have hc5 : CrX K f w w5 q l p vc.length g nm code 0 pt .nilIface vc := by first | exact (HC2.out.drewN _).below hb5 | exact ((HC2.out.drewN _).drewN _).below hb5
  obtain ⟨c0, c1, c2, p2, p3, p5⟩ := hc5.2.2.cells
  have HC5 := Lib.hid hc5
  clear hb5 hc5
  go_wp2_with fail
  go_ret
  exact ⟨.inl ⟨rfl, rfl⟩, HC5.out.1⟩
end Go.Proofs.YtghddiboggdhcaaGreatDoor
/- A component is checked, whatever its bytes. -/
namespace Go.Proofs.YtghddiboggdhcaaGreatDoor
open Go.RowKit
variable {K : Nat} {f : Nat → Int}
attribute [local go_sem ↓] Go.wp_at_zero Go.wp_at_succ
theorem validx_n (q : Nat) (l vc d : List UInt8) (p g : Nat) (nm : ByteArray) (code : Int) (pt : Bool) (a b : Nat) (okb : Bool) (w : World) (ht : EnvX K f w) (Z m : Nat) (hZ : Z = 8 * m) (hs : d.length = m) (hm8 : m ≤ 1000) (hC : CmX w q l p vc.length g nm code (Z : Nat) pt (.iface 147 (.agg #[.func (Fn.func a) #[] #[], .func (Fn.func b) #[] #[], .nilFunc])) vc) (hm0 : 0 < vc.length) (hm : vc.length ≤ 10) (hl : l = vc ++ (d))
    (hval : ∀ w1, EnvX K f w1 → Below w.heap.size w w1 → Calls Tryz.prog 70 #[.pointer (some ⟨q, 0, none⟩)] w1 (OutBS okb w1)) :
    Calls Tryz.prog 64 #[.pointer (some ⟨q, 0, none⟩)] w (OutVal okb w) := by
  have qn : ∀ (t : TypeId) (v : Value) (w : World), (binOp .neq 52 (.iface t v) .nilIface).run Tryz.prog w = .ok (.bool true) w := fun _ _ _ => by kernel_rfl
  have q0 : ∀ w : World, (binOp .neq 52 .nilIface .nilIface).run Tryz.prog w = .ok (.bool false) w := fun _ => by kernel_rfl
  have hlen : l.length = vc.length + m := by rw [hl]; simp [hs]
  have hd1 : l.drop vc.length = d := by rw [hl, List.drop_left]
  have ht0 : l.take vc.length = vc := by rw [hl, List.take_left]
  have hsz := size_toArray l
  rw [hlen] at hsz
  have kt := extract_take l vc.length
  rw [ht0] at kt
  have kx := extract_drop l vc.length
  rw [hd1, hlen] at kx
  have hzd := size_toArray d
  rw [hs] at hzd
  have hzv := size_toArray vc
  have hcv := fun (w : World) (L : List UInt8) => Lib.run_convert_string_bytes (P := Tryz.prog) w 9 22 5 ⟨L.toArray⟩ Tryz.underlying9 Tryz.underlying22 Tryz.underlying5
  have cv0 := fun w => hcv w vc
  rw [hzv] at cv0
  have cv1 := fun w => hcv w d
  rw [hzd] at cv1
  have hz8 : (Z : Int) / 8 = (m : Int) := by omega
  have hz9 : decide ((Z : Int) < 0) = false := by simp
  clear hZ
  have hmeth := fun (n : Nat) (w : World) => method_val a b .nilFunc n w
  have HV := Lib.hid hval
  have HS := Lib.hid hs
  have hcar : CrX K f w w q l p vc.length g nm code (Z : Nat) pt (.iface 147 (.agg #[.func (Fn.func a) #[] #[], .func (Fn.func b) #[] #[], .nilFunc])) vc := ⟨Below.refl _ _, ht, hC⟩
  obtain ⟨c0, c1, c2, p2, p3, p5⟩ := hC.cells
  have HCar := Lib.hid hcar
  clear hcar hC hl hlen hd1 ht0 hval hcv ht hs
  go_enter Tryz.func64, Tryz.ntmps64
  go_wp2_with fail
  go_quiet (fail)
  go_wp2_with fail
  go_quiet (fail)
  go_wp2_with fail
  clear c0 c1 c2 p2 p3 p5
  refine wp_gen (fun w1 => CrX K f w w1 q l p vc.length g nm code (Z : Nat) pt (.iface 147 (.agg #[.func (Fn.func a) #[] #[], .func (Fn.func b) #[] #[], .nilFunc])) vc) (by first | exact HCar.out.drewN _ | exact (HCar.out.drewN _).drewN _) ?_
  intro w1 hc1
  refine wp_region_noPanic ?_
  refine wp_region_held_drew (S := (fun w' => CrX K f w w' q l p vc.length g nm code (Z : Nat) pt (.iface 147 (.agg #[.func (Fn.func a) #[] #[], .func (Fn.func b) #[] #[], .nilFunc])) vc ∧ w'.cell? ⟨q, 0, none⟩ = some (.string ⟨l.toArray⟩) ∧ w'.cell? ⟨q, 1, none⟩ = some (.pointer (some ⟨p, 0, none⟩)) ∧ w'.cell? ⟨q, 2, none⟩ = some (.int .i64 (vc.length : Nat)) ∧ w'.cell? ⟨p, 2, none⟩ = some (.slice (some ⟨g, 0, none⟩) vc.length vc.length) ∧ w'.cell? ⟨p, 3, none⟩ = some (.int .i64 (Z : Nat)) ∧ w'.cell? ⟨p, 5, none⟩ = some (.iface 147 (.agg #[.func (Fn.func a) #[] #[], .func (Fn.func b) #[] #[], .nilFunc])))) (by kernel_rfl) ?_ (fun hHeld => ?_)
  · exact hc1.drew.held
  refine wpAnyH_take (i := 0) (v := ?v1) rfl (by kernel_rfl) (by kernel_rfl) (by kernel_rfl) (fun _ _ _ h => h) (Or.inl ⟨?w1, ?y1⟩) hHeld ?_
  case w1 => rfl
  case y1 => (intro w hSw; (try dsimp only at hSw); go_simp; first | done | with_reducible rfl)
  try simp only [Act.put, List.setIfInBounds_toArray]
  refine wpAnyH_take (i := 1) (v := ?v2) rfl (by kernel_rfl) (by kernel_rfl) (by kernel_rfl) (fun _ _ _ h => h) (Or.inl ⟨?w2, ?y2⟩) hHeld ?_
  case w2 => rfl
  case y2 => (intro w hSw; (try dsimp only at hSw); go_simp; first | done | with_reducible rfl)
  try simp only [Act.put]
  refine wpAnyH_take (i := 2) (v := ?v3) rfl (by kernel_rfl) (by kernel_rfl) (by kernel_rfl) (fun _ _ _ h => h) (Or.inl ⟨?w3, ?y3⟩) hHeld ?_
  case w3 => rfl
  case y3 => (intro w hSw; (try dsimp only at hSw); go_simp; first | done | with_reducible rfl)
  try simp only [Act.put]
  refine wpAnyH_take (i := 3) (v := ?v4) rfl (by kernel_rfl) (by kernel_rfl) (by kernel_rfl) (fun _ _ _ h => h) (Or.inl ⟨?w4, ?y4⟩) hHeld ?_
  case w4 => rfl
  case y4 => (intro w hSw; (try dsimp only at hSw); go_simp; first | done | with_reducible rfl)
  try simp only [Act.put]
  refine wpAnyH_take (i := 4) (v := ?v5) rfl (by kernel_rfl) (by kernel_rfl) (by kernel_rfl) (fun _ _ _ h => h) (Or.inl ⟨?w5, ?y5⟩) hHeld ?_
  case w5 => rfl
  case y5 => (intro w hSw; (try dsimp only at hSw); go_simp; first | done | with_reducible rfl)
  try simp only [Act.put]
  refine wpAnyH_take (i := 5) (v := ?v6) rfl (by kernel_rfl) (by kernel_rfl) (by kernel_rfl) (fun _ _ _ h => h) (Or.inl ⟨?w6, ?y6⟩) hHeld ?_
  case w6 => rfl
  case y6 => (intro w hSw; (try dsimp only at hSw); go_simp; first | done | with_reducible rfl)
  try simp only [Act.put]
  refine wpAnyH_take (i := 6) (v := ?v7) rfl (by kernel_rfl) (by kernel_rfl) (by kernel_rfl) (fun _ _ _ h => h) (Or.inl ⟨?w7, ?y7⟩) hHeld ?_
  case w7 => rfl
  case y7 => (intro w hSw; (try dsimp only at hSw); go_simp; first | done | with_reducible rfl)
  try simp only [Act.put]
  refine wpAnyH_take (i := 7) (v := ?v8) rfl (by kernel_rfl) (by kernel_rfl) (by kernel_rfl) (fun _ _ _ h => h) (Or.inl ⟨?w8, ?y8⟩) hHeld ?_
  case w8 => rfl
  case y8 => (intro w hSw; (try dsimp only at hSw); go_simp; first | done | with_reducible rfl)
  try simp only [Act.put]
  refine wpAnyH_take (i := 8) (v := ?v9) rfl (by kernel_rfl) (by kernel_rfl) (by kernel_rfl) (fun _ _ _ h => h) (Or.inl ⟨?w9, ?y9⟩) hHeld ?_
  case w9 => rfl
  case y9 => (intro w hSw; (try dsimp only at hSw); go_simp; first | done | with_reducible rfl)
  try simp only [Act.put]
  refine wpAnyH_take (i := 9) (v := ?v10) rfl (by kernel_rfl) (by kernel_rfl) (by kernel_rfl) (fun _ _ _ h => h) (Or.inl ⟨?w10, ?y10⟩) hHeld ?_
  case w10 => rfl
  case y10 => (intro w hSw; (try dsimp only at hSw); go_simp; first | done | with_reducible rfl)
  try simp only [Act.put]
  refine wpAnyH_take (i := 10) (v := ?v11) rfl (by kernel_rfl) (by kernel_rfl) (by kernel_rfl) (fun _ _ _ h => h) (Or.inl ⟨?w11, ?y11⟩) hHeld ?_
  case w11 => rfl
  case y11 => (intro w hSw; (try dsimp only at hSw); go_simp; first | done | with_reducible rfl)
  try simp only [Act.put]
  refine wpAnyH_take (i := 11) (v := ?v12) rfl (by kernel_rfl) (by kernel_rfl) (by kernel_rfl) (fun _ _ _ h => h) (Or.inl ⟨?w12, ?y12⟩) hHeld ?_
  case w12 => rfl
  case y12 => (intro w hSw; (try dsimp only at hSw); go_simp; first | done | with_reducible rfl)
  try simp only [Act.put]
  refine wpAnyH_take (i := 12) (v := ?v13) rfl (by kernel_rfl) (by kernel_rfl) (by kernel_rfl) (fun _ _ _ h => h) (Or.inl ⟨?w13, ?y13⟩) hHeld ?_
  case w13 => rfl
  case y13 => (intro w hSw; (try dsimp only at hSw); go_simp; first | done | with_reducible rfl)
  try simp only [Act.put]
  refine wpAnyH_take (i := 14) (v := ?v14) rfl (by kernel_rfl) (by kernel_rfl) (by kernel_rfl) (fun _ _ _ h => h) (Or.inl ⟨?w14, ?y14⟩) hHeld ?_
  case w14 => rfl
  case y14 => (intro w hSw; (try dsimp only at hSw); go_simp; first | done | with_reducible rfl)
  try simp only [Act.put]
  refine wpAnyH_take (i := 15) (v := ?v15) rfl (by kernel_rfl) (by kernel_rfl) (by kernel_rfl) (fun _ _ _ h => h) (Or.inl ⟨?w15, ?y15⟩) hHeld ?_
  case w15 => rfl
  case y15 => (intro w hSw; (try dsimp only at hSw); go_simp; first | done | with_reducible rfl)
  try simp only [Act.put]
  refine wpAnyH_take (i := 16) (v := ?v16) rfl (by kernel_rfl) (by kernel_rfl) (by kernel_rfl) (fun _ _ _ h => h) (Or.inl ⟨?w16, ?y16⟩) hHeld ?_
  case w16 => rfl
  case y16 => (intro w hSw; (try dsimp only at hSw); go_simp; first | done | with_reducible rfl)
  try simp only [Act.put]
  refine wpAnyH_take (i := 17) (v := ?v17) rfl (by kernel_rfl) (by kernel_rfl) (by kernel_rfl) (fun _ _ _ h => h) (Or.inl ⟨?w17, ?y17⟩) hHeld ?_
  case w17 => rfl
  case y17 => (intro w hSw; (try dsimp only at hSw); go_simp; first | done | with_reducible rfl)
  try simp only [Act.put]
  refine wpAnyH_take (i := 18) (v := ?v18) rfl (by kernel_rfl) (by kernel_rfl) (by kernel_rfl) (fun _ _ _ h => h) (Or.inl ⟨?w18, ?y18⟩) hHeld ?_
  case w18 => rfl
  case y18 => (intro w hSw; (try dsimp only at hSw); go_simp; first | done | with_reducible rfl)
  try simp only [Act.put]
  refine wpAnyH_take (i := 19) (v := ?v19) rfl (by kernel_rfl) (by kernel_rfl) (by kernel_rfl) (fun _ _ _ h => h) (Or.inl ⟨?w19, ?y19⟩) hHeld ?_
  case w19 => rfl
  case y19 => (intro w hSw; (try dsimp only at hSw); go_simp; first | done | with_reducible rfl)
  try simp only [Act.put]
  refine wpAnyH_take (i := 20) (v := ?v20) rfl (by kernel_rfl) (by kernel_rfl) (by kernel_rfl) (fun _ _ _ h => h) (Or.inl ⟨?w20, ?y20⟩) hHeld ?_
  case w20 => rfl
  case y20 => (intro w hSw; (try dsimp only at hSw); go_simp; first | done | with_reducible rfl)
  try simp only [Act.put]
  refine wpAnyH_ready (rs := [13]) (by kernel_rfl) (by simp) ?_
  refine AllReadyH.cons rfl (fun K hK => ?_) AllReadyH.nil
  go_simp
  refine hK.out _ _ ?_ (fun hHeld => ?_)
  · exact (hHeld.1.below (below_bytesWorld _ _ _)).held
  clear hK K
  try simp only [Act.put, List.setIfInBounds_toArray, List.set_cons_zero, List.set_cons_succ]
  refine wpAnyH_ready (rs := [21]) (by kernel_rfl) (by simp) ?_
  refine AllReadyH.cons rfl (fun K hK => ?_) AllReadyH.nil
  go_simp
  go_at_call 12
  refine (equal_any _ _ _ _ _ _ vc vc _ (RB.of_bytesWorld _ 5 vc (by unfold maxLen; omega)) (RB.of_blk hHeld.1.2.2.vco (by unfold maxLen; omega))).mono ?_
  rintro e w2 ⟨rfl, rfl⟩
  go_wp2_with fail
  refine hK.out _ _ ?_ (fun hHeld => ?_)
  · exact hHeld
  clear hK K
  try simp only [Act.put, List.setIfInBounds_toArray, List.set_cons_zero, List.set_cons_succ]
  refine wpAnyH_take (i := 22) (v := ?v21) rfl (by kernel_rfl) (by kernel_rfl) (by kernel_rfl) (fun _ _ _ h => h) (Or.inl ⟨?w21, ?y21⟩) hHeld ?_
  case w21 => rfl
  case y21 => (intro w hSw; (try dsimp only at hSw); go_simp; first | done | with_reducible rfl)
  try simp only [Act.put, List.setIfInBounds_toArray]
  refine wpAnyH_done (by kernel_rfl) ?_ _
  refine NoPanic.normal ?_
  have hc2 := hHeld.1
  clear hHeld
  generalize hw2 : Lib.bytesWorld _ _ _ = w2 at hc2 ⊢
  clear hw2
  obtain ⟨c0, c1, c2, p2, p3, p5⟩ := hc2.2.2.cells
  have HC2 := Lib.hid hc2
  clear hc2
  go_wp2_with fail
  go_quiet (fail)
  go_wp2_with fail
  go_quiet (fail)
  go_wp2_with fail
  clear c0 c1 c2 p2 p3 p5
  refine (HV.out _ ?b0 ?b1).mono ?_
  case b0 => first | exact HC2.out.2.1.drewN _ | exact (HC2.out.2.1.drewN _).drewN _
  case b1 => first | exact below_drewN HC2.out.1 _ | exact below_drewN (below_drewN HC2.out.1 _) _
  rintro e w5 ⟨⟨hok, s5, rfl⟩ | ⟨hok, s5, t5, v5, rfl⟩, hb5⟩
  case inr =>
    have HBF : Hid (Below w.heap.size w w5) := Lib.hid (by first | exact ((HC2.out.drewN _).below hb5).1 | exact (((HC2.out.drewN _).drewN _).below hb5).1)
    clear hb5
    go_wp2_with fail
    go_ret
    first | exact ⟨.inr ⟨hok, t5, v5, rfl⟩, HBF.out⟩ | exact ⟨.inr ⟨rfl, t5, v5, rfl⟩, HBF.out⟩
  have HOK := Lib.hid hok
  clear hok
  have hc5 : CrX K f w w5 q l p vc.length g nm code (Z : Nat) pt (.iface 147 (.agg #[.func (Fn.func a) #[] #[], .func (Fn.func b) #[] #[], .nilFunc])) vc := by first | exact (HC2.out.drewN _).below hb5 | exact ((HC2.out.drewN _).drewN _).below hb5
  obtain ⟨c0, c1, c2, p2, p3, p5⟩ := hc5.2.2.cells
  have HC5 := Lib.hid hc5
  clear hb5 hc5
  go_wp2_with fail
  clear c0 c1 c2 p2 p3 p5
  have hc6 := HC5.out
  refine wp_region_noPanic ?_
  refine wp_region_held_drew (S := (fun w' => CrX K f w w' q l p vc.length g nm code (Z : Nat) pt (.iface 147 (.agg #[.func (Fn.func a) #[] #[], .func (Fn.func b) #[] #[], .nilFunc])) vc ∧ w'.cell? ⟨q, 0, none⟩ = some (.string ⟨l.toArray⟩) ∧ w'.cell? ⟨q, 1, none⟩ = some (.pointer (some ⟨p, 0, none⟩)) ∧ w'.cell? ⟨q, 2, none⟩ = some (.int .i64 (vc.length : Nat)) ∧ w'.cell? ⟨p, 2, none⟩ = some (.slice (some ⟨g, 0, none⟩) vc.length vc.length) ∧ w'.cell? ⟨p, 3, none⟩ = some (.int .i64 (Z : Nat)) ∧ w'.cell? ⟨p, 5, none⟩ = some (.iface 147 (.agg #[.func (Fn.func a) #[] #[], .func (Fn.func b) #[] #[], .nilFunc])))) (by kernel_rfl) ?_ (fun hHeld => ?_)
  · exact hc6.drew.held
  refine wpAnyH_take (i := 0) (v := ?v22) rfl (by kernel_rfl) (by kernel_rfl) (by kernel_rfl) (fun _ _ _ h => h) (Or.inl ⟨?w22, ?y22⟩) hHeld ?_
  case w22 => rfl
  case y22 => (intro w hSw; (try dsimp only at hSw); go_simp; first | done | with_reducible rfl)
  try simp only [Act.put, List.setIfInBounds_toArray]
  refine wpAnyH_take (i := 1) (v := ?v23) rfl (by kernel_rfl) (by kernel_rfl) (by kernel_rfl) (fun _ _ _ h => h) (Or.inl ⟨?w23, ?y23⟩) hHeld ?_
  case w23 => rfl
  case y23 => (intro w hSw; (try dsimp only at hSw); go_simp; first | done | with_reducible rfl)
  try simp only [Act.put]
  refine wpAnyH_take (i := 2) (v := ?v24) rfl (by kernel_rfl) (by kernel_rfl) (by kernel_rfl) (fun _ _ _ h => h) (Or.inl ⟨?w24, ?y24⟩) hHeld ?_
  case w24 => rfl
  case y24 => (intro w hSw; (try dsimp only at hSw); go_simp; first | done | with_reducible rfl)
  try simp only [Act.put]
  refine wpAnyH_take (i := 3) (v := ?v25) rfl (by kernel_rfl) (by kernel_rfl) (by kernel_rfl) (fun _ _ _ h => h) (Or.inl ⟨?w25, ?y25⟩) hHeld ?_
  case w25 => rfl
  case y25 => (intro w hSw; (try dsimp only at hSw); go_simp; first | done | with_reducible rfl)
  try simp only [Act.put]
  refine wpAnyH_take (i := 4) (v := ?v26) rfl (by kernel_rfl) (by kernel_rfl) (by kernel_rfl) (fun _ _ _ h => h) (Or.inl ⟨?w26, ?y26⟩) hHeld ?_
  case w26 => rfl
  case y26 => (intro w hSw; (try dsimp only at hSw); go_simp; first | done | with_reducible rfl)
  try simp only [Act.put]
  refine wpAnyH_take (i := 5) (v := ?v27) rfl (by kernel_rfl) (by kernel_rfl) (by kernel_rfl) (fun _ _ _ h => h) (Or.inl ⟨?w27, ?y27⟩) hHeld ?_
  case w27 => rfl
  case y27 => (intro w hSw; (try dsimp only at hSw); go_simp; first | done | with_reducible rfl)
  try simp only [Act.put]
  refine wpAnyH_take (i := 6) (v := ?v28) rfl (by kernel_rfl) (by kernel_rfl) (by kernel_rfl) (fun _ _ _ h => h) (Or.inl ⟨?w28, ?y28⟩) hHeld ?_
  case w28 => rfl
  case y28 => (intro w hSw; (try dsimp only at hSw); go_simp; first | done | with_reducible rfl)
  try simp only [Act.put]
  refine wpAnyH_take (i := 7) (v := ?v29) rfl (by kernel_rfl) (by kernel_rfl) (by kernel_rfl) (fun _ _ _ h => h) (Or.inl ⟨?w29, ?y29⟩) hHeld ?_
  case w29 => rfl
  case y29 => (intro w hSw; (try dsimp only at hSw); go_simp; first | done | with_reducible rfl)
  try simp only [Act.put]
  refine wpAnyH_take (i := 8) (v := ?v30) rfl (by kernel_rfl) (by kernel_rfl) (by kernel_rfl) (fun _ _ _ h => h) (Or.inl ⟨?w30, ?y30⟩) hHeld ?_
  case w30 => rfl
  case y30 => (intro w hSw; (try dsimp only at hSw); go_simp; first | done | with_reducible rfl)
  try simp only [Act.put]
  refine wpAnyH_take (i := 9) (v := ?v31) rfl (by kernel_rfl) (by kernel_rfl) (by kernel_rfl) (fun _ _ _ h => h) (Or.inl ⟨?w31, ?y31⟩) hHeld ?_
  case w31 => rfl
  case y31 => (intro w hSw; (try dsimp only at hSw); go_simp; first | done | with_reducible rfl)
  try simp only [Act.put]
  refine wpAnyH_take (i := 10) (v := ?v32) rfl (by kernel_rfl) (by kernel_rfl) (by kernel_rfl) (fun _ _ _ h => h) (Or.inl ⟨?w32, ?y32⟩) hHeld ?_
  case w32 => rfl
  case y32 => (intro w hSw; (try dsimp only at hSw); go_simp; first | done | with_reducible rfl)
  try simp only [Act.put]
  refine wpAnyH_take (i := 11) (v := ?v33) rfl (by kernel_rfl) (by kernel_rfl) (by kernel_rfl) (fun _ _ _ h => h) (Or.inl ⟨?w33, ?y33⟩) hHeld ?_
  case w33 => rfl
  case y33 => (intro w hSw; (try dsimp only at hSw); go_simp; first | done | with_reducible rfl)
  try simp only [Act.put]
  refine wpAnyH_take (i := 12) (v := ?v34) rfl (by kernel_rfl) (by kernel_rfl) (by kernel_rfl) (fun _ _ _ h => h) (Or.inl ⟨?w34, ?y34⟩) hHeld ?_
  case w34 => rfl
  case y34 => (intro w hSw; (try dsimp only at hSw); go_simp; first | done | with_reducible rfl)
  try simp only [Act.put]
  refine wpAnyH_take (i := 13) (v := ?v35) rfl (by kernel_rfl) (by kernel_rfl) (by kernel_rfl) (fun _ _ _ h => h) (Or.inl ⟨?w35, ?y35⟩) hHeld ?_
  case w35 => rfl
  case y35 => (intro w hSw; (try dsimp only at hSw); go_simp; first | done | with_reducible rfl)
  try simp only [Act.put]
  refine wpAnyH_take (i := 14) (v := ?v36) rfl (by kernel_rfl) (by kernel_rfl) (by kernel_rfl) (fun _ _ _ h => h) (Or.inl ⟨?w36, ?y36⟩) hHeld ?_
  case w36 => rfl
  case y36 => (intro w hSw; (try dsimp only at hSw); go_simp; first | done | with_reducible rfl)
  try simp only [Act.put]
  refine wpAnyH_take (i := 15) (v := ?v37) rfl (by kernel_rfl) (by kernel_rfl) (by kernel_rfl) (fun _ _ _ h => h) (Or.inl ⟨?w37, ?y37⟩) hHeld ?_
  case w37 => rfl
  case y37 => (intro w hSw; (try dsimp only at hSw); go_simp; first | done | with_reducible rfl)
  try simp only [Act.put]
  refine wpAnyH_take (i := 17) (v := ?v38) rfl (by kernel_rfl) (by kernel_rfl) (by kernel_rfl) (fun _ _ _ h => h) (Or.inl ⟨?w38, ?y38⟩) hHeld ?_
  case w38 => rfl
  case y38 => (intro w hSw; (try dsimp only at hSw); go_simp; first | done | with_reducible rfl)
  try simp only [Act.put]
  refine wpAnyH_take (i := 18) (v := ?v39) rfl (by kernel_rfl) (by kernel_rfl) (by kernel_rfl) (fun _ _ _ h => h) (Or.inl ⟨?w39, ?y39⟩) hHeld ?_
  case w39 => rfl
  case y39 => (intro w hSw; (try dsimp only at hSw); go_simp; first | done | with_reducible rfl)
  try simp only [Act.put]
  refine wpAnyH_ready (rs := [16]) (by kernel_rfl) (by simp) ?_
  refine AllReadyH.cons rfl (fun K hK => ?_) AllReadyH.nil
  go_simp
  refine hK.out _ _ ?_ (fun hHeld => ?_)
  · exact (hHeld.1.below (below_bytesWorld _ _ _)).held
  clear hK K
  try simp only [Act.put, List.setIfInBounds_toArray, List.set_cons_zero, List.set_cons_succ]
  refine wpAnyH_ready (rs := [19]) (by kernel_rfl) (by simp) ?_
  refine AllReadyH.cons rfl (fun K hK => ?_) AllReadyH.nil
  go_simp
  go_at_call 371
  refine (twrp_val_nil a b _ _ _ _).mono ?_
  rintro e w7 ⟨rfl, hb7⟩
  go_wp2_with fail
  refine hK.out _ _ ?_ (fun hHeld => ?_)
  · exact (hHeld.1.below hb7).held
  clear hK K
  try simp only [Act.put, List.setIfInBounds_toArray, List.set_cons_zero, List.set_cons_succ]
  refine wpAnyH_take (i := 20) (v := ?v40) rfl (by kernel_rfl) (by kernel_rfl) (by kernel_rfl) (fun _ _ _ h => h) (Or.inl ⟨?w40, ?y40⟩) hHeld ?_
  case w40 => rfl
  case y40 => (intro w hSw; (try dsimp only at hSw); go_simp; first | done | with_reducible rfl)
  try simp only [Act.put, List.setIfInBounds_toArray]
  refine wpAnyH_done (by kernel_rfl) ?_ _
  refine NoPanic.normal ?_
  have HCF := Lib.hid hHeld.1.1
  clear hHeld hb7 hc6
  go_wp2_with fail
  go_ret
  first | exact ⟨.inl ⟨HOK.out, rfl⟩, HCF.out⟩ | exact ⟨.inl ⟨rfl, rfl⟩, HCF.out⟩
end Go.Proofs.YtghddiboggdhcaaGreatDoor
/- A component is checked, whatever its bytes. -/
namespace Go.Proofs.YtghddiboggdhcaaGreatDoor
open Go.RowKit
variable {K : Nat} {f : Nat → Int}
attribute [local go_sem ↓] Go.wp_at_zero Go.wp_at_succ
theorem validx_f (q : Nat) (l vc d : List UInt8) (p g : Nat) (nm : ByteArray) (code : Int) (pt : Bool) (a b ff : Nat) (okb : Bool) (w : World) (ht : EnvX K f w) (Z m : Nat) (hZ : Z = 8 * m) (hs : d.length = m) (hm8 : m ≤ 1000) (okv : List UInt8 → Bool) (he : ∀ args w, (callFunc ff args).run Tryz.prog w = .ok (.enter ff args) w) (hvf : Vlb K f ff okv d) (hC : CmX w q l p vc.length g nm code (Z : Nat) pt (.iface 147 (.agg #[.func (Fn.func a) #[] #[], .func (Fn.func b) #[] #[], .func (Fn.func ff) #[] #[]])) vc) (hm0 : 0 < vc.length) (hm : vc.length ≤ 10) (hl : l = vc ++ (d))
    (hval : ∀ w1, EnvX K f w1 → Below w.heap.size w w1 → Calls Tryz.prog 70 #[.pointer (some ⟨q, 0, none⟩)] w1 (OutBS okb w1)) :
    Calls Tryz.prog 64 #[.pointer (some ⟨q, 0, none⟩)] w (OutVal (okb && okv d) w) := by
  have qn : ∀ (t : TypeId) (v : Value) (w : World), (binOp .neq 52 (.iface t v) .nilIface).run Tryz.prog w = .ok (.bool true) w := fun _ _ _ => by kernel_rfl
  have q0 : ∀ w : World, (binOp .neq 52 .nilIface .nilIface).run Tryz.prog w = .ok (.bool false) w := fun _ => by kernel_rfl
  have hlen : l.length = vc.length + m := by rw [hl]; simp [hs]
  have hd1 : l.drop vc.length = d := by rw [hl, List.drop_left]
  have ht0 : l.take vc.length = vc := by rw [hl, List.take_left]
  have hsz := size_toArray l
  rw [hlen] at hsz
  have kt := extract_take l vc.length
  rw [ht0] at kt
  have kx := extract_drop l vc.length
  rw [hd1, hlen] at kx
  have hzd := size_toArray d
  rw [hs] at hzd
  have hzv := size_toArray vc
  have hcv := fun (w : World) (L : List UInt8) => Lib.run_convert_string_bytes (P := Tryz.prog) w 9 22 5 ⟨L.toArray⟩ Tryz.underlying9 Tryz.underlying22 Tryz.underlying5
  have cv0 := fun w => hcv w vc
  rw [hzv] at cv0
  have cv1 := fun w => hcv w d
  rw [hzd] at cv1
  have hz8 : (Z : Int) / 8 = (m : Int) := by omega
  have hz9 : decide ((Z : Int) < 0) = false := by simp
  clear hZ
  have hmeth := fun (n : Nat) (w : World) => method_val a b (.func (Fn.func ff) #[] #[]) n w
  have HV := Lib.hid hval
  have HS := Lib.hid hs
  have hcar : CrX K f w w q l p vc.length g nm code (Z : Nat) pt (.iface 147 (.agg #[.func (Fn.func a) #[] #[], .func (Fn.func b) #[] #[], .func (Fn.func ff) #[] #[]])) vc := ⟨Below.refl _ _, ht, hC⟩
  obtain ⟨c0, c1, c2, p2, p3, p5⟩ := hC.cells
  have HCar := Lib.hid hcar
  have HE := Lib.hid he
  have HVF := Lib.hid hvf
  clear hcar hC hl hlen hd1 ht0 hval hcv ht hs he hvf
  go_enter Tryz.func64, Tryz.ntmps64
  go_wp2_with fail
  go_quiet (fail)
  go_wp2_with fail
  go_quiet (fail)
  go_wp2_with fail
  clear c0 c1 c2 p2 p3 p5
  refine wp_gen (fun w1 => CrX K f w w1 q l p vc.length g nm code (Z : Nat) pt (.iface 147 (.agg #[.func (Fn.func a) #[] #[], .func (Fn.func b) #[] #[], .func (Fn.func ff) #[] #[]])) vc) (by first | exact HCar.out.drewN _ | exact (HCar.out.drewN _).drewN _) ?_
  intro w1 hc1
  refine wp_region_noPanic ?_
  refine wp_region_held_drew (S := (fun w' => CrX K f w w' q l p vc.length g nm code (Z : Nat) pt (.iface 147 (.agg #[.func (Fn.func a) #[] #[], .func (Fn.func b) #[] #[], .func (Fn.func ff) #[] #[]])) vc ∧ w'.cell? ⟨q, 0, none⟩ = some (.string ⟨l.toArray⟩) ∧ w'.cell? ⟨q, 1, none⟩ = some (.pointer (some ⟨p, 0, none⟩)) ∧ w'.cell? ⟨q, 2, none⟩ = some (.int .i64 (vc.length : Nat)) ∧ w'.cell? ⟨p, 2, none⟩ = some (.slice (some ⟨g, 0, none⟩) vc.length vc.length) ∧ w'.cell? ⟨p, 3, none⟩ = some (.int .i64 (Z : Nat)) ∧ w'.cell? ⟨p, 5, none⟩ = some (.iface 147 (.agg #[.func (Fn.func a) #[] #[], .func (Fn.func b) #[] #[], .func (Fn.func ff) #[] #[]])))) (by kernel_rfl) ?_ (fun hHeld => ?_)
  · exact hc1.drew.held
  refine wpAnyH_take (i := 0) (v := ?v1) rfl (by kernel_rfl) (by kernel_rfl) (by kernel_rfl) (fun _ _ _ h => h) (Or.inl ⟨?w1, ?y1⟩) hHeld ?_
  case w1 => rfl
  case y1 => (intro w hSw; (try dsimp only at hSw); go_simp; first | done | with_reducible rfl)
  try simp only [Act.put, List.setIfInBounds_toArray]
  refine wpAnyH_take (i := 1) (v := ?v2) rfl (by kernel_rfl) (by kernel_rfl) (by kernel_rfl) (fun _ _ _ h => h) (Or.inl ⟨?w2, ?y2⟩) hHeld ?_
  case w2 => rfl
  case y2 => (intro w hSw; (try dsimp only at hSw); go_simp; first | done | with_reducible rfl)
  try simp only [Act.put]
  refine wpAnyH_take (i := 2) (v := ?v3) rfl (by kernel_rfl) (by kernel_rfl) (by kernel_rfl) (fun _ _ _ h => h) (Or.inl ⟨?w3, ?y3⟩) hHeld ?_
  case w3 => rfl
  case y3 => (intro w hSw; (try dsimp only at hSw); go_simp; first | done | with_reducible rfl)
  try simp only [Act.put]
  refine wpAnyH_take (i := 3) (v := ?v4) rfl (by kernel_rfl) (by kernel_rfl) (by kernel_rfl) (fun _ _ _ h => h) (Or.inl ⟨?w4, ?y4⟩) hHeld ?_
  case w4 => rfl
  case y4 => (intro w hSw; (try dsimp only at hSw); go_simp; first | done | with_reducible rfl)
  try simp only [Act.put]
  refine wpAnyH_take (i := 4) (v := ?v5) rfl (by kernel_rfl) (by kernel_rfl) (by kernel_rfl) (fun _ _ _ h => h) (Or.inl ⟨?w5, ?y5⟩) hHeld ?_
  case w5 => rfl
  case y5 => (intro w hSw; (try dsimp only at hSw); go_simp; first | done | with_reducible rfl)
  try simp only [Act.put]
  refine wpAnyH_take (i := 5) (v := ?v6) rfl (by kernel_rfl) (by kernel_rfl) (by kernel_rfl) (fun _ _ _ h => h) (Or.inl ⟨?w6, ?y6⟩) hHeld ?_
  case w6 => rfl
  case y6 => (intro w hSw; (try dsimp only at hSw); go_simp; first | done | with_reducible rfl)
  try simp only [Act.put]
  refine wpAnyH_take (i := 6) (v := ?v7) rfl (by kernel_rfl) (by kernel_rfl) (by kernel_rfl) (fun _ _ _ h => h) (Or.inl ⟨?w7, ?y7⟩) hHeld ?_
  case w7 => rfl
  case y7 => (intro w hSw; (try dsimp only at hSw); go_simp; first | done | with_reducible rfl)
  try simp only [Act.put]
  refine wpAnyH_take (i := 7) (v := ?v8) rfl (by kernel_rfl) (by kernel_rfl) (by kernel_rfl) (fun _ _ _ h => h) (Or.inl ⟨?w8, ?y8⟩) hHeld ?_
  case w8 => rfl
  case y8 => (intro w hSw; (try dsimp only at hSw); go_simp; first | done | with_reducible rfl)
  try simp only [Act.put]
  refine wpAnyH_take (i := 8) (v := ?v9) rfl (by kernel_rfl) (by kernel_rfl) (by kernel_rfl) (fun _ _ _ h => h) (Or.inl ⟨?w9, ?y9⟩) hHeld ?_
  case w9 => rfl
  case y9 => (intro w hSw; (try dsimp only at hSw); go_simp; first | done | with_reducible rfl)
  try simp only [Act.put]
  refine wpAnyH_take (i := 9) (v := ?v10) rfl (by kernel_rfl) (by kernel_rfl) (by kernel_rfl) (fun _ _ _ h => h) (Or.inl ⟨?w10, ?y10⟩) hHeld ?_
  case w10 => rfl
  case y10 => (intro w hSw; (try dsimp only at hSw); go_simp; first | done | with_reducible rfl)
  try simp only [Act.put]
  refine wpAnyH_take (i := 10) (v := ?v11) rfl (by kernel_rfl) (by kernel_rfl) (by kernel_rfl) (fun _ _ _ h => h) (Or.inl ⟨?w11, ?y11⟩) hHeld ?_
  case w11 => rfl
  case y11 => (intro w hSw; (try dsimp only at hSw); go_simp; first | done | with_reducible rfl)
  try simp only [Act.put]
  refine wpAnyH_take (i := 11) (v := ?v12) rfl (by kernel_rfl) (by kernel_rfl) (by kernel_rfl) (fun _ _ _ h => h) (Or.inl ⟨?w12, ?y12⟩) hHeld ?_
  case w12 => rfl
  case y12 => (intro w hSw; (try dsimp only at hSw); go_simp; first | done | with_reducible rfl)
  try simp only [Act.put]
  refine wpAnyH_take (i := 12) (v := ?v13) rfl (by kernel_rfl) (by kernel_rfl) (by kernel_rfl) (fun _ _ _ h => h) (Or.inl ⟨?w13, ?y13⟩) hHeld ?_
  case w13 => rfl
  case y13 => (intro w hSw; (try dsimp only at hSw); go_simp; first | done | with_reducible rfl)
  try simp only [Act.put]
  refine wpAnyH_take (i := 14) (v := ?v14) rfl (by kernel_rfl) (by kernel_rfl) (by kernel_rfl) (fun _ _ _ h => h) (Or.inl ⟨?w14, ?y14⟩) hHeld ?_
  case w14 => rfl
  case y14 => (intro w hSw; (try dsimp only at hSw); go_simp; first | done | with_reducible rfl)
  try simp only [Act.put]
  refine wpAnyH_take (i := 15) (v := ?v15) rfl (by kernel_rfl) (by kernel_rfl) (by kernel_rfl) (fun _ _ _ h => h) (Or.inl ⟨?w15, ?y15⟩) hHeld ?_
  case w15 => rfl
  case y15 => (intro w hSw; (try dsimp only at hSw); go_simp; first | done | with_reducible rfl)
  try simp only [Act.put]
  refine wpAnyH_take (i := 16) (v := ?v16) rfl (by kernel_rfl) (by kernel_rfl) (by kernel_rfl) (fun _ _ _ h => h) (Or.inl ⟨?w16, ?y16⟩) hHeld ?_
  case w16 => rfl
  case y16 => (intro w hSw; (try dsimp only at hSw); go_simp; first | done | with_reducible rfl)
  try simp only [Act.put]
  refine wpAnyH_take (i := 17) (v := ?v17) rfl (by kernel_rfl) (by kernel_rfl) (by kernel_rfl) (fun _ _ _ h => h) (Or.inl ⟨?w17, ?y17⟩) hHeld ?_
  case w17 => rfl
  case y17 => (intro w hSw; (try dsimp only at hSw); go_simp; first | done | with_reducible rfl)
  try simp only [Act.put]
  refine wpAnyH_take (i := 18) (v := ?v18) rfl (by kernel_rfl) (by kernel_rfl) (by kernel_rfl) (fun _ _ _ h => h) (Or.inl ⟨?w18, ?y18⟩) hHeld ?_
  case w18 => rfl
  case y18 => (intro w hSw; (try dsimp only at hSw); go_simp; first | done | with_reducible rfl)
  try simp only [Act.put]
  refine wpAnyH_take (i := 19) (v := ?v19) rfl (by kernel_rfl) (by kernel_rfl) (by kernel_rfl) (fun _ _ _ h => h) (Or.inl ⟨?w19, ?y19⟩) hHeld ?_
  case w19 => rfl
  case y19 => (intro w hSw; (try dsimp only at hSw); go_simp; first | done | with_reducible rfl)
  try simp only [Act.put]
  refine wpAnyH_take (i := 20) (v := ?v20) rfl (by kernel_rfl) (by kernel_rfl) (by kernel_rfl) (fun _ _ _ h => h) (Or.inl ⟨?w20, ?y20⟩) hHeld ?_
  case w20 => rfl
  case y20 => (intro w hSw; (try dsimp only at hSw); go_simp; first | done | with_reducible rfl)
  try simp only [Act.put]
  refine wpAnyH_ready (rs := [13]) (by kernel_rfl) (by simp) ?_
  refine AllReadyH.cons rfl (fun K hK => ?_) AllReadyH.nil
  go_simp
  refine hK.out _ _ ?_ (fun hHeld => ?_)
  · exact (hHeld.1.below (below_bytesWorld _ _ _)).held
  clear hK K
  try simp only [Act.put, List.setIfInBounds_toArray, List.set_cons_zero, List.set_cons_succ]
  refine wpAnyH_ready (rs := [21]) (by kernel_rfl) (by simp) ?_
  refine AllReadyH.cons rfl (fun K hK => ?_) AllReadyH.nil
  go_simp
  go_at_call 12
  refine (equal_any _ _ _ _ _ _ vc vc _ (RB.of_bytesWorld _ 5 vc (by unfold maxLen; omega)) (RB.of_blk hHeld.1.2.2.vco (by unfold maxLen; omega))).mono ?_
  rintro e w2 ⟨rfl, rfl⟩
  go_wp2_with fail
  refine hK.out _ _ ?_ (fun hHeld => ?_)
  · exact hHeld
  clear hK K
  try simp only [Act.put, List.setIfInBounds_toArray, List.set_cons_zero, List.set_cons_succ]
  refine wpAnyH_take (i := 22) (v := ?v21) rfl (by kernel_rfl) (by kernel_rfl) (by kernel_rfl) (fun _ _ _ h => h) (Or.inl ⟨?w21, ?y21⟩) hHeld ?_
  case w21 => rfl
  case y21 => (intro w hSw; (try dsimp only at hSw); go_simp; first | done | with_reducible rfl)
  try simp only [Act.put, List.setIfInBounds_toArray]
  refine wpAnyH_done (by kernel_rfl) ?_ _
  refine NoPanic.normal ?_
  have hc2 := hHeld.1
  clear hHeld
  generalize hw2 : Lib.bytesWorld _ _ _ = w2 at hc2 ⊢
  clear hw2
  obtain ⟨c0, c1, c2, p2, p3, p5⟩ := hc2.2.2.cells
  have HC2 := Lib.hid hc2
  clear hc2
  go_wp2_with fail
  go_quiet (fail)
  go_wp2_with fail
  go_quiet (fail)
  go_wp2_with fail
  clear c0 c1 c2 p2 p3 p5
  refine (HV.out _ ?b0 ?b1).mono ?_
  case b0 => first | exact HC2.out.2.1.drewN _ | exact (HC2.out.2.1.drewN _).drewN _
  case b1 => first | exact below_drewN HC2.out.1 _ | exact below_drewN (below_drewN HC2.out.1 _) _
  rintro e w5 ⟨⟨hok, s5, rfl⟩ | ⟨hok, s5, t5, v5, rfl⟩, hb5⟩
  case inr =>
    have HBF : Hid (Below w.heap.size w w5) := Lib.hid (by first | exact ((HC2.out.drewN _).below hb5).1 | exact (((HC2.out.drewN _).drewN _).below hb5).1)
    clear hb5
    go_wp2_with fail
    go_ret
    first | exact ⟨.inr ⟨by rw [hok]; rfl, t5, v5, rfl⟩, HBF.out⟩ | exact ⟨.inr ⟨rfl, t5, v5, rfl⟩, HBF.out⟩ | exact ⟨.inr ⟨by simp, t5, v5, rfl⟩, HBF.out⟩
  have HOK := Lib.hid hok
  clear hok
  have hc5 : CrX K f w w5 q l p vc.length g nm code (Z : Nat) pt (.iface 147 (.agg #[.func (Fn.func a) #[] #[], .func (Fn.func b) #[] #[], .func (Fn.func ff) #[] #[]])) vc := by first | exact (HC2.out.drewN _).below hb5 | exact ((HC2.out.drewN _).drewN _).below hb5
  obtain ⟨c0, c1, c2, p2, p3, p5⟩ := hc5.2.2.cells
  have HC5 := Lib.hid hc5
  clear hb5 hc5
  go_wp2_with fail
  clear c0 c1 c2 p2 p3 p5
  have hc6 := HC5.out
  refine wp_region_noPanic ?_
  refine wp_region_held_drew (S := (fun w' => CrX K f w w' q l p vc.length g nm code (Z : Nat) pt (.iface 147 (.agg #[.func (Fn.func a) #[] #[], .func (Fn.func b) #[] #[], .func (Fn.func ff) #[] #[]])) vc ∧ w'.cell? ⟨q, 0, none⟩ = some (.string ⟨l.toArray⟩) ∧ w'.cell? ⟨q, 1, none⟩ = some (.pointer (some ⟨p, 0, none⟩)) ∧ w'.cell? ⟨q, 2, none⟩ = some (.int .i64 (vc.length : Nat)) ∧ w'.cell? ⟨p, 2, none⟩ = some (.slice (some ⟨g, 0, none⟩) vc.length vc.length) ∧ w'.cell? ⟨p, 3, none⟩ = some (.int .i64 (Z : Nat)) ∧ w'.cell? ⟨p, 5, none⟩ = some (.iface 147 (.agg #[.func (Fn.func a) #[] #[], .func (Fn.func b) #[] #[], .func (Fn.func ff) #[] #[]])))) (by kernel_rfl) ?_ (fun hHeld => ?_)
  · exact hc6.drew.held
  refine wpAnyH_take (i := 0) (v := ?v22) rfl (by kernel_rfl) (by kernel_rfl) (by kernel_rfl) (fun _ _ _ h => h) (Or.inl ⟨?w22, ?y22⟩) hHeld ?_
  case w22 => rfl
  case y22 => (intro w hSw; (try dsimp only at hSw); go_simp; first | done | with_reducible rfl)
  try simp only [Act.put, List.setIfInBounds_toArray]
  refine wpAnyH_take (i := 1) (v := ?v23) rfl (by kernel_rfl) (by kernel_rfl) (by kernel_rfl) (fun _ _ _ h => h) (Or.inl ⟨?w23, ?y23⟩) hHeld ?_
  case w23 => rfl
  case y23 => (intro w hSw; (try dsimp only at hSw); go_simp; first | done | with_reducible rfl)
  try simp only [Act.put]
  refine wpAnyH_take (i := 2) (v := ?v24) rfl (by kernel_rfl) (by kernel_rfl) (by kernel_rfl) (fun _ _ _ h => h) (Or.inl ⟨?w24, ?y24⟩) hHeld ?_
  case w24 => rfl
  case y24 => (intro w hSw; (try dsimp only at hSw); go_simp; first | done | with_reducible rfl)
  try simp only [Act.put]
  refine wpAnyH_take (i := 3) (v := ?v25) rfl (by kernel_rfl) (by kernel_rfl) (by kernel_rfl) (fun _ _ _ h => h) (Or.inl ⟨?w25, ?y25⟩) hHeld ?_
  case w25 => rfl
  case y25 => (intro w hSw; (try dsimp only at hSw); go_simp; first | done | with_reducible rfl)
  try simp only [Act.put]
  refine wpAnyH_take (i := 4) (v := ?v26) rfl (by kernel_rfl) (by kernel_rfl) (by kernel_rfl) (fun _ _ _ h => h) (Or.inl ⟨?w26, ?y26⟩) hHeld ?_
  case w26 => rfl
  case y26 => (intro w hSw; (try dsimp only at hSw); go_simp; first | done | with_reducible rfl)
  try simp only [Act.put]
  refine wpAnyH_take (i := 5) (v := ?v27) rfl (by kernel_rfl) (by kernel_rfl) (by kernel_rfl) (fun _ _ _ h => h) (Or.inl ⟨?w27, ?y27⟩) hHeld ?_
  case w27 => rfl
  case y27 => (intro w hSw; (try dsimp only at hSw); go_simp; first | done | with_reducible rfl)
  try simp only [Act.put]
  refine wpAnyH_take (i := 6) (v := ?v28) rfl (by kernel_rfl) (by kernel_rfl) (by kernel_rfl) (fun _ _ _ h => h) (Or.inl ⟨?w28, ?y28⟩) hHeld ?_
  case w28 => rfl
  case y28 => (intro w hSw; (try dsimp only at hSw); go_simp; first | done | with_reducible rfl)
  try simp only [Act.put]
  refine wpAnyH_take (i := 7) (v := ?v29) rfl (by kernel_rfl) (by kernel_rfl) (by kernel_rfl) (fun _ _ _ h => h) (Or.inl ⟨?w29, ?y29⟩) hHeld ?_
  case w29 => rfl
  case y29 => (intro w hSw; (try dsimp only at hSw); go_simp; first | done | with_reducible rfl)
  try simp only [Act.put]
  refine wpAnyH_take (i := 8) (v := ?v30) rfl (by kernel_rfl) (by kernel_rfl) (by kernel_rfl) (fun _ _ _ h => h) (Or.inl ⟨?w30, ?y30⟩) hHeld ?_
  case w30 => rfl
  case y30 => (intro w hSw; (try dsimp only at hSw); go_simp; first | done | with_reducible rfl)
  try simp only [Act.put]
  refine wpAnyH_take (i := 9) (v := ?v31) rfl (by kernel_rfl) (by kernel_rfl) (by kernel_rfl) (fun _ _ _ h => h) (Or.inl ⟨?w31, ?y31⟩) hHeld ?_
  case w31 => rfl
  case y31 => (intro w hSw; (try dsimp only at hSw); go_simp; first | done | with_reducible rfl)
  try simp only [Act.put]
  refine wpAnyH_take (i := 10) (v := ?v32) rfl (by kernel_rfl) (by kernel_rfl) (by kernel_rfl) (fun _ _ _ h => h) (Or.inl ⟨?w32, ?y32⟩) hHeld ?_
  case w32 => rfl
  case y32 => (intro w hSw; (try dsimp only at hSw); go_simp; first | done | with_reducible rfl)
  try simp only [Act.put]
  refine wpAnyH_take (i := 11) (v := ?v33) rfl (by kernel_rfl) (by kernel_rfl) (by kernel_rfl) (fun _ _ _ h => h) (Or.inl ⟨?w33, ?y33⟩) hHeld ?_
  case w33 => rfl
  case y33 => (intro w hSw; (try dsimp only at hSw); go_simp; first | done | with_reducible rfl)
  try simp only [Act.put]
  refine wpAnyH_take (i := 12) (v := ?v34) rfl (by kernel_rfl) (by kernel_rfl) (by kernel_rfl) (fun _ _ _ h => h) (Or.inl ⟨?w34, ?y34⟩) hHeld ?_
  case w34 => rfl
  case y34 => (intro w hSw; (try dsimp only at hSw); go_simp; first | done | with_reducible rfl)
  try simp only [Act.put]
  refine wpAnyH_take (i := 13) (v := ?v35) rfl (by kernel_rfl) (by kernel_rfl) (by kernel_rfl) (fun _ _ _ h => h) (Or.inl ⟨?w35, ?y35⟩) hHeld ?_
  case w35 => rfl
  case y35 => (intro w hSw; (try dsimp only at hSw); go_simp; first | done | with_reducible rfl)
  try simp only [Act.put]
  refine wpAnyH_take (i := 14) (v := ?v36) rfl (by kernel_rfl) (by kernel_rfl) (by kernel_rfl) (fun _ _ _ h => h) (Or.inl ⟨?w36, ?y36⟩) hHeld ?_
  case w36 => rfl
  case y36 => (intro w hSw; (try dsimp only at hSw); go_simp; first | done | with_reducible rfl)
  try simp only [Act.put]
  refine wpAnyH_take (i := 15) (v := ?v37) rfl (by kernel_rfl) (by kernel_rfl) (by kernel_rfl) (fun _ _ _ h => h) (Or.inl ⟨?w37, ?y37⟩) hHeld ?_
  case w37 => rfl
  case y37 => (intro w hSw; (try dsimp only at hSw); go_simp; first | done | with_reducible rfl)
  try simp only [Act.put]
  refine wpAnyH_take (i := 17) (v := ?v38) rfl (by kernel_rfl) (by kernel_rfl) (by kernel_rfl) (fun _ _ _ h => h) (Or.inl ⟨?w38, ?y38⟩) hHeld ?_
  case w38 => rfl
  case y38 => (intro w hSw; (try dsimp only at hSw); go_simp; first | done | with_reducible rfl)
  try simp only [Act.put]
  refine wpAnyH_take (i := 18) (v := ?v39) rfl (by kernel_rfl) (by kernel_rfl) (by kernel_rfl) (fun _ _ _ h => h) (Or.inl ⟨?w39, ?y39⟩) hHeld ?_
  case w39 => rfl
  case y39 => (intro w hSw; (try dsimp only at hSw); go_simp; first | done | with_reducible rfl)
  try simp only [Act.put]
  refine wpAnyH_ready (rs := [16]) (by kernel_rfl) (by simp) ?_
  refine AllReadyH.cons rfl (fun K hK => ?_) AllReadyH.nil
  go_simp
  refine hK.out _ _ ?_ (fun hHeld => ?_)
  · exact (hHeld.1.below (below_bytesWorld _ _ _)).held
  clear hK K
  try simp only [Act.put, List.setIfInBounds_toArray, List.set_cons_zero, List.set_cons_succ]
  refine wpAnyH_ready (rs := [19]) (by kernel_rfl) (by simp) ?_
  refine AllReadyH.cons rfl (fun K hK => ?_) AllReadyH.nil
  go_simp
  go_at_call 371
  refine (twrp_valg (okv d) a b ff _ _ _ _ HE.out (fun w8 hb8 => by have hd := HS.out; subst hd; exact HVF.out w8 _ _ (hHeld.1.2.1.below hb8) ((RB.of_bytesWorld w5.drew 5 d (by unfold maxLen; omega)).next hb8))).mono ?_
  intro e w7 hout
  obtain ⟨vv, rfl, hvv, hb7⟩ := hout.split
  have HVV := Lib.hid hvv
  clear hout hvv
  go_wp2_with fail
  refine hK.out _ _ ?_ (fun hHeld => ?_)
  · exact (hHeld.1.below hb7).held
  clear hK K
  try simp only [Act.put, List.setIfInBounds_toArray, List.set_cons_zero, List.set_cons_succ]
  refine wpAnyH_take (i := 20) (v := ?v40) rfl (by kernel_rfl) (by kernel_rfl) (by kernel_rfl) (fun _ _ _ h => h) (Or.inl ⟨?w40, ?y40⟩) hHeld ?_
  case w40 => rfl
  case y40 => (intro w hSw; (try dsimp only at hSw); go_simp; first | done | with_reducible rfl)
  try simp only [Act.put, List.setIfInBounds_toArray]
  refine wpAnyH_done (by kernel_rfl) ?_ _
  refine NoPanic.normal ?_
  have HCF := Lib.hid hHeld.1.1
  clear hHeld hb7 hc6
  rcases HVV.out with ⟨h, rfl⟩ | ⟨h, t, u, rfl⟩
  · go_wp2_with fail
    go_ret
    exact ⟨.inl ⟨by simp [HOK.out], rfl⟩, HCF.out⟩
  · go_wp2_with fail
    go_ret
    exact ⟨.inr ⟨by simp [h], t, u, rfl⟩, HCF.out⟩
end Go.Proofs.YtghddiboggdhcaaGreatDoor
