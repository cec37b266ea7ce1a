/- A component's value as a text: there is one, without an error. -/
import Derived.Test.YtghddiboggdhcaaGreatDoorPh
set_option maxRecDepth 100000
set_option maxHeartbeats 2000000
namespace Go.Proofs.YtghddiboggdhcaaGreatDoor
open Go.RowKit
variable {K : Nat}
attribute [local go_sem ↓] Go.wp_at_zero Go.wp_at_succ
theorem twrp_bts (a b : Nat) (v : Value) (hv : v = .nilFunc ∨ ∃ c, v = .func (Fn.func c) #[] #[]) (A : Option Addr) (n c : Nat) (w : World)
    (he : ∀ args w, (callFunc b args).run Tryz.prog w = .ok (.enter b args) w) (hf : ∀ w1, Below w.heap.size w w1 → Calls Tryz.prog b #[.slice A n c] w1 (OutSE w1)) :
    Calls Tryz.prog 369 #[.agg #[.func (Fn.func a) #[] #[], .func (Fn.func b) #[] #[], v], .slice A n c] w (OutSE w) := by
  have HB := Lib.hid ((Below.refl _ w).alloc (Nat.le_refl _) (.cells #[.func (Fn.func a) #[] #[], .func (Fn.func b) #[] #[], v] 147))
  have HF := Lib.hid (hf _ HB.out)
  clear hf
  rcases hv with rfl | ⟨cc, rfl⟩
  all_goals
    go_enter Tryz.func369, Tryz.ntmps369
    go_wp2_with fail
    go_at_fn b
    refine HF.out.mono ?_
    rintro e w2 ⟨s, rfl, hb⟩
    have HB2 := Lib.hid (HB.out.trans (hb.mono (by simp)))
    clear hb
    go_wp2_with fail
    go_ret2
    exact ⟨s, rfl, HB2.out⟩
def OutN (w : World) (e : Ending) (w' : World) : Prop := e = .returned .nilIface ∧ Below w.heap.size w w'
theorem eql_nilFunc : ∀ w : World, (binOp .eql 139 .nilFunc .nilFunc).run Tryz.prog w = .ok (.bool true) w := fun _ => by kernel_rfl
theorem eql_func (v : Nat) : ∀ w : World, (binOp .eql 139 (.func (Fn.func v) #[] #[]) .nilFunc).run Tryz.prog w = .ok (.bool false) w := fun _ => by kernel_rfl
theorem twrp_val_nil (a b : Nat) (A : Option Addr) (n c : Nat) (w : World) :
    Calls Tryz.prog 371 #[.agg #[.func (Fn.func a) #[] #[], .func (Fn.func b) #[] #[], .nilFunc], .slice A n c] w (OutN w) := by
  have HB := Lib.hid ((Below.refl _ w).alloc (Nat.le_refl _) (.cells #[.func (Fn.func a) #[] #[], .func (Fn.func b) #[] #[], .nilFunc] 147))
  have q0 := eql_nilFunc
  have q1 := fun v => eql_func v
  go_enter Tryz.func371, Tryz.ntmps371
  go_wp2_with fail
  go_ret
  exact ⟨rfl, HB.out⟩
theorem twrp_val_func (a b v : Nat) (A : Option Addr) (n c : Nat) (w : World) (he : ∀ args w, (callFunc v args).run Tryz.prog w = .ok (.enter v args) w)
    (hf : ∀ w1, Below w.heap.size w w1 → Calls Tryz.prog v #[.slice A n c] w1 (OutN w1)) :
    Calls Tryz.prog 371 #[.agg #[.func (Fn.func a) #[] #[], .func (Fn.func b) #[] #[], .func (Fn.func v) #[] #[]], .slice A n c] w (OutN w) := by
  have HB := Lib.hid ((Below.refl _ w).alloc (Nat.le_refl _) (.cells #[.func (Fn.func a) #[] #[], .func (Fn.func b) #[] #[], .func (Fn.func v) #[] #[]] 147))
  have HF := Lib.hid (hf _ HB.out)
  clear hf
  have q0 := eql_nilFunc
  have q1 := fun v => eql_func v
  go_enter Tryz.func371, Tryz.ntmps371
  go_wp2_with fail
  go_at_fn v
  refine HF.out.mono ?_
  rintro e w2 ⟨rfl, hb⟩
  have HB2 := Lib.hid (HB.out.trans (hb.mono (by simp)))
  clear hb
  go_wp2_with fail
  go_ret
  exact ⟨rfl, HB2.out⟩
theorem method_bts (a b : Nat) (v : Value) (n : Nat) (w : World) : (method (n + 1) 147 (.agg #[.func (Fn.func a) #[] #[], .func (Fn.func b) #[] #[], v]) "BytesToString").run Tryz.prog w = .ok (369, .agg #[.func (Fn.func a) #[] #[], .func (Fn.func b) #[] #[], v]) w := by kernel_rfl
theorem value_some (q : Nat) (l : List UInt8) (p vs g k : Nat) (a b : Nat) (v : Value) (hv1 : v = .nilFunc ∨ ∃ c, v = .func (Fn.func c) #[] #[]) (htc : (protoOf k).tc = .iface 147 (.agg #[.func (Fn.func a) #[] #[], .func (Fn.func b) #[] #[], v])) (he : ∀ args w, (callFunc b args).run Tryz.prog w = .ok (.enter b args) w)
    (w : World) (ht : Tab K w) (h : Blk w q 81 (ccells l p vs)) (hp : Blk w p 77 (pcells k g)) (hv : vs ≤ l.length) (hl : l.length ≤ 100000)
    (hf : ∀ (L : List UInt8), L = l.drop vs → ∀ w1 g c, Tab K w1 → RB w1 w1.heap.size (some ⟨g, 0, none⟩) L.length c L → Calls Tryz.prog b #[.slice (some ⟨g, 0, none⟩) L.length c] w1 (OutSE w1)) :
    Calls Tryz.prog 70 #[.pointer (some ⟨q, 0, none⟩)] w (OutSE w) := by
  have c0 : w.cell? ⟨q, 0, none⟩ = some (.string ⟨l.toArray⟩) := h.cell 0
  have c1 : w.cell? ⟨q, 1, none⟩ = some (.pointer (some ⟨p, 0, none⟩)) := h.cell 1
  have c2 : w.cell? ⟨q, 2, none⟩ = some (.int .i64 vs) := h.cell 2
  have p5 : w.cell? ⟨p, 5, none⟩ = some (.iface 147 (.agg #[.func (Fn.func a) #[] #[], .func (Fn.func b) #[] #[], v])) := (hp.cell 5).trans (by rw [← htc]; rfl)
  have hsz := size_toArray l
  have kx := extract_drop l vs
  have hL1 : (l.drop vs).length ≤ 1000000 := by simp; omega
  obtain ⟨L, hL⟩ : ∃ L, L = l.drop vs := ⟨_, rfl⟩
  have HF := Lib.hid (hf L hL)
  rw [← hL] at kx hL1
  have k0 : (0 : Int) ≤ (vs : Int) := by omega
  have k1 : (vs : Int) ≤ (l.length : Int) := by omega
  have hcv := fun w : World => Lib.run_convert_string_bytes (P := Tryz.prog) w 9 22 5 ⟨L.toArray⟩ Tryz.underlying9 Tryz.underlying22 Tryz.underlying5
  simp only [size_toArray] at hcv
  have hm := fun (n : Nat) (w : World) => method_bts a b v n w
  have HT := Lib.hid ht
  have HE := Lib.hid he
  clear h hp hL hf htc ht he
  go_enter Tryz.func70, Tryz.ntmps70
  go_wp2_with fail
  refine wp_region_noPanic ?_
  refine wp_region_held_drew (S := (fun w' => Below w.heap.size w w' ∧ Tab K w' ∧ w'.cell? ⟨q, 0, none⟩ = some (.string ⟨l.toArray⟩) ∧ w'.cell? ⟨q, 1, none⟩ = some (.pointer (some ⟨p, 0, none⟩)) ∧ w'.cell? ⟨q, 2, none⟩ = some (.int .i64 vs) ∧ w'.cell? ⟨p, 5, none⟩ = some (.iface 147 (.agg #[.func (Fn.func a) #[] #[], .func (Fn.func b) #[] #[], v])))) (by kernel_rfl) ?_ (fun hHeld => ?_)
  · exact ⟨(Below.refl _ _).drew, HT.out.drew, c0, c1, c2, p5⟩
  refine wpAnyH_take (i := 0) (v := ?v1) rfl (by kernel_rfl) (by kernel_rfl) (by kernel_rfl) (fun _ _ _ h => h) (Or.inl ⟨?w1, ?y1⟩) hHeld ?_
  case w1 => rfl
  case y1 => (intro w hSw; (try dsimp only at hSw); go_simp; first | done | with_reducible rfl)
  try simp only [Act.put, List.setIfInBounds_toArray]
  refine wpAnyH_take (i := 1) (v := ?v2) rfl (by kernel_rfl) (by kernel_rfl) (by kernel_rfl) (fun _ _ _ h => h) (Or.inl ⟨?w2, ?y2⟩) hHeld ?_
  case w2 => rfl
  case y2 => (intro w hSw; (try dsimp only at hSw); go_simp; first | done | with_reducible rfl)
  try simp only [Act.put]
  refine wpAnyH_take (i := 2) (v := ?v3) rfl (by kernel_rfl) (by kernel_rfl) (by kernel_rfl) (fun _ _ _ h => h) (Or.inl ⟨?w3, ?y3⟩) hHeld ?_
  case w3 => rfl
  case y3 => (intro w hSw; (try dsimp only at hSw); go_simp; first | done | with_reducible rfl)
  try simp only [Act.put]
  refine wpAnyH_take (i := 3) (v := ?v4) rfl (by kernel_rfl) (by kernel_rfl) (by kernel_rfl) (fun _ _ _ h => h) (Or.inl ⟨?w4, ?y4⟩) hHeld ?_
  case w4 => rfl
  case y4 => (intro w hSw; (try dsimp only at hSw); go_simp; first | done | with_reducible rfl)
  try simp only [Act.put]
  refine wpAnyH_take (i := 4) (v := ?v5) rfl (by kernel_rfl) (by kernel_rfl) (by kernel_rfl) (fun _ _ _ h => h) (Or.inl ⟨?w5, ?y5⟩) hHeld ?_
  case w5 => rfl
  case y5 => (intro w hSw; (try dsimp only at hSw); go_simp; first | done | with_reducible rfl)
  try simp only [Act.put]
  refine wpAnyH_take (i := 5) (v := ?v6) rfl (by kernel_rfl) (by kernel_rfl) (by kernel_rfl) (fun _ _ _ h => h) (Or.inl ⟨?w6, ?y6⟩) hHeld ?_
  case w6 => rfl
  case y6 => (intro w hSw; (try dsimp only at hSw); go_simp; first | done | with_reducible rfl)
  try simp only [Act.put]
  refine wpAnyH_take (i := 6) (v := ?v7) rfl (by kernel_rfl) (by kernel_rfl) (by kernel_rfl) (fun _ _ _ h => h) (Or.inl ⟨?w7, ?y7⟩) hHeld ?_
  case w7 => rfl
  case y7 => (intro w hSw; (try dsimp only at hSw); go_simp; first | done | with_reducible rfl)
  try simp only [Act.put]
  refine wpAnyH_take (i := 7) (v := ?v8) rfl (by kernel_rfl) (by kernel_rfl) (by kernel_rfl) (fun _ _ _ h => h) (Or.inl ⟨?w8, ?y8⟩) hHeld ?_
  case w8 => rfl
  case y8 => (intro w hSw; (try dsimp only at hSw); go_simp; first | done | with_reducible rfl)
  try simp only [Act.put]
  refine wpAnyH_take (i := 8) (v := ?v9) rfl (by kernel_rfl) (by kernel_rfl) (by kernel_rfl) (fun _ _ _ h => h) (Or.inl ⟨?w9, ?y9⟩) hHeld ?_
  case w9 => rfl
  case y9 => (intro w hSw; (try dsimp only at hSw); go_simp; first | done | with_reducible rfl)
  try simp only [Act.put]
  refine wpAnyH_take (i := 9) (v := ?v10) rfl (by kernel_rfl) (by kernel_rfl) (by kernel_rfl) (fun _ _ _ h => h) (Or.inl ⟨?w10, ?y10⟩) hHeld ?_
  case w10 => rfl
  case y10 => (intro w hSw; (try dsimp only at hSw); go_simp; first | done | with_reducible rfl)
  try simp only [Act.put]
  refine wpAnyH_take (i := 10) (v := ?v11) rfl (by kernel_rfl) (by kernel_rfl) (by kernel_rfl) (fun _ _ _ h => h) (Or.inl ⟨?w11, ?y11⟩) hHeld ?_
  case w11 => rfl
  case y11 => (intro w hSw; (try dsimp only at hSw); go_simp; first | done | with_reducible rfl)
  try simp only [Act.put]
  refine wpAnyH_take (i := 11) (v := ?v12) rfl (by kernel_rfl) (by kernel_rfl) (by kernel_rfl) (fun _ _ _ h => h) (Or.inl ⟨?w12, ?y12⟩) hHeld ?_
  case w12 => rfl
  case y12 => (intro w hSw; (try dsimp only at hSw); go_simp; first | done | with_reducible rfl)
  try simp only [Act.put]
  refine wpAnyH_take (i := 12) (v := ?v13) rfl (by kernel_rfl) (by kernel_rfl) (by kernel_rfl) (fun _ _ _ h => h) (Or.inl ⟨?w13, ?y13⟩) hHeld ?_
  case w13 => rfl
  case y13 => (intro w hSw; (try dsimp only at hSw); go_simp; first | done | with_reducible rfl)
  try simp only [Act.put]
  refine wpAnyH_take (i := 13) (v := ?v14) rfl (by kernel_rfl) (by kernel_rfl) (by kernel_rfl) (fun _ _ _ h => h) (Or.inl ⟨?w14, ?y14⟩) hHeld ?_
  case w14 => rfl
  case y14 => (intro w hSw; (try dsimp only at hSw); go_simp; first | done | with_reducible rfl)
  try simp only [Act.put]
  refine wpAnyH_take (i := 14) (v := ?v15) rfl (by kernel_rfl) (by kernel_rfl) (by kernel_rfl) (fun _ _ _ h => h) (Or.inl ⟨?w15, ?y15⟩) hHeld ?_
  case w15 => rfl
  case y15 => (intro w hSw; (try dsimp only at hSw); go_simp; first | done | with_reducible rfl)
  try simp only [Act.put]
  refine wpAnyH_take (i := 15) (v := ?v16) rfl (by kernel_rfl) (by kernel_rfl) (by kernel_rfl) (fun _ _ _ h => h) (Or.inl ⟨?w16, ?y16⟩) hHeld ?_
  case w16 => rfl
  case y16 => (intro w hSw; (try dsimp only at hSw); go_simp; first | done | with_reducible rfl)
  try simp only [Act.put]
  refine wpAnyH_take (i := 17) (v := ?v17) rfl (by kernel_rfl) (by kernel_rfl) (by kernel_rfl) (fun _ _ _ h => h) (Or.inl ⟨?w17, ?y17⟩) hHeld ?_
  case w17 => rfl
  case y17 => (intro w hSw; (try dsimp only at hSw); go_simp; first | done | with_reducible rfl)
  try simp only [Act.put]
  refine wpAnyH_take (i := 18) (v := ?v18) rfl (by kernel_rfl) (by kernel_rfl) (by kernel_rfl) (fun _ _ _ h => h) (Or.inl ⟨?w18, ?y18⟩) hHeld ?_
  case w18 => rfl
  case y18 => (intro w hSw; (try dsimp only at hSw); go_simp; first | done | with_reducible rfl)
  try simp only [Act.put]
  refine wpAnyH_ready (rs := [16]) (by kernel_rfl) (by simp) ?_
  refine AllReadyH.cons rfl (fun K hK => ?_) AllReadyH.nil
  go_simp
  refine hK.out _ _ ?_ (fun hHeld => ?_)
  · exact ip_keep (below_bytesWorld _ _ _) ‹_›
  clear hK K
  try simp only [Act.put, List.setIfInBounds_toArray, List.set_cons_zero, List.set_cons_succ]
  refine wpAnyH_ready (rs := [19]) (by kernel_rfl) (by simp) ?_
  refine AllReadyH.cons rfl (fun K hK => ?_) AllReadyH.nil
  go_simp
  go_at_call 369
  refine (twrp_bts a b v hv1 _ _ _ _ HE.out (fun w1 hb => HF.out w1 _ _ (hHeld.2.1.below hb) ((RB.of_bytesWorld w.drew 5 L (by unfold maxLen; omega)).next hb))).mono ?_
  rintro e w2 ⟨s, rfl, hb2⟩
  go_wp2_with fail
  refine hK.out _ _ ?_ (fun hHeld => ?_)
  · exact ip_keep hb2 ‹_›
  clear hK K
  try simp only [Act.put, List.setIfInBounds_toArray, List.set_cons_zero, List.set_cons_succ]
  refine wpAnyH_take (i := 20) (v := ?v19) rfl (by kernel_rfl) (by kernel_rfl) (by kernel_rfl) (fun _ _ _ h => h) (Or.inl ⟨?w19, ?y19⟩) hHeld ?_
  case w19 => rfl
  case y19 => (intro w hSw; (try dsimp only at hSw); go_simp; first | done | with_reducible rfl)
  try simp only [Act.put, List.setIfInBounds_toArray]
  refine wpAnyH_take (i := 21) (v := ?v20) rfl (by kernel_rfl) (by kernel_rfl) (by kernel_rfl) (fun _ _ _ h => h) (Or.inl ⟨?w20, ?y20⟩) hHeld ?_
  case w20 => rfl
  case y20 => (intro w hSw; (try dsimp only at hSw); go_simp; first | done | with_reducible rfl)
  try simp only [Act.put]
  refine wpAnyH_take (i := 22) (v := ?v21) rfl (by kernel_rfl) (by kernel_rfl) (by kernel_rfl) (fun _ _ _ h => h) (Or.inl ⟨?w21, ?y21⟩) hHeld ?_
  case w21 => rfl
  case y21 => (intro w hSw; (try dsimp only at hSw); go_simp; first | done | with_reducible rfl)
  try simp only [Act.put]
  refine wpAnyH_take (i := 23) (v := ?v22) rfl (by kernel_rfl) (by kernel_rfl) (by kernel_rfl) (fun _ _ _ h => h) (Or.inl ⟨?w22, ?y22⟩) hHeld ?_
  case w22 => rfl
  case y22 => (intro w hSw; (try dsimp only at hSw); go_simp; first | done | with_reducible rfl)
  try simp only [Act.put]
  refine wpAnyH_take (i := 24) (v := ?v23) rfl (by kernel_rfl) (by kernel_rfl) (by kernel_rfl) (fun _ _ _ h => h) (Or.inl ⟨?w23, ?y23⟩) hHeld ?_
  case w23 => rfl
  case y23 => (intro w hSw; (try dsimp only at hSw); go_simp; first | done | with_reducible rfl)
  try simp only [Act.put]
  refine wpAnyH_done (by kernel_rfl) ?_ _
  refine NoPanic.normal ?_
  have HB := Lib.hid hHeld.1
  clear hHeld hb2
  go_wp2_with fail
  go_ret2
  exact ⟨s, rfl, HB.out⟩
theorem value_none (q : Nat) (l : List UInt8) (p vs g k : Nat) (htc : (protoOf k).tc = .nilIface) (w : World) (h : Blk w q 81 (ccells l p vs)) (hp : Blk w p 77 (pcells k g)) :
    Calls Tryz.prog 70 #[.pointer (some ⟨q, 0, none⟩)] w (OutSE w) := by
  have c1 : w.cell? ⟨q, 1, none⟩ = some (.pointer (some ⟨p, 0, none⟩)) := h.cell 1
  have p5 : w.cell? ⟨p, 5, none⟩ = some .nilIface := (hp.cell 5).trans (by rw [← htc]; rfl)
  clear h hp htc
  go_enter Tryz.func70, Tryz.ntmps70
  go_wp2_with fail
  go_ret2
  exact ⟨_, rfl, Below.refl _ _⟩
end Go.Proofs.YtghddiboggdhcaaGreatDoor
