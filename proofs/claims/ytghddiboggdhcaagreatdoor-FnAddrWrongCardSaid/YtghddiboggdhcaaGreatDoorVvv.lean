/- A component is checked, whatever its bytes. -/
import Derived.Test.YtghddiboggdhcaaGreatDoorVvf
set_option maxRecDepth 100000
set_option maxHeartbeats 4000000
namespace Go.Proofs.YtghddiboggdhcaaGreatDoor
open Go.RowKit
variable {K : Nat} {f : Nat → Int}
attribute [local go_sem ↓] Go.wp_at_zero Go.wp_at_succ
theorem validx_v (q : Nat) (l vc d : List UInt8) (p g : Nat) (nm : ByteArray) (code : Int) (pt : Bool) (a b ff : Nat) (okb : Bool) (w : World) (ht : EnvX K f w) (vb : List UInt8) (hvb : 0 < vb.length) (hvb9 : vb.length ≤ 9) (hrv : rvc (vb ++ d) = some (d.length, vb.length)) (hdl : d.length ≤ 1000) (okv : List UInt8 → Bool) (he : ∀ args w, (callFunc ff args).run Tryz.prog w = .ok (.enter ff args) w) (hvf : Vlb K f ff okv d) (hC : CmX w q l p (vc.length + vb.length) g nm code (-1) pt (.iface 147 (.agg #[.func (Fn.func a) #[] #[], .func (Fn.func b) #[] #[], .func (Fn.func ff) #[] #[]])) vc) (hm0 : 0 < vc.length) (hm : vc.length ≤ 10) (hl : l = vc ++ (vb ++ d))
    (hval : ∀ w1, EnvX K f w1 → Below w.heap.size w w1 → Calls Tryz.prog 70 #[.pointer (some ⟨q, 0, none⟩)] w1 (OutBS okb w1)) :
    Calls Tryz.prog 64 #[.pointer (some ⟨q, 0, none⟩)] w (OutVal (okb && okv d) w) := by
  have qn : ∀ (t : TypeId) (v : Value) (w : World), (binOp .neq 52 (.iface t v) .nilIface).run Tryz.prog w = .ok (.bool true) w := fun _ _ _ => by kernel_rfl
  have q0 : ∀ w : World, (binOp .neq 52 .nilIface .nilIface).run Tryz.prog w = .ok (.bool false) w := fun _ => by kernel_rfl
  have hlen : l.length = vc.length + vb.length + d.length := by rw [hl]; simp; omega
  have hd1 : l.drop (vc.length + vb.length) = d := by rw [hl, ← List.append_assoc, show vc.length + vb.length = (vc ++ vb).length by simp, List.drop_left]
  have hd0 : l.drop vc.length = vb ++ d := by rw [hl, List.drop_left]
  have ht0 : l.take vc.length = vc := by rw [hl, List.take_left]
  have hsz := size_toArray l
  rw [hlen] at hsz
  have kt := extract_take l vc.length
  rw [ht0] at kt
  have kx := extract_drop l (vc.length + vb.length)
  rw [hd1, hlen] at kx
  have kx0 := extract_drop l vc.length
  rw [hd0, hlen] at kx0
  obtain ⟨r, hr⟩ : ∃ r, r = vb ++ d := ⟨_, rfl⟩
  rw [← hr] at kx0 hrv
  have hzr := size_toArray r
  obtain ⟨nb, hnb⟩ : ∃ nb, nb = vb.length := ⟨_, rfl⟩
  have hrl : r.length = nb + d.length := by rw [hr, hnb]; simp
  rw [hrl] at hzr
  rw [← hnb] at hrv hC hlen kx kx0 hsz hvb hvb9
  have HRL := Lib.hid hrl
  have HRV : Hid (∀ A c (w : World), EnvX K f w → RB w w.heap.size A (nb + d.length) c r → Calls Tryz.prog 61 #[.slice A (nb + d.length) c] w fun e w' => e = .returned (.tuple #[.int .i64 d.length, .int .i64 nb, .nilIface]) ∧ Below w.heap.size w w') := fun A c w hx h => (rvc_x A _ c r w h hx.vrs (by omega)).mono fun e w' ho => by
    obtain ⟨hb, ⟨v, n, h1, rfl⟩ | ⟨h1, _⟩⟩ := ho
    · rw [hrv] at h1; cases h1; exact ⟨rfl, hb⟩
    · rw [hrv] at h1; cases h1
  have hzd := size_toArray d
  have hzv := size_toArray vc
  have hcv := fun (w : World) (L : List UInt8) => Lib.run_convert_string_bytes (P := Tryz.prog) w 9 22 5 ⟨L.toArray⟩ Tryz.underlying9 Tryz.underlying22 Tryz.underlying5
  have cv0 := fun w => hcv w vc
  rw [hzv] at cv0
  have cv1 := fun w => hcv w d
  rw [hzd] at cv1
  have cv2 := fun w => hcv w r
  rw [hzr] at cv2
  have hmeth := fun (n : Nat) (w : World) => method_val a b (.func (Fn.func ff) #[] #[]) n w
  have HV := Lib.hid hval
  have hcar : CrX K f w w q l p (vc.length + nb) g nm code (-1) pt (.iface 147 (.agg #[.func (Fn.func a) #[] #[], .func (Fn.func b) #[] #[], .func (Fn.func ff) #[] #[]])) vc := ⟨Below.refl _ _, ht, hC⟩
  obtain ⟨c0, c1, c2, p2, p3, p5⟩ := hC.cells
  have HCar := Lib.hid hcar
  have kc : ((vc.length : Int) + (nb : Int)).toNat = vc.length + nb := by omega
  have ka : (0 : Int) ≤ (vc.length : Int) + (nb : Int) := by omega
  have kb : (vc.length : Int) + (nb : Int) ≤ (vc.length : Int) + (nb : Int) + (d.length : Int) := by omega
  have HD := Lib.hid (And.intro hdl hvb9)
  have HE := Lib.hid he
  have HVF := Lib.hid hvf
  clear hcar hC hl hlen hd1 ht0 hval hcv ht hd0 hr hrl hrv hnb he hvf
  go_enter Tryz.func64, Tryz.ntmps64
  go_wp2_with fail
  go_quiet (fail)
  go_wp2_with fail
  go_quiet (fail)
  go_wp2_with fail
  clear c0 c1 c2 p2 p3 p5
  refine wp_gen (fun w1 => CrX K f w w1 q l p (vc.length + nb) g nm code (-1) pt (.iface 147 (.agg #[.func (Fn.func a) #[] #[], .func (Fn.func b) #[] #[], .func (Fn.func ff) #[] #[]])) vc) (by first | exact HCar.out.drewN _ | exact (HCar.out.drewN _).drewN _) ?_
  intro w1 hc1
  refine wp_region_noPanic ?_
  refine wp_region_held_drew (S := (fun w' => CrX K f w w' q l p (vc.length + nb) g nm code (-1) pt (.iface 147 (.agg #[.func (Fn.func a) #[] #[], .func (Fn.func b) #[] #[], .func (Fn.func ff) #[] #[]])) vc ∧ w'.cell? ⟨q, 0, none⟩ = some (.string ⟨l.toArray⟩) ∧ w'.cell? ⟨q, 1, none⟩ = some (.pointer (some ⟨p, 0, none⟩)) ∧ w'.cell? ⟨q, 2, none⟩ = some (.int .i64 ((vc.length + nb) : Nat)) ∧ w'.cell? ⟨p, 2, none⟩ = some (.slice (some ⟨g, 0, none⟩) vc.length vc.length) ∧ w'.cell? ⟨p, 3, none⟩ = some (.int .i64 (-1)) ∧ w'.cell? ⟨p, 5, none⟩ = some (.iface 147 (.agg #[.func (Fn.func a) #[] #[], .func (Fn.func b) #[] #[], .func (Fn.func ff) #[] #[]])))) (by kernel_rfl) ?_ (fun hHeld => ?_)
  · exact hc1.drew.held
  refine wpAnyH_take (i := 0) (v := ?v1) rfl (by kernel_rfl) (by kernel_rfl) (by kernel_rfl) (fun _ _ _ h => h) (Or.inl ⟨?w1, ?y1⟩) hHeld ?_
  case w1 => rfl
  case y1 => (intro w hSw; (try dsimp only at hSw); go_simp; first | done | with_reducible rfl)
  try simp only [Act.put, List.setIfInBounds_toArray]
  refine wpAnyH_take (i := 1) (v := ?v2) rfl (by kernel_rfl) (by kernel_rfl) (by kernel_rfl) (fun _ _ _ h => h) (Or.inl ⟨?w2, ?y2⟩) hHeld ?_
  case w2 => rfl
  case y2 => (intro w hSw; (try dsimp only at hSw); go_simp; first | done | with_reducible rfl)
  try simp only [Act.put]
  refine wpAnyH_take (i := 2) (v := ?v3) rfl (by kernel_rfl) (by kernel_rfl) (by kernel_rfl) (fun _ _ _ h => h) (Or.inl ⟨?w3, ?y3⟩) hHeld ?_
  case w3 => rfl
  case y3 => (intro w hSw; (try dsimp only at hSw); go_simp; first | done | with_reducible rfl)
  try simp only [Act.put]
  refine wpAnyH_take (i := 3) (v := ?v4) rfl (by kernel_rfl) (by kernel_rfl) (by kernel_rfl) (fun _ _ _ h => h) (Or.inl ⟨?w4, ?y4⟩) hHeld ?_
  case w4 => rfl
  case y4 => (intro w hSw; (try dsimp only at hSw); go_simp; first | done | with_reducible rfl)
  try simp only [Act.put]
  refine wpAnyH_take (i := 4) (v := ?v5) rfl (by kernel_rfl) (by kernel_rfl) (by kernel_rfl) (fun _ _ _ h => h) (Or.inl ⟨?w5, ?y5⟩) hHeld ?_
  case w5 => rfl
  case y5 => (intro w hSw; (try dsimp only at hSw); go_simp; first | done | with_reducible rfl)
  try simp only [Act.put]
  refine wpAnyH_take (i := 5) (v := ?v6) rfl (by kernel_rfl) (by kernel_rfl) (by kernel_rfl) (fun _ _ _ h => h) (Or.inl ⟨?w6, ?y6⟩) hHeld ?_
  case w6 => rfl
  case y6 => (intro w hSw; (try dsimp only at hSw); go_simp; first | done | with_reducible rfl)
  try simp only [Act.put]
  refine wpAnyH_take (i := 6) (v := ?v7) rfl (by kernel_rfl) (by kernel_rfl) (by kernel_rfl) (fun _ _ _ h => h) (Or.inl ⟨?w7, ?y7⟩) hHeld ?_
  case w7 => rfl
  case y7 => (intro w hSw; (try dsimp only at hSw); go_simp; first | done | with_reducible rfl)
  try simp only [Act.put]
  refine wpAnyH_take (i := 7) (v := ?v8) rfl (by kernel_rfl) (by kernel_rfl) (by kernel_rfl) (fun _ _ _ h => h) (Or.inl ⟨?w8, ?y8⟩) hHeld ?_
  case w8 => rfl
  case y8 => (intro w hSw; (try dsimp only at hSw); go_simp; first | done | with_reducible rfl)
  try simp only [Act.put]
  refine wpAnyH_take (i := 8) (v := ?v9) rfl (by kernel_rfl) (by kernel_rfl) (by kernel_rfl) (fun _ _ _ h => h) (Or.inl ⟨?w9, ?y9⟩) hHeld ?_
  case w9 => rfl
  case y9 => (intro w hSw; (try dsimp only at hSw); go_simp; first | done | with_reducible rfl)
  try simp only [Act.put]
  refine wpAnyH_take (i := 9) (v := ?v10) rfl (by kernel_rfl) (by kernel_rfl) (by kernel_rfl) (fun _ _ _ h => h) (Or.inl ⟨?w10, ?y10⟩) hHeld ?_
  case w10 => rfl
  case y10 => (intro w hSw; (try dsimp only at hSw); go_simp; first | done | with_reducible rfl)
  try simp only [Act.put]
  refine wpAnyH_take (i := 10) (v := ?v11) rfl (by kernel_rfl) (by kernel_rfl) (by kernel_rfl) (fun _ _ _ h => h) (Or.inl ⟨?w11, ?y11⟩) hHeld ?_
  case w11 => rfl
  case y11 => (intro w hSw; (try dsimp only at hSw); go_simp; first | done | with_reducible rfl)
  try simp only [Act.put]
  refine wpAnyH_take (i := 11) (v := ?v12) rfl (by kernel_rfl) (by kernel_rfl) (by kernel_rfl) (fun _ _ _ h => h) (Or.inl ⟨?w12, ?y12⟩) hHeld ?_
  case w12 => rfl
  case y12 => (intro w hSw; (try dsimp only at hSw); go_simp; first | done | with_reducible rfl)
  try simp only [Act.put]
  refine wpAnyH_take (i := 12) (v := ?v13) rfl (by kernel_rfl) (by kernel_rfl) (by kernel_rfl) (fun _ _ _ h => h) (Or.inl ⟨?w13, ?y13⟩) hHeld ?_
  case w13 => rfl
  case y13 => (intro w hSw; (try dsimp only at hSw); go_simp; first | done | with_reducible rfl)
  try simp only [Act.put]
  refine wpAnyH_take (i := 14) (v := ?v14) rfl (by kernel_rfl) (by kernel_rfl) (by kernel_rfl) (fun _ _ _ h => h) (Or.inl ⟨?w14, ?y14⟩) hHeld ?_
  case w14 => rfl
  case y14 => (intro w hSw; (try dsimp only at hSw); go_simp; first | done | with_reducible rfl)
  try simp only [Act.put]
  refine wpAnyH_take (i := 15) (v := ?v15) rfl (by kernel_rfl) (by kernel_rfl) (by kernel_rfl) (fun _ _ _ h => h) (Or.inl ⟨?w15, ?y15⟩) hHeld ?_
  case w15 => rfl
  case y15 => (intro w hSw; (try dsimp only at hSw); go_simp; first | done | with_reducible rfl)
  try simp only [Act.put]
  refine wpAnyH_take (i := 16) (v := ?v16) rfl (by kernel_rfl) (by kernel_rfl) (by kernel_rfl) (fun _ _ _ h => h) (Or.inl ⟨?w16, ?y16⟩) hHeld ?_
  case w16 => rfl
  case y16 => (intro w hSw; (try dsimp only at hSw); go_simp; first | done | with_reducible rfl)
  try simp only [Act.put]
  refine wpAnyH_take (i := 17) (v := ?v17) rfl (by kernel_rfl) (by kernel_rfl) (by kernel_rfl) (fun _ _ _ h => h) (Or.inl ⟨?w17, ?y17⟩) hHeld ?_
  case w17 => rfl
  case y17 => (intro w hSw; (try dsimp only at hSw); go_simp; first | done | with_reducible rfl)
  try simp only [Act.put]
  refine wpAnyH_take (i := 18) (v := ?v18) rfl (by kernel_rfl) (by kernel_rfl) (by kernel_rfl) (fun _ _ _ h => h) (Or.inl ⟨?w18, ?y18⟩) hHeld ?_
  case w18 => rfl
  case y18 => (intro w hSw; (try dsimp only at hSw); go_simp; first | done | with_reducible rfl)
  try simp only [Act.put]
  refine wpAnyH_take (i := 19) (v := ?v19) rfl (by kernel_rfl) (by kernel_rfl) (by kernel_rfl) (fun _ _ _ h => h) (Or.inl ⟨?w19, ?y19⟩) hHeld ?_
  case w19 => rfl
  case y19 => (intro w hSw; (try dsimp only at hSw); go_simp; first | done | with_reducible rfl)
  try simp only [Act.put]
  refine wpAnyH_take (i := 20) (v := ?v20) rfl (by kernel_rfl) (by kernel_rfl) (by kernel_rfl) (fun _ _ _ h => h) (Or.inl ⟨?w20, ?y20⟩) hHeld ?_
  case w20 => rfl
  case y20 => (intro w hSw; (try dsimp only at hSw); go_simp; first | done | with_reducible rfl)
  try simp only [Act.put]
  refine wpAnyH_ready (rs := [13]) (by kernel_rfl) (by simp) ?_
  refine AllReadyH.cons rfl (fun K hK => ?_) AllReadyH.nil
  go_simp
  refine hK.out _ _ ?_ (fun hHeld => ?_)
  · exact (hHeld.1.below (below_bytesWorld _ _ _)).held
  clear hK K
  try simp only [Act.put, List.setIfInBounds_toArray, List.set_cons_zero, List.set_cons_succ]
  refine wpAnyH_ready (rs := [21]) (by kernel_rfl) (by simp) ?_
  refine AllReadyH.cons rfl (fun K hK => ?_) AllReadyH.nil
  go_simp
  go_at_call 12
  refine (equal_any _ _ _ _ _ _ vc vc _ (RB.of_bytesWorld _ 5 vc (by unfold maxLen; omega)) (RB.of_blk hHeld.1.2.2.vco (by unfold maxLen; omega))).mono ?_
  rintro e w2 ⟨rfl, rfl⟩
  go_wp2_with fail
  refine hK.out _ _ ?_ (fun hHeld => ?_)
  · exact hHeld
  clear hK K
  try simp only [Act.put, List.setIfInBounds_toArray, List.set_cons_zero, List.set_cons_succ]
  refine wpAnyH_take (i := 22) (v := ?v21) rfl (by kernel_rfl) (by kernel_rfl) (by kernel_rfl) (fun _ _ _ h => h) (Or.inl ⟨?w21, ?y21⟩) hHeld ?_
  case w21 => rfl
  case y21 => (intro w hSw; (try dsimp only at hSw); go_simp; first | done | with_reducible rfl)
  try simp only [Act.put, List.setIfInBounds_toArray]
  refine wpAnyH_done (by kernel_rfl) ?_ _
  refine NoPanic.normal ?_
  have hc2 := hHeld.1
  clear hHeld
  generalize hw2 : Lib.bytesWorld _ _ _ = w2 at hc2 ⊢
  clear hw2
  obtain ⟨c0, c1, c2, p2, p3, p5⟩ := hc2.2.2.cells
  have HC2 := Lib.hid hc2
  clear hc2
  go_wp2_with fail
  clear c0 c1 c2 p2 p3 p5
  have hc3 := HC2.out
  refine wp_region_noPanic ?_
  refine wp_region_held_drew (S := (fun w' => CrX K f w w' q l p (vc.length + nb) g nm code (-1) pt (.iface 147 (.agg #[.func (Fn.func a) #[] #[], .func (Fn.func b) #[] #[], .func (Fn.func ff) #[] #[]])) vc ∧ w'.cell? ⟨q, 0, none⟩ = some (.string ⟨l.toArray⟩) ∧ w'.cell? ⟨q, 1, none⟩ = some (.pointer (some ⟨p, 0, none⟩)) ∧ w'.cell? ⟨q, 2, none⟩ = some (.int .i64 ((vc.length + nb) : Nat)) ∧ w'.cell? ⟨p, 2, none⟩ = some (.slice (some ⟨g, 0, none⟩) vc.length vc.length) ∧ w'.cell? ⟨p, 3, none⟩ = some (.int .i64 (-1)) ∧ w'.cell? ⟨p, 5, none⟩ = some (.iface 147 (.agg #[.func (Fn.func a) #[] #[], .func (Fn.func b) #[] #[], .func (Fn.func ff) #[] #[]])))) (by kernel_rfl) ?_ (fun hHeld => ?_)
  · exact hc3.drew.held
  refine wpAnyH_take (i := 0) (v := ?v22) rfl (by kernel_rfl) (by kernel_rfl) (by kernel_rfl) (fun _ _ _ h => h) (Or.inl ⟨?w22, ?y22⟩) hHeld ?_
  case w22 => rfl
  case y22 => (intro w hSw; (try dsimp only at hSw); go_simp; first | done | with_reducible rfl)
  try simp only [Act.put, List.setIfInBounds_toArray]
  refine wpAnyH_take (i := 1) (v := ?v23) rfl (by kernel_rfl) (by kernel_rfl) (by kernel_rfl) (fun _ _ _ h => h) (Or.inl ⟨?w23, ?y23⟩) hHeld ?_
  case w23 => rfl
  case y23 => (intro w hSw; (try dsimp only at hSw); go_simp; first | done | with_reducible rfl)
  try simp only [Act.put]
  refine wpAnyH_take (i := 2) (v := ?v24) rfl (by kernel_rfl) (by kernel_rfl) (by kernel_rfl) (fun _ _ _ h => h) (Or.inl ⟨?w24, ?y24⟩) hHeld ?_
  case w24 => rfl
  case y24 => (intro w hSw; (try dsimp only at hSw); go_simp; first | done | with_reducible rfl)
  try simp only [Act.put]
  refine wpAnyH_take (i := 3) (v := ?v25) rfl (by kernel_rfl) (by kernel_rfl) (by kernel_rfl) (fun _ _ _ h => h) (Or.inl ⟨?w25, ?y25⟩) hHeld ?_
  case w25 => rfl
  case y25 => (intro w hSw; (try dsimp only at hSw); go_simp; first | done | with_reducible rfl)
  try simp only [Act.put]
  refine wpAnyH_take (i := 4) (v := ?v26) rfl (by kernel_rfl) (by kernel_rfl) (by kernel_rfl) (fun _ _ _ h => h) (Or.inl ⟨?w26, ?y26⟩) hHeld ?_
  case w26 => rfl
  case y26 => (intro w hSw; (try dsimp only at hSw); go_simp; first | done | with_reducible rfl)
  try simp only [Act.put]
  refine wpAnyH_take (i := 5) (v := ?v27) rfl (by kernel_rfl) (by kernel_rfl) (by kernel_rfl) (fun _ _ _ h => h) (Or.inl ⟨?w27, ?y27⟩) hHeld ?_
  case w27 => rfl
  case y27 => (intro w hSw; (try dsimp only at hSw); go_simp; first | done | with_reducible rfl)
  try simp only [Act.put]
  refine wpAnyH_take (i := 6) (v := ?v28) rfl (by kernel_rfl) (by kernel_rfl) (by kernel_rfl) (fun _ _ _ h => h) (Or.inl ⟨?w28, ?y28⟩) hHeld ?_
  case w28 => rfl
  case y28 => (intro w hSw; (try dsimp only at hSw); go_simp; first | done | with_reducible rfl)
  try simp only [Act.put]
  refine wpAnyH_take (i := 7) (v := ?v29) rfl (by kernel_rfl) (by kernel_rfl) (by kernel_rfl) (fun _ _ _ h => h) (Or.inl ⟨?w29, ?y29⟩) hHeld ?_
  case w29 => rfl
  case y29 => (intro w hSw; (try dsimp only at hSw); go_simp; first | done | with_reducible rfl)
  try simp only [Act.put]
  refine wpAnyH_take (i := 8) (v := ?v30) rfl (by kernel_rfl) (by kernel_rfl) (by kernel_rfl) (fun _ _ _ h => h) (Or.inl ⟨?w30, ?y30⟩) hHeld ?_
  case w30 => rfl
  case y30 => (intro w hSw; (try dsimp only at hSw); go_simp; first | done | with_reducible rfl)
  try simp only [Act.put]
  refine wpAnyH_take (i := 9) (v := ?v31) rfl (by kernel_rfl) (by kernel_rfl) (by kernel_rfl) (fun _ _ _ h => h) (Or.inl ⟨?w31, ?y31⟩) hHeld ?_
  case w31 => rfl
  case y31 => (intro w hSw; (try dsimp only at hSw); go_simp; first | done | with_reducible rfl)
  try simp only [Act.put]
  refine wpAnyH_take (i := 10) (v := ?v32) rfl (by kernel_rfl) (by kernel_rfl) (by kernel_rfl) (fun _ _ _ h => h) (Or.inl ⟨?w32, ?y32⟩) hHeld ?_
  case w32 => rfl
  case y32 => (intro w hSw; (try dsimp only at hSw); go_simp; first | done | with_reducible rfl)
  try simp only [Act.put]
  refine wpAnyH_take (i := 11) (v := ?v33) rfl (by kernel_rfl) (by kernel_rfl) (by kernel_rfl) (fun _ _ _ h => h) (Or.inl ⟨?w33, ?y33⟩) hHeld ?_
  case w33 => rfl
  case y33 => (intro w hSw; (try dsimp only at hSw); go_simp; first | done | with_reducible rfl)
  try simp only [Act.put]
  refine wpAnyH_take (i := 12) (v := ?v34) rfl (by kernel_rfl) (by kernel_rfl) (by kernel_rfl) (fun _ _ _ h => h) (Or.inl ⟨?w34, ?y34⟩) hHeld ?_
  case w34 => rfl
  case y34 => (intro w hSw; (try dsimp only at hSw); go_simp; first | done | with_reducible rfl)
  try simp only [Act.put]
  refine wpAnyH_ready (rs := [13]) (by kernel_rfl) (by simp) ?_
  refine AllReadyH.cons rfl (fun K hK => ?_) AllReadyH.nil
  go_simp
  refine hK.out _ _ ?_ (fun hHeld => ?_)
  · exact (hHeld.1.below (below_bytesWorld _ _ _)).held
  clear hK K
  try simp only [Act.put, List.setIfInBounds_toArray, List.set_cons_zero, List.set_cons_succ]
  refine wpAnyH_ready (rs := [14]) (by kernel_rfl) (by simp) ?_
  refine AllReadyH.cons rfl (fun K hK => ?_) AllReadyH.nil
  go_simp
  go_at_call 61
  refine (HRV.out _ _ _ hHeld.1.2.1 (by have := RB.of_bytesWorld w2.drew 5 r (by have := HRL.out; unfold maxLen; omega); rw [HRL.out] at this; exact this)).mono ?_
  rintro e w3 ⟨rfl, hb3⟩
  go_wp2_with fail
  refine hK.out _ _ ?_ (fun hHeld => ?_)
  · exact (hHeld.1.below hb3).held
  clear hK K
  try simp only [Act.put, List.setIfInBounds_toArray, List.set_cons_zero, List.set_cons_succ]
  refine wpAnyH_take (i := 15) (v := ?v35) rfl (by kernel_rfl) (by kernel_rfl) (by kernel_rfl) (fun _ _ _ h => h) (Or.inl ⟨?w35, ?y35⟩) hHeld ?_
  case w35 => rfl
  case y35 => (intro w hSw; (try dsimp only at hSw); go_simp; first | done | with_reducible rfl)
  try simp only [Act.put, List.setIfInBounds_toArray]
  refine wpAnyH_take (i := 16) (v := ?v36) rfl (by kernel_rfl) (by kernel_rfl) (by kernel_rfl) (fun _ _ _ h => h) (Or.inl ⟨?w36, ?y36⟩) hHeld ?_
  case w36 => rfl
  case y36 => (intro w hSw; (try dsimp only at hSw); go_simp; first | done | with_reducible rfl)
  try simp only [Act.put]
  refine wpAnyH_take (i := 17) (v := ?v37) rfl (by kernel_rfl) (by kernel_rfl) (by kernel_rfl) (fun _ _ _ h => h) (Or.inl ⟨?w37, ?y37⟩) hHeld ?_
  case w37 => rfl
  case y37 => (intro w hSw; (try dsimp only at hSw); go_simp; first | done | with_reducible rfl)
  try simp only [Act.put]
  refine wpAnyH_take (i := 18) (v := ?v38) rfl (by kernel_rfl) (by kernel_rfl) (by kernel_rfl) (fun _ _ _ h => h) (Or.inl ⟨?w38, ?y38⟩) hHeld ?_
  case w38 => rfl
  case y38 => (intro w hSw; (try dsimp only at hSw); go_simp; first | done | with_reducible rfl)
  try simp only [Act.put]
  refine wpAnyH_take (i := 19) (v := ?v39) rfl (by kernel_rfl) (by kernel_rfl) (by kernel_rfl) (fun _ _ _ h => h) (Or.inl ⟨?w39, ?y39⟩) hHeld ?_
  case w39 => rfl
  case y39 => (intro w hSw; (try dsimp only at hSw); go_simp; first | done | with_reducible rfl)
  try simp only [Act.put]
  refine wpAnyH_take (i := 20) (v := ?v40) rfl (by kernel_rfl) (by kernel_rfl) (by kernel_rfl) (fun _ _ _ h => h) (Or.inl ⟨?w40, ?y40⟩) hHeld ?_
  case w40 => rfl
  case y40 => (intro w hSw; (try dsimp only at hSw); go_simp; first | done | with_reducible rfl)
  try simp only [Act.put]
  refine wpAnyH_take (i := 21) (v := ?v41) rfl (by kernel_rfl) (by kernel_rfl) (by kernel_rfl) (fun _ _ _ h => h) (Or.inl ⟨?w41, ?y41⟩) hHeld ?_
  case w41 => rfl
  case y41 => (intro w hSw; (try dsimp only at hSw); go_simp; first | done | with_reducible rfl)
  try simp only [Act.put]
  refine wpAnyH_done (by kernel_rfl) ?_ _
  refine NoPanic.normal ?_
  have hc4 := hHeld.1
  clear hHeld hc3 hb3
  obtain ⟨c0, c1, c2, p2, p3, p5⟩ := hc4.2.2.cells
  replace HC2 := Lib.hid hc4
  clear hc4
  go_wp2_with fail
  go_quiet (fail)
  go_wp2_with fail
  go_quiet (fail)
  go_wp2_with fail
  clear c0 c1 c2 p2 p3 p5
  refine (HV.out _ ?b0 ?b1).mono ?_
  case b0 => first | exact HC2.out.2.1.drewN _ | exact (HC2.out.2.1.drewN _).drewN _
  case b1 => first | exact below_drewN HC2.out.1 _ | exact below_drewN (below_drewN HC2.out.1 _) _
  rintro e w5 ⟨⟨hok, s5, rfl⟩ | ⟨hok, s5, t5, v5, rfl⟩, hb5⟩
  case inr =>
    have HBF : Hid (Below w.heap.size w w5) := Lib.hid (by first | exact ((HC2.out.drewN _).below hb5).1 | exact (((HC2.out.drewN _).drewN _).below hb5).1)
    clear hb5
    go_wp2_with fail
    go_ret
    first | exact ⟨.inr ⟨by rw [hok]; rfl, t5, v5, rfl⟩, HBF.out⟩ | exact ⟨.inr ⟨rfl, t5, v5, rfl⟩, HBF.out⟩ | exact ⟨.inr ⟨by simp, t5, v5, rfl⟩, HBF.out⟩
  have HOK := Lib.hid hok
  clear hok
  have hc5 : CrX K f w w5 q l p (vc.length + nb) g nm code (-1) pt (.iface 147 (.agg #[.func (Fn.func a) #[] #[], .func (Fn.func b) #[] #[], .func (Fn.func ff) #[] #[]])) vc := by first | exact (HC2.out.drewN _).below hb5 | exact ((HC2.out.drewN _).drewN _).below hb5
  obtain ⟨c0, c1, c2, p2, p3, p5⟩ := hc5.2.2.cells
  have HC5 := Lib.hid hc5
  clear hb5 hc5
  go_wp2_with fail
  clear c0 c1 c2 p2 p3 p5
  have hc6 := HC5.out
  refine wp_region_noPanic ?_
  refine wp_region_held_drew (S := (fun w' => CrX K f w w' q l p (vc.length + nb) g nm code (-1) pt (.iface 147 (.agg #[.func (Fn.func a) #[] #[], .func (Fn.func b) #[] #[], .func (Fn.func ff) #[] #[]])) vc ∧ w'.cell? ⟨q, 0, none⟩ = some (.string ⟨l.toArray⟩) ∧ w'.cell? ⟨q, 1, none⟩ = some (.pointer (some ⟨p, 0, none⟩)) ∧ w'.cell? ⟨q, 2, none⟩ = some (.int .i64 ((vc.length + nb) : Nat)) ∧ w'.cell? ⟨p, 2, none⟩ = some (.slice (some ⟨g, 0, none⟩) vc.length vc.length) ∧ w'.cell? ⟨p, 3, none⟩ = some (.int .i64 (-1)) ∧ w'.cell? ⟨p, 5, none⟩ = some (.iface 147 (.agg #[.func (Fn.func a) #[] #[], .func (Fn.func b) #[] #[], .func (Fn.func ff) #[] #[]])))) (by kernel_rfl) ?_ (fun hHeld => ?_)
  · exact hc6.drew.held
  refine wpAnyH_take (i := 0) (v := ?v42) rfl (by kernel_rfl) (by kernel_rfl) (by kernel_rfl) (fun _ _ _ h => h) (Or.inl ⟨?w42, ?y42⟩) hHeld ?_
  case w42 => rfl
  case y42 => (intro w hSw; (try dsimp only at hSw); go_simp; first | done | with_reducible rfl)
  try simp only [Act.put, List.setIfInBounds_toArray]
  refine wpAnyH_take (i := 1) (v := ?v43) rfl (by kernel_rfl) (by kernel_rfl) (by kernel_rfl) (fun _ _ _ h => h) (Or.inl ⟨?w43, ?y43⟩) hHeld ?_
  case w43 => rfl
  case y43 => (intro w hSw; (try dsimp only at hSw); go_simp; first | done | with_reducible rfl)
  try simp only [Act.put]
  refine wpAnyH_take (i := 2) (v := ?v44) rfl (by kernel_rfl) (by kernel_rfl) (by kernel_rfl) (fun _ _ _ h => h) (Or.inl ⟨?w44, ?y44⟩) hHeld ?_
  case w44 => rfl
  case y44 => (intro w hSw; (try dsimp only at hSw); go_simp; first | done | with_reducible rfl)
  try simp only [Act.put]
  refine wpAnyH_take (i := 3) (v := ?v45) rfl (by kernel_rfl) (by kernel_rfl) (by kernel_rfl) (fun _ _ _ h => h) (Or.inl ⟨?w45, ?y45⟩) hHeld ?_
  case w45 => rfl
  case y45 => (intro w hSw; (try dsimp only at hSw); go_simp; first | done | with_reducible rfl)
  try simp only [Act.put]
  refine wpAnyH_take (i := 4) (v := ?v46) rfl (by kernel_rfl) (by kernel_rfl) (by kernel_rfl) (fun _ _ _ h => h) (Or.inl ⟨?w46, ?y46⟩) hHeld ?_
  case w46 => rfl
  case y46 => (intro w hSw; (try dsimp only at hSw); go_simp; first | done | with_reducible rfl)
  try simp only [Act.put]
  refine wpAnyH_take (i := 5) (v := ?v47) rfl (by kernel_rfl) (by kernel_rfl) (by kernel_rfl) (fun _ _ _ h => h) (Or.inl ⟨?w47, ?y47⟩) hHeld ?_
  case w47 => rfl
  case y47 => (intro w hSw; (try dsimp only at hSw); go_simp; first | done | with_reducible rfl)
  try simp only [Act.put]
  refine wpAnyH_take (i := 6) (v := ?v48) rfl (by kernel_rfl) (by kernel_rfl) (by kernel_rfl) (fun _ _ _ h => h) (Or.inl ⟨?w48, ?y48⟩) hHeld ?_
  case w48 => rfl
  case y48 => (intro w hSw; (try dsimp only at hSw); go_simp; first | done | with_reducible rfl)
  try simp only [Act.put]
  refine wpAnyH_take (i := 7) (v := ?v49) rfl (by kernel_rfl) (by kernel_rfl) (by kernel_rfl) (fun _ _ _ h => h) (Or.inl ⟨?w49, ?y49⟩) hHeld ?_
  case w49 => rfl
  case y49 => (intro w hSw; (try dsimp only at hSw); go_simp; first | done | with_reducible rfl)
  try simp only [Act.put]
  refine wpAnyH_take (i := 8) (v := ?v50) rfl (by kernel_rfl) (by kernel_rfl) (by kernel_rfl) (fun _ _ _ h => h) (Or.inl ⟨?w50, ?y50⟩) hHeld ?_
  case w50 => rfl
  case y50 => (intro w hSw; (try dsimp only at hSw); go_simp; first | done | with_reducible rfl)
  try simp only [Act.put]
  refine wpAnyH_take (i := 9) (v := ?v51) rfl (by kernel_rfl) (by kernel_rfl) (by kernel_rfl) (fun _ _ _ h => h) (Or.inl ⟨?w51, ?y51⟩) hHeld ?_
  case w51 => rfl
  case y51 => (intro w hSw; (try dsimp only at hSw); go_simp; first | done | with_reducible rfl)
  try simp only [Act.put]
  refine wpAnyH_take (i := 10) (v := ?v52) rfl (by kernel_rfl) (by kernel_rfl) (by kernel_rfl) (fun _ _ _ h => h) (Or.inl ⟨?w52, ?y52⟩) hHeld ?_
  case w52 => rfl
  case y52 => (intro w hSw; (try dsimp only at hSw); go_simp; first | done | with_reducible rfl)
  try simp only [Act.put]
  refine wpAnyH_take (i := 11) (v := ?v53) rfl (by kernel_rfl) (by kernel_rfl) (by kernel_rfl) (fun _ _ _ h => h) (Or.inl ⟨?w53, ?y53⟩) hHeld ?_
  case w53 => rfl
  case y53 => (intro w hSw; (try dsimp only at hSw); go_simp; first | done | with_reducible rfl)
  try simp only [Act.put]
  refine wpAnyH_take (i := 12) (v := ?v54) rfl (by kernel_rfl) (by kernel_rfl) (by kernel_rfl) (fun _ _ _ h => h) (Or.inl ⟨?w54, ?y54⟩) hHeld ?_
  case w54 => rfl
  case y54 => (intro w hSw; (try dsimp only at hSw); go_simp; first | done | with_reducible rfl)
  try simp only [Act.put]
  refine wpAnyH_take (i := 13) (v := ?v55) rfl (by kernel_rfl) (by kernel_rfl) (by kernel_rfl) (fun _ _ _ h => h) (Or.inl ⟨?w55, ?y55⟩) hHeld ?_
  case w55 => rfl
  case y55 => (intro w hSw; (try dsimp only at hSw); go_simp; first | done | with_reducible rfl)
  try simp only [Act.put]
  refine wpAnyH_take (i := 14) (v := ?v56) rfl (by kernel_rfl) (by kernel_rfl) (by kernel_rfl) (fun _ _ _ h => h) (Or.inl ⟨?w56, ?y56⟩) hHeld ?_
  case w56 => rfl
  case y56 => (intro w hSw; (try dsimp only at hSw); go_simp; first | done | with_reducible rfl)
  try simp only [Act.put]
  refine wpAnyH_take (i := 15) (v := ?v57) rfl (by kernel_rfl) (by kernel_rfl) (by kernel_rfl) (fun _ _ _ h => h) (Or.inl ⟨?w57, ?y57⟩) hHeld ?_
  case w57 => rfl
  case y57 => (intro w hSw; (try dsimp only at hSw); go_simp; first | done | with_reducible rfl)
  try simp only [Act.put]
  refine wpAnyH_take (i := 17) (v := ?v58) rfl (by kernel_rfl) (by kernel_rfl) (by kernel_rfl) (fun _ _ _ h => h) (Or.inl ⟨?w58, ?y58⟩) hHeld ?_
  case w58 => rfl
  case y58 => (intro w hSw; (try dsimp only at hSw); go_simp; first | done | with_reducible rfl)
  try simp only [Act.put]
  refine wpAnyH_take (i := 18) (v := ?v59) rfl (by kernel_rfl) (by kernel_rfl) (by kernel_rfl) (fun _ _ _ h => h) (Or.inl ⟨?w59, ?y59⟩) hHeld ?_
  case w59 => rfl
  case y59 => (intro w hSw; (try dsimp only at hSw); go_simp; first | done | with_reducible rfl)
  try simp only [Act.put]
  refine wpAnyH_ready (rs := [16]) (by kernel_rfl) (by simp) ?_
  refine AllReadyH.cons rfl (fun K hK => ?_) AllReadyH.nil
  go_simp
  refine hK.out _ _ ?_ (fun hHeld => ?_)
  · exact (hHeld.1.below (below_bytesWorld _ _ _)).held
  clear hK K
  try simp only [Act.put, List.setIfInBounds_toArray, List.set_cons_zero, List.set_cons_succ]
  refine wpAnyH_ready (rs := [19]) (by kernel_rfl) (by simp) ?_
  refine AllReadyH.cons rfl (fun K hK => ?_) AllReadyH.nil
  go_simp
  go_at_call 371
  refine (twrp_valg (okv d) a b ff _ _ _ _ HE.out (fun w8 hb8 => HVF.out w8 _ _ (hHeld.1.2.1.below hb8) ((RB.of_bytesWorld w5.drew 5 d (by unfold maxLen; omega)).next hb8))).mono ?_
  intro e w7 hout
  obtain ⟨vv, rfl, hvv, hb7⟩ := hout.split
  have HVV := Lib.hid hvv
  clear hout hvv
  go_wp2_with fail
  refine hK.out _ _ ?_ (fun hHeld => ?_)
  · exact (hHeld.1.below hb7).held
  clear hK K
  try simp only [Act.put, List.setIfInBounds_toArray, List.set_cons_zero, List.set_cons_succ]
  refine wpAnyH_take (i := 20) (v := ?v60) rfl (by kernel_rfl) (by kernel_rfl) (by kernel_rfl) (fun _ _ _ h => h) (Or.inl ⟨?w60, ?y60⟩) hHeld ?_
  case w60 => rfl
  case y60 => (intro w hSw; (try dsimp only at hSw); go_simp; first | done | with_reducible rfl)
  try simp only [Act.put, List.setIfInBounds_toArray]
  refine wpAnyH_done (by kernel_rfl) ?_ _
  refine NoPanic.normal ?_
  have HCF := Lib.hid hHeld.1.1
  clear hHeld hb7 hc6
  rcases HVV.out with ⟨h, rfl⟩ | ⟨h, t, u, rfl⟩
  · go_wp2_with fail
    go_ret
    exact ⟨.inl ⟨by simp [HOK.out], rfl⟩, HCF.out⟩
  · go_wp2_with fail
    go_ret
    exact ⟨.inr ⟨by simp [h], t, u, rfl⟩, HCF.out⟩
end Go.Proofs.YtghddiboggdhcaaGreatDoor
