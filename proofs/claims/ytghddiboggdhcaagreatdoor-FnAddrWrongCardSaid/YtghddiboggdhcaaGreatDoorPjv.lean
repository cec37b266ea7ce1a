/- A component of a known protocol stands its check. -/
import Derived.Test.YtghddiboggdhcaaGreatDoorPj
set_option maxRecDepth 100000
set_option maxHeartbeats 2000000
namespace Go.Proofs.YtghddiboggdhcaaGreatDoor
open Go.RowKit
variable {K : Nat}
attribute [local go_sem ↓] Go.wp_at_zero Go.wp_at_succ
theorem validate_var (q : Nat) (l vc d : List UInt8) (p g : Nat) (nm : ByteArray) (code : Int) (a b f : Nat) (w : World) (ht : Tab K w) (hC : Cmp w q l p (vc.length + 1) g nm code (-1) (.iface 147 (.agg #[.func (Fn.func a) #[] #[], .func (Fn.func b) #[] #[], .func (Fn.func f) #[] #[]])) vc) (hm0 : 0 < vc.length) (hm : vc.length ≤ 10) (bb : UInt8) (hbb : bb.toNat = d.length) (hdl : d.length < 128) (he : ∀ args w, (callFunc f args).run Tryz.prog w = .ok (.enter f args) w) (hvf : ∀ w1 g c, RB w1 w1.heap.size (some ⟨g, 0, none⟩) d.length c d → Calls Tryz.prog f #[.slice (some ⟨g, 0, none⟩) d.length c] w1 (OutN w1)) (hl : l = vc ++ ([bb] ++ d))
    (hval : ∀ w1, Below w.heap.size w w1 → Calls Tryz.prog 70 #[.pointer (some ⟨q, 0, none⟩)] w1 (OutSE w1)) :
    Calls Tryz.prog 64 #[.pointer (some ⟨q, 0, none⟩)] w (OutN w) := by
  have hlen : l.length = vc.length + 1 + d.length := by rw [hl]; simp; omega
  have hd1 : l.drop (vc.length + 1) = d := by rw [hl, ← List.append_assoc, show vc.length + 1 = (vc ++ [bb]).length by simp, List.drop_left]
  have hd0 : l.drop vc.length = [bb] ++ d := by rw [hl, List.drop_left]
  have ht0 : l.take vc.length = vc := by rw [hl, List.take_left]
  have hsz := size_toArray l
  rw [hlen] at hsz
  have kt := extract_take l vc.length
  rw [ht0] at kt
  have kx := extract_drop l (vc.length + 1)
  rw [hd1, hlen] at kx
  have kx0 := extract_drop l vc.length
  rw [hd0, hlen] at kx0
  obtain ⟨r, hr⟩ : ∃ r, r = [bb] ++ d := ⟨_, rfl⟩
  rw [← hr] at kx0
  have hzr := size_toArray r
  have hrl : r.length = d.length + 1 := by rw [hr]; simp
  rw [hrl] at hzr
  have HRL := Lib.hid hrl
  have HRV : Hid (∀ A c (w : World), RB w w.heap.size A (d.length + 1) c r → Calls Tryz.prog 61 #[.slice A (d.length + 1) c] w fun e w' => e = .returned (.tuple #[.int .i64 d.length, .int .i64 1, .nilIface]) ∧ w = w') := fun A c w h => by rw [hr] at h; have := readvar_one A _ c bb d w h (by omega); rw [hbb] at this; exact this
  have hzd := size_toArray d
  have hzv := size_toArray vc
  have hcv := fun (w : World) (L : List UInt8) => Lib.run_convert_string_bytes (P := Tryz.prog) w 9 22 5 ⟨L.toArray⟩ Tryz.underlying9 Tryz.underlying22 Tryz.underlying5
  have cv0 := fun w => hcv w vc
  rw [hzv] at cv0
  have cv1 := fun w => hcv w d
  rw [hzd] at cv1
  have cv2 := fun w => hcv w r
  rw [hzr] at cv2
  have hmeth := fun (n : Nat) (w : World) => method_val a b (.func (Fn.func f) #[] #[]) n w
  have HV := Lib.hid hval
  have hcar : Car K w w q l p (vc.length + 1) g nm code (-1) (.iface 147 (.agg #[.func (Fn.func a) #[] #[], .func (Fn.func b) #[] #[], .func (Fn.func f) #[] #[]])) vc := ⟨Below.refl _ _, ht, hC⟩
  obtain ⟨c0, c1, c2, p2, p3, p5⟩ := hC.cells
  have HCar := Lib.hid hcar
  have ka : (0 : Int) ≤ (vc.length : Int) + 1 := by omega
  have kb : (vc.length : Int) + 1 ≤ (vc.length : Int) + 1 + (d.length : Int) := by omega
  have HE := Lib.hid he
  have HVF := Lib.hid hvf
  clear hcar hC hl hlen hd1 ht0 hval hcv ht hd0 hr hrl hbb he hvf
  go_enter Tryz.func64, Tryz.ntmps64
  go_wp2_with fail
  go_quiet (fail)
  go_wp2_with fail
  go_quiet (fail)
  go_wp2_with fail
  clear c0 c1 c2 p2 p3 p5
  refine wp_gen (fun w1 => Car K w w1 q l p (vc.length + 1) g nm code (-1) (.iface 147 (.agg #[.func (Fn.func a) #[] #[], .func (Fn.func b) #[] #[], .func (Fn.func f) #[] #[]])) vc) (by first | exact HCar.out.drewN _ | exact (HCar.out.drewN _).drewN _) ?_
  intro w1 hc1
  refine wp_region_noPanic ?_
  refine wp_region_held_drew (S := (fun w' => Car K w w' q l p (vc.length + 1) g nm code (-1) (.iface 147 (.agg #[.func (Fn.func a) #[] #[], .func (Fn.func b) #[] #[], .func (Fn.func f) #[] #[]])) vc ∧ w'.cell? ⟨q, 0, none⟩ = some (.string ⟨l.toArray⟩) ∧ w'.cell? ⟨q, 1, none⟩ = some (.pointer (some ⟨p, 0, none⟩)) ∧ w'.cell? ⟨q, 2, none⟩ = some (.int .i64 ((vc.length + 1) : Nat)) ∧ w'.cell? ⟨p, 2, none⟩ = some (.slice (some ⟨g, 0, none⟩) vc.length vc.length) ∧ w'.cell? ⟨p, 3, none⟩ = some (.int .i64 (-1)) ∧ w'.cell? ⟨p, 5, none⟩ = some (.iface 147 (.agg #[.func (Fn.func a) #[] #[], .func (Fn.func b) #[] #[], .func (Fn.func f) #[] #[]])))) (by kernel_rfl) ?_ (fun hHeld => ?_)
  · exact hc1.drew.held
  refine wpAnyH_take (i := 0) (v := ?v142) rfl (by kernel_rfl) (by kernel_rfl) (by kernel_rfl) (fun _ _ _ h => h) (Or.inl ⟨?w142, ?y142⟩) hHeld ?_
  case w142 => rfl
  case y142 => (intro w hSw; (try dsimp only at hSw); go_simp; first | done | with_reducible rfl)
  try simp only [Act.put, List.setIfInBounds_toArray]
  refine wpAnyH_take (i := 1) (v := ?v143) rfl (by kernel_rfl) (by kernel_rfl) (by kernel_rfl) (fun _ _ _ h => h) (Or.inl ⟨?w143, ?y143⟩) hHeld ?_
  case w143 => rfl
  case y143 => (intro w hSw; (try dsimp only at hSw); go_simp; first | done | with_reducible rfl)
  try simp only [Act.put]
  refine wpAnyH_take (i := 2) (v := ?v144) rfl (by kernel_rfl) (by kernel_rfl) (by kernel_rfl) (fun _ _ _ h => h) (Or.inl ⟨?w144, ?y144⟩) hHeld ?_
  case w144 => rfl
  case y144 => (intro w hSw; (try dsimp only at hSw); go_simp; first | done | with_reducible rfl)
  try simp only [Act.put]
  refine wpAnyH_take (i := 3) (v := ?v145) rfl (by kernel_rfl) (by kernel_rfl) (by kernel_rfl) (fun _ _ _ h => h) (Or.inl ⟨?w145, ?y145⟩) hHeld ?_
  case w145 => rfl
  case y145 => (intro w hSw; (try dsimp only at hSw); go_simp; first | done | with_reducible rfl)
  try simp only [Act.put]
  refine wpAnyH_take (i := 4) (v := ?v146) rfl (by kernel_rfl) (by kernel_rfl) (by kernel_rfl) (fun _ _ _ h => h) (Or.inl ⟨?w146, ?y146⟩) hHeld ?_
  case w146 => rfl
  case y146 => (intro w hSw; (try dsimp only at hSw); go_simp; first | done | with_reducible rfl)
  try simp only [Act.put]
  refine wpAnyH_take (i := 5) (v := ?v147) rfl (by kernel_rfl) (by kernel_rfl) (by kernel_rfl) (fun _ _ _ h => h) (Or.inl ⟨?w147, ?y147⟩) hHeld ?_
  case w147 => rfl
  case y147 => (intro w hSw; (try dsimp only at hSw); go_simp; first | done | with_reducible rfl)
  try simp only [Act.put]
  refine wpAnyH_take (i := 6) (v := ?v148) rfl (by kernel_rfl) (by kernel_rfl) (by kernel_rfl) (fun _ _ _ h => h) (Or.inl ⟨?w148, ?y148⟩) hHeld ?_
  case w148 => rfl
  case y148 => (intro w hSw; (try dsimp only at hSw); go_simp; first | done | with_reducible rfl)
  try simp only [Act.put]
  refine wpAnyH_take (i := 7) (v := ?v149) rfl (by kernel_rfl) (by kernel_rfl) (by kernel_rfl) (fun _ _ _ h => h) (Or.inl ⟨?w149, ?y149⟩) hHeld ?_
  case w149 => rfl
  case y149 => (intro w hSw; (try dsimp only at hSw); go_simp; first | done | with_reducible rfl)
  try simp only [Act.put]
  refine wpAnyH_take (i := 8) (v := ?v150) rfl (by kernel_rfl) (by kernel_rfl) (by kernel_rfl) (fun _ _ _ h => h) (Or.inl ⟨?w150, ?y150⟩) hHeld ?_
  case w150 => rfl
  case y150 => (intro w hSw; (try dsimp only at hSw); go_simp; first | done | with_reducible rfl)
  try simp only [Act.put]
  refine wpAnyH_take (i := 9) (v := ?v151) rfl (by kernel_rfl) (by kernel_rfl) (by kernel_rfl) (fun _ _ _ h => h) (Or.inl ⟨?w151, ?y151⟩) hHeld ?_
  case w151 => rfl
  case y151 => (intro w hSw; (try dsimp only at hSw); go_simp; first | done | with_reducible rfl)
  try simp only [Act.put]
  refine wpAnyH_take (i := 10) (v := ?v152) rfl (by kernel_rfl) (by kernel_rfl) (by kernel_rfl) (fun _ _ _ h => h) (Or.inl ⟨?w152, ?y152⟩) hHeld ?_
  case w152 => rfl
  case y152 => (intro w hSw; (try dsimp only at hSw); go_simp; first | done | with_reducible rfl)
  try simp only [Act.put]
  refine wpAnyH_take (i := 11) (v := ?v153) rfl (by kernel_rfl) (by kernel_rfl) (by kernel_rfl) (fun _ _ _ h => h) (Or.inl ⟨?w153, ?y153⟩) hHeld ?_
  case w153 => rfl
  case y153 => (intro w hSw; (try dsimp only at hSw); go_simp; first | done | with_reducible rfl)
  try simp only [Act.put]
  refine wpAnyH_take (i := 12) (v := ?v154) rfl (by kernel_rfl) (by kernel_rfl) (by kernel_rfl) (fun _ _ _ h => h) (Or.inl ⟨?w154, ?y154⟩) hHeld ?_
  case w154 => rfl
  case y154 => (intro w hSw; (try dsimp only at hSw); go_simp; first | done | with_reducible rfl)
  try simp only [Act.put]
  refine wpAnyH_take (i := 14) (v := ?v155) rfl (by kernel_rfl) (by kernel_rfl) (by kernel_rfl) (fun _ _ _ h => h) (Or.inl ⟨?w155, ?y155⟩) hHeld ?_
  case w155 => rfl
  case y155 => (intro w hSw; (try dsimp only at hSw); go_simp; first | done | with_reducible rfl)
  try simp only [Act.put]
  refine wpAnyH_take (i := 15) (v := ?v156) rfl (by kernel_rfl) (by kernel_rfl) (by kernel_rfl) (fun _ _ _ h => h) (Or.inl ⟨?w156, ?y156⟩) hHeld ?_
  case w156 => rfl
  case y156 => (intro w hSw; (try dsimp only at hSw); go_simp; first | done | with_reducible rfl)
  try simp only [Act.put]
  refine wpAnyH_take (i := 16) (v := ?v157) rfl (by kernel_rfl) (by kernel_rfl) (by kernel_rfl) (fun _ _ _ h => h) (Or.inl ⟨?w157, ?y157⟩) hHeld ?_
  case w157 => rfl
  case y157 => (intro w hSw; (try dsimp only at hSw); go_simp; first | done | with_reducible rfl)
  try simp only [Act.put]
  refine wpAnyH_take (i := 17) (v := ?v158) rfl (by kernel_rfl) (by kernel_rfl) (by kernel_rfl) (fun _ _ _ h => h) (Or.inl ⟨?w158, ?y158⟩) hHeld ?_
  case w158 => rfl
  case y158 => (intro w hSw; (try dsimp only at hSw); go_simp; first | done | with_reducible rfl)
  try simp only [Act.put]
  refine wpAnyH_take (i := 18) (v := ?v159) rfl (by kernel_rfl) (by kernel_rfl) (by kernel_rfl) (fun _ _ _ h => h) (Or.inl ⟨?w159, ?y159⟩) hHeld ?_
  case w159 => rfl
  case y159 => (intro w hSw; (try dsimp only at hSw); go_simp; first | done | with_reducible rfl)
  try simp only [Act.put]
  refine wpAnyH_take (i := 19) (v := ?v160) rfl (by kernel_rfl) (by kernel_rfl) (by kernel_rfl) (fun _ _ _ h => h) (Or.inl ⟨?w160, ?y160⟩) hHeld ?_
  case w160 => rfl
  case y160 => (intro w hSw; (try dsimp only at hSw); go_simp; first | done | with_reducible rfl)
  try simp only [Act.put]
  refine wpAnyH_take (i := 20) (v := ?v161) rfl (by kernel_rfl) (by kernel_rfl) (by kernel_rfl) (fun _ _ _ h => h) (Or.inl ⟨?w161, ?y161⟩) hHeld ?_
  case w161 => rfl
  case y161 => (intro w hSw; (try dsimp only at hSw); go_simp; first | done | with_reducible rfl)
  try simp only [Act.put]
  refine wpAnyH_ready (rs := [13]) (by kernel_rfl) (by simp) ?_
  refine AllReadyH.cons rfl (fun K hK => ?_) AllReadyH.nil
  go_simp
  refine hK.out _ _ ?_ (fun hHeld => ?_)
  · exact (hHeld.1.below (below_bytesWorld _ _ _)).held
  clear hK K
  try simp only [Act.put, List.setIfInBounds_toArray, List.set_cons_zero, List.set_cons_succ]
  refine wpAnyH_ready (rs := [21]) (by kernel_rfl) (by simp) ?_
  refine AllReadyH.cons rfl (fun K hK => ?_) AllReadyH.nil
  go_simp
  go_at_call 12
  refine (equal_any _ _ _ _ _ _ vc vc _ (RB.of_bytesWorld _ 5 vc (by unfold maxLen; omega)) (RB.of_blk hHeld.1.2.2.vco (by unfold maxLen; omega))).mono ?_
  rintro e w2 ⟨rfl, rfl⟩
  go_wp2_with fail
  refine hK.out _ _ ?_ (fun hHeld => ?_)
  · exact hHeld
  clear hK K
  try simp only [Act.put, List.setIfInBounds_toArray, List.set_cons_zero, List.set_cons_succ]
  refine wpAnyH_take (i := 22) (v := ?v162) rfl (by kernel_rfl) (by kernel_rfl) (by kernel_rfl) (fun _ _ _ h => h) (Or.inl ⟨?w162, ?y162⟩) hHeld ?_
  case w162 => rfl
  case y162 => (intro w hSw; (try dsimp only at hSw); go_simp; first | done | with_reducible rfl)
  try simp only [Act.put, List.setIfInBounds_toArray]
  refine wpAnyH_done (by kernel_rfl) ?_ _
  refine NoPanic.normal ?_
  have hc2 := hHeld.1
  clear hHeld
  generalize hw2 : Lib.bytesWorld _ _ _ = w2 at hc2 ⊢
  clear hw2
  obtain ⟨c0, c1, c2, p2, p3, p5⟩ := hc2.2.2.cells
  have HC2 := Lib.hid hc2
  clear hc2
  go_wp2_with fail
  clear c0 c1 c2 p2 p3 p5
  have hc3 := HC2.out
  refine wp_region_noPanic ?_
  refine wp_region_held_drew (S := (fun w' => Car K w w' q l p (vc.length + 1) g nm code (-1) (.iface 147 (.agg #[.func (Fn.func a) #[] #[], .func (Fn.func b) #[] #[], .func (Fn.func f) #[] #[]])) vc ∧ w'.cell? ⟨q, 0, none⟩ = some (.string ⟨l.toArray⟩) ∧ w'.cell? ⟨q, 1, none⟩ = some (.pointer (some ⟨p, 0, none⟩)) ∧ w'.cell? ⟨q, 2, none⟩ = some (.int .i64 ((vc.length + 1) : Nat)) ∧ w'.cell? ⟨p, 2, none⟩ = some (.slice (some ⟨g, 0, none⟩) vc.length vc.length) ∧ w'.cell? ⟨p, 3, none⟩ = some (.int .i64 (-1)) ∧ w'.cell? ⟨p, 5, none⟩ = some (.iface 147 (.agg #[.func (Fn.func a) #[] #[], .func (Fn.func b) #[] #[], .func (Fn.func f) #[] #[]])))) (by kernel_rfl) ?_ (fun hHeld => ?_)
  · exact hc3.drew.held
  refine wpAnyH_take (i := 0) (v := ?v163) rfl (by kernel_rfl) (by kernel_rfl) (by kernel_rfl) (fun _ _ _ h => h) (Or.inl ⟨?w163, ?y163⟩) hHeld ?_
  case w163 => rfl
  case y163 => (intro w hSw; (try dsimp only at hSw); go_simp; first | done | with_reducible rfl)
  try simp only [Act.put, List.setIfInBounds_toArray]
  refine wpAnyH_take (i := 1) (v := ?v164) rfl (by kernel_rfl) (by kernel_rfl) (by kernel_rfl) (fun _ _ _ h => h) (Or.inl ⟨?w164, ?y164⟩) hHeld ?_
  case w164 => rfl
  case y164 => (intro w hSw; (try dsimp only at hSw); go_simp; first | done | with_reducible rfl)
  try simp only [Act.put]
  refine wpAnyH_take (i := 2) (v := ?v165) rfl (by kernel_rfl) (by kernel_rfl) (by kernel_rfl) (fun _ _ _ h => h) (Or.inl ⟨?w165, ?y165⟩) hHeld ?_
  case w165 => rfl
  case y165 => (intro w hSw; (try dsimp only at hSw); go_simp; first | done | with_reducible rfl)
  try simp only [Act.put]
  refine wpAnyH_take (i := 3) (v := ?v166) rfl (by kernel_rfl) (by kernel_rfl) (by kernel_rfl) (fun _ _ _ h => h) (Or.inl ⟨?w166, ?y166⟩) hHeld ?_
  case w166 => rfl
  case y166 => (intro w hSw; (try dsimp only at hSw); go_simp; first | done | with_reducible rfl)
  try simp only [Act.put]
  refine wpAnyH_take (i := 4) (v := ?v167) rfl (by kernel_rfl) (by kernel_rfl) (by kernel_rfl) (fun _ _ _ h => h) (Or.inl ⟨?w167, ?y167⟩) hHeld ?_
  case w167 => rfl
  case y167 => (intro w hSw; (try dsimp only at hSw); go_simp; first | done | with_reducible rfl)
  try simp only [Act.put]
  refine wpAnyH_take (i := 5) (v := ?v168) rfl (by kernel_rfl) (by kernel_rfl) (by kernel_rfl) (fun _ _ _ h => h) (Or.inl ⟨?w168, ?y168⟩) hHeld ?_
  case w168 => rfl
  case y168 => (intro w hSw; (try dsimp only at hSw); go_simp; first | done | with_reducible rfl)
  try simp only [Act.put]
  refine wpAnyH_take (i := 6) (v := ?v169) rfl (by kernel_rfl) (by kernel_rfl) (by kernel_rfl) (fun _ _ _ h => h) (Or.inl ⟨?w169, ?y169⟩) hHeld ?_
  case w169 => rfl
  case y169 => (intro w hSw; (try dsimp only at hSw); go_simp; first | done | with_reducible rfl)
  try simp only [Act.put]
  refine wpAnyH_take (i := 7) (v := ?v170) rfl (by kernel_rfl) (by kernel_rfl) (by kernel_rfl) (fun _ _ _ h => h) (Or.inl ⟨?w170, ?y170⟩) hHeld ?_
  case w170 => rfl
  case y170 => (intro w hSw; (try dsimp only at hSw); go_simp; first | done | with_reducible rfl)
  try simp only [Act.put]
  refine wpAnyH_take (i := 8) (v := ?v171) rfl (by kernel_rfl) (by kernel_rfl) (by kernel_rfl) (fun _ _ _ h => h) (Or.inl ⟨?w171, ?y171⟩) hHeld ?_
  case w171 => rfl
  case y171 => (intro w hSw; (try dsimp only at hSw); go_simp; first | done | with_reducible rfl)
  try simp only [Act.put]
  refine wpAnyH_take (i := 9) (v := ?v172) rfl (by kernel_rfl) (by kernel_rfl) (by kernel_rfl) (fun _ _ _ h => h) (Or.inl ⟨?w172, ?y172⟩) hHeld ?_
  case w172 => rfl
  case y172 => (intro w hSw; (try dsimp only at hSw); go_simp; first | done | with_reducible rfl)
  try simp only [Act.put]
  refine wpAnyH_take (i := 10) (v := ?v173) rfl (by kernel_rfl) (by kernel_rfl) (by kernel_rfl) (fun _ _ _ h => h) (Or.inl ⟨?w173, ?y173⟩) hHeld ?_
  case w173 => rfl
  case y173 => (intro w hSw; (try dsimp only at hSw); go_simp; first | done | with_reducible rfl)
  try simp only [Act.put]
  refine wpAnyH_take (i := 11) (v := ?v174) rfl (by kernel_rfl) (by kernel_rfl) (by kernel_rfl) (fun _ _ _ h => h) (Or.inl ⟨?w174, ?y174⟩) hHeld ?_
  case w174 => rfl
  case y174 => (intro w hSw; (try dsimp only at hSw); go_simp; first | done | with_reducible rfl)
  try simp only [Act.put]
  refine wpAnyH_take (i := 12) (v := ?v175) rfl (by kernel_rfl) (by kernel_rfl) (by kernel_rfl) (fun _ _ _ h => h) (Or.inl ⟨?w175, ?y175⟩) hHeld ?_
  case w175 => rfl
  case y175 => (intro w hSw; (try dsimp only at hSw); go_simp; first | done | with_reducible rfl)
  try simp only [Act.put]
  refine wpAnyH_ready (rs := [13]) (by kernel_rfl) (by simp) ?_
  refine AllReadyH.cons rfl (fun K hK => ?_) AllReadyH.nil
  go_simp
  refine hK.out _ _ ?_ (fun hHeld => ?_)
  · exact (hHeld.1.below (below_bytesWorld _ _ _)).held
  clear hK K
  try simp only [Act.put, List.setIfInBounds_toArray, List.set_cons_zero, List.set_cons_succ]
  refine wpAnyH_ready (rs := [14]) (by kernel_rfl) (by simp) ?_
  refine AllReadyH.cons rfl (fun K hK => ?_) AllReadyH.nil
  go_simp
  go_at_call 61
  refine (HRV.out _ _ _ (by have := RB.of_bytesWorld w2.drew 5 r (by have := HRL.out; unfold maxLen; omega); rw [HRL.out] at this; exact this)).mono ?_
  rintro e w3 ⟨rfl, rfl⟩
  go_wp2_with fail
  refine hK.out _ _ ?_ (fun hHeld => ?_)
  · exact hHeld
  clear hK K
  try simp only [Act.put, List.setIfInBounds_toArray, List.set_cons_zero, List.set_cons_succ]
  refine wpAnyH_take (i := 15) (v := ?v176) rfl (by kernel_rfl) (by kernel_rfl) (by kernel_rfl) (fun _ _ _ h => h) (Or.inl ⟨?w176, ?y176⟩) hHeld ?_
  case w176 => rfl
  case y176 => (intro w hSw; (try dsimp only at hSw); go_simp; first | done | with_reducible rfl)
  try simp only [Act.put, List.setIfInBounds_toArray]
  refine wpAnyH_take (i := 16) (v := ?v177) rfl (by kernel_rfl) (by kernel_rfl) (by kernel_rfl) (fun _ _ _ h => h) (Or.inl ⟨?w177, ?y177⟩) hHeld ?_
  case w177 => rfl
  case y177 => (intro w hSw; (try dsimp only at hSw); go_simp; first | done | with_reducible rfl)
  try simp only [Act.put]
  refine wpAnyH_take (i := 17) (v := ?v178) rfl (by kernel_rfl) (by kernel_rfl) (by kernel_rfl) (fun _ _ _ h => h) (Or.inl ⟨?w178, ?y178⟩) hHeld ?_
  case w178 => rfl
  case y178 => (intro w hSw; (try dsimp only at hSw); go_simp; first | done | with_reducible rfl)
  try simp only [Act.put]
  refine wpAnyH_take (i := 18) (v := ?v179) rfl (by kernel_rfl) (by kernel_rfl) (by kernel_rfl) (fun _ _ _ h => h) (Or.inl ⟨?w179, ?y179⟩) hHeld ?_
  case w179 => rfl
  case y179 => (intro w hSw; (try dsimp only at hSw); go_simp; first | done | with_reducible rfl)
  try simp only [Act.put]
  refine wpAnyH_take (i := 19) (v := ?v180) rfl (by kernel_rfl) (by kernel_rfl) (by kernel_rfl) (fun _ _ _ h => h) (Or.inl ⟨?w180, ?y180⟩) hHeld ?_
  case w180 => rfl
  case y180 => (intro w hSw; (try dsimp only at hSw); go_simp; first | done | with_reducible rfl)
  try simp only [Act.put]
  refine wpAnyH_take (i := 20) (v := ?v181) rfl (by kernel_rfl) (by kernel_rfl) (by kernel_rfl) (fun _ _ _ h => h) (Or.inl ⟨?w181, ?y181⟩) hHeld ?_
  case w181 => rfl
  case y181 => (intro w hSw; (try dsimp only at hSw); go_simp; first | done | with_reducible rfl)
  try simp only [Act.put]
  refine wpAnyH_take (i := 21) (v := ?v182) rfl (by kernel_rfl) (by kernel_rfl) (by kernel_rfl) (fun _ _ _ h => h) (Or.inl ⟨?w182, ?y182⟩) hHeld ?_
  case w182 => rfl
  case y182 => (intro w hSw; (try dsimp only at hSw); go_simp; first | done | with_reducible rfl)
  try simp only [Act.put]
  refine wpAnyH_done (by kernel_rfl) ?_ _
  refine NoPanic.normal ?_
  have hc4 := hHeld.1
  clear hHeld hc3
  generalize hw4 : Lib.bytesWorld _ _ _ = w4 at hc4 ⊢
  clear hw4
  obtain ⟨c0, c1, c2, p2, p3, p5⟩ := hc4.2.2.cells
  replace HC2 := Lib.hid hc4
  clear hc4
  go_wp2_with fail
  go_quiet (fail)
  go_wp2_with fail
  go_quiet (fail)
  go_wp2_with fail
  clear c0 c1 c2 p2 p3 p5
  refine (HV.out _ ?b1).mono ?_
  case b1 => first | exact below_drewN HC2.out.1 _ | exact below_drewN (below_drewN HC2.out.1 _) _
  rintro e w5 ⟨s5, rfl, hb5⟩
  have hc5 : Car K w w5 q l p (vc.length + 1) g nm code (-1) (.iface 147 (.agg #[.func (Fn.func a) #[] #[], .func (Fn.func b) #[] #[], .func (Fn.func f) #[] #[]])) vc := by first | exact (HC2.out.drewN _).below hb5 | exact ((HC2.out.drewN _).drewN _).below hb5
  obtain ⟨c0, c1, c2, p2, p3, p5⟩ := hc5.2.2.cells
  have HC5 := Lib.hid hc5
  clear hb5 hc5
  go_wp2_with fail
  clear c0 c1 c2 p2 p3 p5
  have hc6 := HC5.out
  refine wp_region_noPanic ?_
  refine wp_region_held_drew (S := (fun w' => Car K w w' q l p (vc.length + 1) g nm code (-1) (.iface 147 (.agg #[.func (Fn.func a) #[] #[], .func (Fn.func b) #[] #[], .func (Fn.func f) #[] #[]])) vc ∧ w'.cell? ⟨q, 0, none⟩ = some (.string ⟨l.toArray⟩) ∧ w'.cell? ⟨q, 1, none⟩ = some (.pointer (some ⟨p, 0, none⟩)) ∧ w'.cell? ⟨q, 2, none⟩ = some (.int .i64 ((vc.length + 1) : Nat)) ∧ w'.cell? ⟨p, 2, none⟩ = some (.slice (some ⟨g, 0, none⟩) vc.length vc.length) ∧ w'.cell? ⟨p, 3, none⟩ = some (.int .i64 (-1)) ∧ w'.cell? ⟨p, 5, none⟩ = some (.iface 147 (.agg #[.func (Fn.func a) #[] #[], .func (Fn.func b) #[] #[], .func (Fn.func f) #[] #[]])))) (by kernel_rfl) ?_ (fun hHeld => ?_)
  · exact hc6.drew.held
  refine wpAnyH_take (i := 0) (v := ?v183) rfl (by kernel_rfl) (by kernel_rfl) (by kernel_rfl) (fun _ _ _ h => h) (Or.inl ⟨?w183, ?y183⟩) hHeld ?_
  case w183 => rfl
  case y183 => (intro w hSw; (try dsimp only at hSw); go_simp; first | done | with_reducible rfl)
  try simp only [Act.put, List.setIfInBounds_toArray]
  refine wpAnyH_take (i := 1) (v := ?v184) rfl (by kernel_rfl) (by kernel_rfl) (by kernel_rfl) (fun _ _ _ h => h) (Or.inl ⟨?w184, ?y184⟩) hHeld ?_
  case w184 => rfl
  case y184 => (intro w hSw; (try dsimp only at hSw); go_simp; first | done | with_reducible rfl)
  try simp only [Act.put]
  refine wpAnyH_take (i := 2) (v := ?v185) rfl (by kernel_rfl) (by kernel_rfl) (by kernel_rfl) (fun _ _ _ h => h) (Or.inl ⟨?w185, ?y185⟩) hHeld ?_
  case w185 => rfl
  case y185 => (intro w hSw; (try dsimp only at hSw); go_simp; first | done | with_reducible rfl)
  try simp only [Act.put]
  refine wpAnyH_take (i := 3) (v := ?v186) rfl (by kernel_rfl) (by kernel_rfl) (by kernel_rfl) (fun _ _ _ h => h) (Or.inl ⟨?w186, ?y186⟩) hHeld ?_
  case w186 => rfl
  case y186 => (intro w hSw; (try dsimp only at hSw); go_simp; first | done | with_reducible rfl)
  try simp only [Act.put]
  refine wpAnyH_take (i := 4) (v := ?v187) rfl (by kernel_rfl) (by kernel_rfl) (by kernel_rfl) (fun _ _ _ h => h) (Or.inl ⟨?w187, ?y187⟩) hHeld ?_
  case w187 => rfl
  case y187 => (intro w hSw; (try dsimp only at hSw); go_simp; first | done | with_reducible rfl)
  try simp only [Act.put]
  refine wpAnyH_take (i := 5) (v := ?v188) rfl (by kernel_rfl) (by kernel_rfl) (by kernel_rfl) (fun _ _ _ h => h) (Or.inl ⟨?w188, ?y188⟩) hHeld ?_
  case w188 => rfl
  case y188 => (intro w hSw; (try dsimp only at hSw); go_simp; first | done | with_reducible rfl)
  try simp only [Act.put]
  refine wpAnyH_take (i := 6) (v := ?v189) rfl (by kernel_rfl) (by kernel_rfl) (by kernel_rfl) (fun _ _ _ h => h) (Or.inl ⟨?w189, ?y189⟩) hHeld ?_
  case w189 => rfl
  case y189 => (intro w hSw; (try dsimp only at hSw); go_simp; first | done | with_reducible rfl)
  try simp only [Act.put]
  refine wpAnyH_take (i := 7) (v := ?v190) rfl (by kernel_rfl) (by kernel_rfl) (by kernel_rfl) (fun _ _ _ h => h) (Or.inl ⟨?w190, ?y190⟩) hHeld ?_
  case w190 => rfl
  case y190 => (intro w hSw; (try dsimp only at hSw); go_simp; first | done | with_reducible rfl)
  try simp only [Act.put]
  refine wpAnyH_take (i := 8) (v := ?v191) rfl (by kernel_rfl) (by kernel_rfl) (by kernel_rfl) (fun _ _ _ h => h) (Or.inl ⟨?w191, ?y191⟩) hHeld ?_
  case w191 => rfl
  case y191 => (intro w hSw; (try dsimp only at hSw); go_simp; first | done | with_reducible rfl)
  try simp only [Act.put]
  refine wpAnyH_take (i := 9) (v := ?v192) rfl (by kernel_rfl) (by kernel_rfl) (by kernel_rfl) (fun _ _ _ h => h) (Or.inl ⟨?w192, ?y192⟩) hHeld ?_
  case w192 => rfl
  case y192 => (intro w hSw; (try dsimp only at hSw); go_simp; first | done | with_reducible rfl)
  try simp only [Act.put]
  refine wpAnyH_take (i := 10) (v := ?v193) rfl (by kernel_rfl) (by kernel_rfl) (by kernel_rfl) (fun _ _ _ h => h) (Or.inl ⟨?w193, ?y193⟩) hHeld ?_
  case w193 => rfl
  case y193 => (intro w hSw; (try dsimp only at hSw); go_simp; first | done | with_reducible rfl)
  try simp only [Act.put]
  refine wpAnyH_take (i := 11) (v := ?v194) rfl (by kernel_rfl) (by kernel_rfl) (by kernel_rfl) (fun _ _ _ h => h) (Or.inl ⟨?w194, ?y194⟩) hHeld ?_
  case w194 => rfl
  case y194 => (intro w hSw; (try dsimp only at hSw); go_simp; first | done | with_reducible rfl)
  try simp only [Act.put]
  refine wpAnyH_take (i := 12) (v := ?v195) rfl (by kernel_rfl) (by kernel_rfl) (by kernel_rfl) (fun _ _ _ h => h) (Or.inl ⟨?w195, ?y195⟩) hHeld ?_
  case w195 => rfl
  case y195 => (intro w hSw; (try dsimp only at hSw); go_simp; first | done | with_reducible rfl)
  try simp only [Act.put]
  refine wpAnyH_take (i := 13) (v := ?v196) rfl (by kernel_rfl) (by kernel_rfl) (by kernel_rfl) (fun _ _ _ h => h) (Or.inl ⟨?w196, ?y196⟩) hHeld ?_
  case w196 => rfl
  case y196 => (intro w hSw; (try dsimp only at hSw); go_simp; first | done | with_reducible rfl)
  try simp only [Act.put]
  refine wpAnyH_take (i := 14) (v := ?v197) rfl (by kernel_rfl) (by kernel_rfl) (by kernel_rfl) (fun _ _ _ h => h) (Or.inl ⟨?w197, ?y197⟩) hHeld ?_
  case w197 => rfl
  case y197 => (intro w hSw; (try dsimp only at hSw); go_simp; first | done | with_reducible rfl)
  try simp only [Act.put]
  refine wpAnyH_take (i := 15) (v := ?v198) rfl (by kernel_rfl) (by kernel_rfl) (by kernel_rfl) (fun _ _ _ h => h) (Or.inl ⟨?w198, ?y198⟩) hHeld ?_
  case w198 => rfl
  case y198 => (intro w hSw; (try dsimp only at hSw); go_simp; first | done | with_reducible rfl)
  try simp only [Act.put]
  refine wpAnyH_take (i := 17) (v := ?v199) rfl (by kernel_rfl) (by kernel_rfl) (by kernel_rfl) (fun _ _ _ h => h) (Or.inl ⟨?w199, ?y199⟩) hHeld ?_
  case w199 => rfl
  case y199 => (intro w hSw; (try dsimp only at hSw); go_simp; first | done | with_reducible rfl)
  try simp only [Act.put]
  refine wpAnyH_take (i := 18) (v := ?v200) rfl (by kernel_rfl) (by kernel_rfl) (by kernel_rfl) (fun _ _ _ h => h) (Or.inl ⟨?w200, ?y200⟩) hHeld ?_
  case w200 => rfl
  case y200 => (intro w hSw; (try dsimp only at hSw); go_simp; first | done | with_reducible rfl)
  try simp only [Act.put]
  refine wpAnyH_ready (rs := [16]) (by kernel_rfl) (by simp) ?_
  refine AllReadyH.cons rfl (fun K hK => ?_) AllReadyH.nil
  go_simp
  refine hK.out _ _ ?_ (fun hHeld => ?_)
  · exact (hHeld.1.below (below_bytesWorld _ _ _)).held
  clear hK K
  try simp only [Act.put, List.setIfInBounds_toArray, List.set_cons_zero, List.set_cons_succ]
  refine wpAnyH_ready (rs := [19]) (by kernel_rfl) (by simp) ?_
  refine AllReadyH.cons rfl (fun K hK => ?_) AllReadyH.nil
  go_simp
  go_at_call 371
  refine (twrp_val_func a b f _ _ _ _ HE.out (fun w8 hb8 => HVF.out w8 _ _ ((RB.of_bytesWorld w5.drew 5 d (by unfold maxLen; omega)).next hb8))).mono ?_
  rintro e w7 ⟨rfl, hb7⟩
  go_wp2_with fail
  refine hK.out _ _ ?_ (fun hHeld => ?_)
  · exact (hHeld.1.below hb7).held
  clear hK K
  try simp only [Act.put, List.setIfInBounds_toArray, List.set_cons_zero, List.set_cons_succ]
  refine wpAnyH_take (i := 20) (v := ?v201) rfl (by kernel_rfl) (by kernel_rfl) (by kernel_rfl) (fun _ _ _ h => h) (Or.inl ⟨?w201, ?y201⟩) hHeld ?_
  case w201 => rfl
  case y201 => (intro w hSw; (try dsimp only at hSw); go_simp; first | done | with_reducible rfl)
  try simp only [Act.put, List.setIfInBounds_toArray]
  refine wpAnyH_done (by kernel_rfl) ?_ _
  refine NoPanic.normal ?_
  have HCF := Lib.hid hHeld.1.1
  clear hHeld hb7 hc6
  go_wp2_with fail
  go_ret
  exact ⟨rfl, HCF.out⟩
end Go.Proofs.YtghddiboggdhcaaGreatDoor
