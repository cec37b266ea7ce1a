/- A component of a known protocol stands its check. -/
import Derived.Test.YtghddiboggdhcaaGreatDoorPj
set_option maxRecDepth 100000
set_option maxHeartbeats 4000000
namespace Go.Proofs.YtghddiboggdhcaaGreatDoor
open Go.RowKit
variable {K : Nat}
attribute [local go_sem ↓] Go.wp_at_zero Go.wp_at_succ
theorem validate_fix2 (q : Nat) (l vc d : List UInt8) (p g : Nat) (nm : ByteArray) (code : Int) (a b : Nat) (w : World) (ht : Tab K w) (hC : Cmp w q l p vc.length g nm code 16 (.iface 147 (.agg #[.func (Fn.func a) #[] #[], .func (Fn.func b) #[] #[], .nilFunc])) vc) (hm0 : 0 < vc.length) (hm : vc.length ≤ 10) (hs : d.length = 2) (hl : l = vc ++ (d))
    (hval : ∀ w1, Below w.heap.size w w1 → Calls Tryz.prog 70 #[.pointer (some ⟨q, 0, none⟩)] w1 (OutSE w1)) :
    Calls Tryz.prog 64 #[.pointer (some ⟨q, 0, none⟩)] w (OutN w) := by
  have hlen : l.length = vc.length + 2 := by rw [hl]; simp [hs]
  have hd1 : l.drop vc.length = d := by rw [hl, List.drop_left]
  have ht0 : l.take vc.length = vc := by rw [hl, List.take_left]
  have hsz := size_toArray l
  rw [hlen] at hsz
  have kt := extract_take l vc.length
  rw [ht0] at kt
  have kx := extract_drop l vc.length
  rw [hd1, hlen] at kx
  have hzd := size_toArray d
  rw [hs] at hzd
  have hzv := size_toArray vc
  have hcv := fun (w : World) (L : List UInt8) => Lib.run_convert_string_bytes (P := Tryz.prog) w 9 22 5 ⟨L.toArray⟩ Tryz.underlying9 Tryz.underlying22 Tryz.underlying5
  have cv0 := fun w => hcv w vc
  rw [hzv] at cv0
  have cv1 := fun w => hcv w d
  rw [hzd] at cv1
  have hmeth := fun (n : Nat) (w : World) => method_val a b .nilFunc n w
  have HV := Lib.hid hval
  have HS := Lib.hid hs
  have hcar : Car K w w q l p vc.length g nm code 16 (.iface 147 (.agg #[.func (Fn.func a) #[] #[], .func (Fn.func b) #[] #[], .nilFunc])) vc := ⟨Below.refl _ _, ht, hC⟩
  obtain ⟨c0, c1, c2, p2, p3, p5⟩ := hC.cells
  have HCar := Lib.hid hcar
  clear hcar hC hl hlen hd1 ht0 hval hcv ht hs
  go_enter Tryz.func64, Tryz.ntmps64
  go_wp2_with fail
  go_quiet (fail)
  go_wp2_with fail
  go_quiet (fail)
  go_wp2_with fail
  clear c0 c1 c2 p2 p3 p5
  refine wp_gen (fun w1 => Car K w w1 q l p vc.length g nm code 16 (.iface 147 (.agg #[.func (Fn.func a) #[] #[], .func (Fn.func b) #[] #[], .nilFunc])) vc) (by first | exact HCar.out.drewN _ | exact (HCar.out.drewN _).drewN _) ?_
  intro w1 hc1
  refine wp_region_noPanic ?_
  refine wp_region_held_drew (S := (fun w' => Car K w w' q l p vc.length g nm code 16 (.iface 147 (.agg #[.func (Fn.func a) #[] #[], .func (Fn.func b) #[] #[], .nilFunc])) vc ∧ w'.cell? ⟨q, 0, none⟩ = some (.string ⟨l.toArray⟩) ∧ w'.cell? ⟨q, 1, none⟩ = some (.pointer (some ⟨p, 0, none⟩)) ∧ w'.cell? ⟨q, 2, none⟩ = some (.int .i64 (vc.length : Nat)) ∧ w'.cell? ⟨p, 2, none⟩ = some (.slice (some ⟨g, 0, none⟩) vc.length vc.length) ∧ w'.cell? ⟨p, 3, none⟩ = some (.int .i64 16) ∧ w'.cell? ⟨p, 5, none⟩ = some (.iface 147 (.agg #[.func (Fn.func a) #[] #[], .func (Fn.func b) #[] #[], .nilFunc])))) (by kernel_rfl) ?_ (fun hHeld => ?_)
  · exact hc1.drew.held
  refine wpAnyH_take (i := 0) (v := ?v41) rfl (by kernel_rfl) (by kernel_rfl) (by kernel_rfl) (fun _ _ _ h => h) (Or.inl ⟨?w41, ?y41⟩) hHeld ?_
  case w41 => rfl
  case y41 => (intro w hSw; (try dsimp only at hSw); go_simp; first | done | with_reducible rfl)
  try simp only [Act.put, List.setIfInBounds_toArray]
  refine wpAnyH_take (i := 1) (v := ?v42) rfl (by kernel_rfl) (by kernel_rfl) (by kernel_rfl) (fun _ _ _ h => h) (Or.inl ⟨?w42, ?y42⟩) hHeld ?_
  case w42 => rfl
  case y42 => (intro w hSw; (try dsimp only at hSw); go_simp; first | done | with_reducible rfl)
  try simp only [Act.put]
  refine wpAnyH_take (i := 2) (v := ?v43) rfl (by kernel_rfl) (by kernel_rfl) (by kernel_rfl) (fun _ _ _ h => h) (Or.inl ⟨?w43, ?y43⟩) hHeld ?_
  case w43 => rfl
  case y43 => (intro w hSw; (try dsimp only at hSw); go_simp; first | done | with_reducible rfl)
  try simp only [Act.put]
  refine wpAnyH_take (i := 3) (v := ?v44) rfl (by kernel_rfl) (by kernel_rfl) (by kernel_rfl) (fun _ _ _ h => h) (Or.inl ⟨?w44, ?y44⟩) hHeld ?_
  case w44 => rfl
  case y44 => (intro w hSw; (try dsimp only at hSw); go_simp; first | done | with_reducible rfl)
  try simp only [Act.put]
  refine wpAnyH_take (i := 4) (v := ?v45) rfl (by kernel_rfl) (by kernel_rfl) (by kernel_rfl) (fun _ _ _ h => h) (Or.inl ⟨?w45, ?y45⟩) hHeld ?_
  case w45 => rfl
  case y45 => (intro w hSw; (try dsimp only at hSw); go_simp; first | done | with_reducible rfl)
  try simp only [Act.put]
  refine wpAnyH_take (i := 5) (v := ?v46) rfl (by kernel_rfl) (by kernel_rfl) (by kernel_rfl) (fun _ _ _ h => h) (Or.inl ⟨?w46, ?y46⟩) hHeld ?_
  case w46 => rfl
  case y46 => (intro w hSw; (try dsimp only at hSw); go_simp; first | done | with_reducible rfl)
  try simp only [Act.put]
  refine wpAnyH_take (i := 6) (v := ?v47) rfl (by kernel_rfl) (by kernel_rfl) (by kernel_rfl) (fun _ _ _ h => h) (Or.inl ⟨?w47, ?y47⟩) hHeld ?_
  case w47 => rfl
  case y47 => (intro w hSw; (try dsimp only at hSw); go_simp; first | done | with_reducible rfl)
  try simp only [Act.put]
  refine wpAnyH_take (i := 7) (v := ?v48) rfl (by kernel_rfl) (by kernel_rfl) (by kernel_rfl) (fun _ _ _ h => h) (Or.inl ⟨?w48, ?y48⟩) hHeld ?_
  case w48 => rfl
  case y48 => (intro w hSw; (try dsimp only at hSw); go_simp; first | done | with_reducible rfl)
  try simp only [Act.put]
  refine wpAnyH_take (i := 8) (v := ?v49) rfl (by kernel_rfl) (by kernel_rfl) (by kernel_rfl) (fun _ _ _ h => h) (Or.inl ⟨?w49, ?y49⟩) hHeld ?_
  case w49 => rfl
  case y49 => (intro w hSw; (try dsimp only at hSw); go_simp; first | done | with_reducible rfl)
  try simp only [Act.put]
  refine wpAnyH_take (i := 9) (v := ?v50) rfl (by kernel_rfl) (by kernel_rfl) (by kernel_rfl) (fun _ _ _ h => h) (Or.inl ⟨?w50, ?y50⟩) hHeld ?_
  case w50 => rfl
  case y50 => (intro w hSw; (try dsimp only at hSw); go_simp; first | done | with_reducible rfl)
  try simp only [Act.put]
  refine wpAnyH_take (i := 10) (v := ?v51) rfl (by kernel_rfl) (by kernel_rfl) (by kernel_rfl) (fun _ _ _ h => h) (Or.inl ⟨?w51, ?y51⟩) hHeld ?_
  case w51 => rfl
  case y51 => (intro w hSw; (try dsimp only at hSw); go_simp; first | done | with_reducible rfl)
  try simp only [Act.put]
  refine wpAnyH_take (i := 11) (v := ?v52) rfl (by kernel_rfl) (by kernel_rfl) (by kernel_rfl) (fun _ _ _ h => h) (Or.inl ⟨?w52, ?y52⟩) hHeld ?_
  case w52 => rfl
  case y52 => (intro w hSw; (try dsimp only at hSw); go_simp; first | done | with_reducible rfl)
  try simp only [Act.put]
  refine wpAnyH_take (i := 12) (v := ?v53) rfl (by kernel_rfl) (by kernel_rfl) (by kernel_rfl) (fun _ _ _ h => h) (Or.inl ⟨?w53, ?y53⟩) hHeld ?_
  case w53 => rfl
  case y53 => (intro w hSw; (try dsimp only at hSw); go_simp; first | done | with_reducible rfl)
  try simp only [Act.put]
  refine wpAnyH_take (i := 14) (v := ?v54) rfl (by kernel_rfl) (by kernel_rfl) (by kernel_rfl) (fun _ _ _ h => h) (Or.inl ⟨?w54, ?y54⟩) hHeld ?_
  case w54 => rfl
  case y54 => (intro w hSw; (try dsimp only at hSw); go_simp; first | done | with_reducible rfl)
  try simp only [Act.put]
  refine wpAnyH_take (i := 15) (v := ?v55) rfl (by kernel_rfl) (by kernel_rfl) (by kernel_rfl) (fun _ _ _ h => h) (Or.inl ⟨?w55, ?y55⟩) hHeld ?_
  case w55 => rfl
  case y55 => (intro w hSw; (try dsimp only at hSw); go_simp; first | done | with_reducible rfl)
  try simp only [Act.put]
  refine wpAnyH_take (i := 16) (v := ?v56) rfl (by kernel_rfl) (by kernel_rfl) (by kernel_rfl) (fun _ _ _ h => h) (Or.inl ⟨?w56, ?y56⟩) hHeld ?_
  case w56 => rfl
  case y56 => (intro w hSw; (try dsimp only at hSw); go_simp; first | done | with_reducible rfl)
  try simp only [Act.put]
  refine wpAnyH_take (i := 17) (v := ?v57) rfl (by kernel_rfl) (by kernel_rfl) (by kernel_rfl) (fun _ _ _ h => h) (Or.inl ⟨?w57, ?y57⟩) hHeld ?_
  case w57 => rfl
  case y57 => (intro w hSw; (try dsimp only at hSw); go_simp; first | done | with_reducible rfl)
  try simp only [Act.put]
  refine wpAnyH_take (i := 18) (v := ?v58) rfl (by kernel_rfl) (by kernel_rfl) (by kernel_rfl) (fun _ _ _ h => h) (Or.inl ⟨?w58, ?y58⟩) hHeld ?_
  case w58 => rfl
  case y58 => (intro w hSw; (try dsimp only at hSw); go_simp; first | done | with_reducible rfl)
  try simp only [Act.put]
  refine wpAnyH_take (i := 19) (v := ?v59) rfl (by kernel_rfl) (by kernel_rfl) (by kernel_rfl) (fun _ _ _ h => h) (Or.inl ⟨?w59, ?y59⟩) hHeld ?_
  case w59 => rfl
  case y59 => (intro w hSw; (try dsimp only at hSw); go_simp; first | done | with_reducible rfl)
  try simp only [Act.put]
  refine wpAnyH_take (i := 20) (v := ?v60) rfl (by kernel_rfl) (by kernel_rfl) (by kernel_rfl) (fun _ _ _ h => h) (Or.inl ⟨?w60, ?y60⟩) hHeld ?_
  case w60 => rfl
  case y60 => (intro w hSw; (try dsimp only at hSw); go_simp; first | done | with_reducible rfl)
  try simp only [Act.put]
  refine wpAnyH_ready (rs := [13]) (by kernel_rfl) (by simp) ?_
  refine AllReadyH.cons rfl (fun K hK => ?_) AllReadyH.nil
  go_simp
  refine hK.out _ _ ?_ (fun hHeld => ?_)
  · exact (hHeld.1.below (below_bytesWorld _ _ _)).held
  clear hK K
  try simp only [Act.put, List.setIfInBounds_toArray, List.set_cons_zero, List.set_cons_succ]
  refine wpAnyH_ready (rs := [21]) (by kernel_rfl) (by simp) ?_
  refine AllReadyH.cons rfl (fun K hK => ?_) AllReadyH.nil
  go_simp
  go_at_call 12
  refine (equal_any _ _ _ _ _ _ vc vc _ (RB.of_bytesWorld _ 5 vc (by unfold maxLen; omega)) (RB.of_blk hHeld.1.2.2.vco (by unfold maxLen; omega))).mono ?_
  rintro e w2 ⟨rfl, rfl⟩
  go_wp2_with fail
  refine hK.out _ _ ?_ (fun hHeld => ?_)
  · exact hHeld
  clear hK K
  try simp only [Act.put, List.setIfInBounds_toArray, List.set_cons_zero, List.set_cons_succ]
  refine wpAnyH_take (i := 22) (v := ?v61) rfl (by kernel_rfl) (by kernel_rfl) (by kernel_rfl) (fun _ _ _ h => h) (Or.inl ⟨?w61, ?y61⟩) hHeld ?_
  case w61 => rfl
  case y61 => (intro w hSw; (try dsimp only at hSw); go_simp; first | done | with_reducible rfl)
  try simp only [Act.put, List.setIfInBounds_toArray]
  refine wpAnyH_done (by kernel_rfl) ?_ _
  refine NoPanic.normal ?_
  have hc2 := hHeld.1
  clear hHeld
  generalize hw2 : Lib.bytesWorld _ _ _ = w2 at hc2 ⊢
  clear hw2
  obtain ⟨c0, c1, c2, p2, p3, p5⟩ := hc2.2.2.cells
  have HC2 := Lib.hid hc2
  clear hc2
  go_wp2_with fail
  go_quiet (fail)
  go_wp2_with fail
  go_quiet (fail)
  go_wp2_with fail
  clear c0 c1 c2 p2 p3 p5
  refine (HV.out _ ?b1).mono ?_
  case b1 => first | exact below_drewN HC2.out.1 _ | exact below_drewN (below_drewN HC2.out.1 _) _
  rintro e w5 ⟨s5, rfl, hb5⟩
  have hc5 : Car K w w5 q l p vc.length g nm code 16 (.iface 147 (.agg #[.func (Fn.func a) #[] #[], .func (Fn.func b) #[] #[], .nilFunc])) vc := by first | exact (HC2.out.drewN _).below hb5 | exact ((HC2.out.drewN _).drewN _).below hb5
  obtain ⟨c0, c1, c2, p2, p3, p5⟩ := hc5.2.2.cells
  have HC5 := Lib.hid hc5
  clear hb5 hc5
  go_wp2_with fail
  clear c0 c1 c2 p2 p3 p5
  have hc6 := HC5.out
  refine wp_region_noPanic ?_
  refine wp_region_held_drew (S := (fun w' => Car K w w' q l p vc.length g nm code 16 (.iface 147 (.agg #[.func (Fn.func a) #[] #[], .func (Fn.func b) #[] #[], .nilFunc])) vc ∧ w'.cell? ⟨q, 0, none⟩ = some (.string ⟨l.toArray⟩) ∧ w'.cell? ⟨q, 1, none⟩ = some (.pointer (some ⟨p, 0, none⟩)) ∧ w'.cell? ⟨q, 2, none⟩ = some (.int .i64 (vc.length : Nat)) ∧ w'.cell? ⟨p, 2, none⟩ = some (.slice (some ⟨g, 0, none⟩) vc.length vc.length) ∧ w'.cell? ⟨p, 3, none⟩ = some (.int .i64 16) ∧ w'.cell? ⟨p, 5, none⟩ = some (.iface 147 (.agg #[.func (Fn.func a) #[] #[], .func (Fn.func b) #[] #[], .nilFunc])))) (by kernel_rfl) ?_ (fun hHeld => ?_)
  · exact hc6.drew.held
  refine wpAnyH_take (i := 0) (v := ?v62) rfl (by kernel_rfl) (by kernel_rfl) (by kernel_rfl) (fun _ _ _ h => h) (Or.inl ⟨?w62, ?y62⟩) hHeld ?_
  case w62 => rfl
  case y62 => (intro w hSw; (try dsimp only at hSw); go_simp; first | done | with_reducible rfl)
  try simp only [Act.put, List.setIfInBounds_toArray]
  refine wpAnyH_take (i := 1) (v := ?v63) rfl (by kernel_rfl) (by kernel_rfl) (by kernel_rfl) (fun _ _ _ h => h) (Or.inl ⟨?w63, ?y63⟩) hHeld ?_
  case w63 => rfl
  case y63 => (intro w hSw; (try dsimp only at hSw); go_simp; first | done | with_reducible rfl)
  try simp only [Act.put]
  refine wpAnyH_take (i := 2) (v := ?v64) rfl (by kernel_rfl) (by kernel_rfl) (by kernel_rfl) (fun _ _ _ h => h) (Or.inl ⟨?w64, ?y64⟩) hHeld ?_
  case w64 => rfl
  case y64 => (intro w hSw; (try dsimp only at hSw); go_simp; first | done | with_reducible rfl)
  try simp only [Act.put]
  refine wpAnyH_take (i := 3) (v := ?v65) rfl (by kernel_rfl) (by kernel_rfl) (by kernel_rfl) (fun _ _ _ h => h) (Or.inl ⟨?w65, ?y65⟩) hHeld ?_
  case w65 => rfl
  case y65 => (intro w hSw; (try dsimp only at hSw); go_simp; first | done | with_reducible rfl)
  try simp only [Act.put]
  refine wpAnyH_take (i := 4) (v := ?v66) rfl (by kernel_rfl) (by kernel_rfl) (by kernel_rfl) (fun _ _ _ h => h) (Or.inl ⟨?w66, ?y66⟩) hHeld ?_
  case w66 => rfl
  case y66 => (intro w hSw; (try dsimp only at hSw); go_simp; first | done | with_reducible rfl)
  try simp only [Act.put]
  refine wpAnyH_take (i := 5) (v := ?v67) rfl (by kernel_rfl) (by kernel_rfl) (by kernel_rfl) (fun _ _ _ h => h) (Or.inl ⟨?w67, ?y67⟩) hHeld ?_
  case w67 => rfl
  case y67 => (intro w hSw; (try dsimp only at hSw); go_simp; first | done | with_reducible rfl)
  try simp only [Act.put]
  refine wpAnyH_take (i := 6) (v := ?v68) rfl (by kernel_rfl) (by kernel_rfl) (by kernel_rfl) (fun _ _ _ h => h) (Or.inl ⟨?w68, ?y68⟩) hHeld ?_
  case w68 => rfl
  case y68 => (intro w hSw; (try dsimp only at hSw); go_simp; first | done | with_reducible rfl)
  try simp only [Act.put]
  refine wpAnyH_take (i := 7) (v := ?v69) rfl (by kernel_rfl) (by kernel_rfl) (by kernel_rfl) (fun _ _ _ h => h) (Or.inl ⟨?w69, ?y69⟩) hHeld ?_
  case w69 => rfl
  case y69 => (intro w hSw; (try dsimp only at hSw); go_simp; first | done | with_reducible rfl)
  try simp only [Act.put]
  refine wpAnyH_take (i := 8) (v := ?v70) rfl (by kernel_rfl) (by kernel_rfl) (by kernel_rfl) (fun _ _ _ h => h) (Or.inl ⟨?w70, ?y70⟩) hHeld ?_
  case w70 => rfl
  case y70 => (intro w hSw; (try dsimp only at hSw); go_simp; first | done | with_reducible rfl)
  try simp only [Act.put]
  refine wpAnyH_take (i := 9) (v := ?v71) rfl (by kernel_rfl) (by kernel_rfl) (by kernel_rfl) (fun _ _ _ h => h) (Or.inl ⟨?w71, ?y71⟩) hHeld ?_
  case w71 => rfl
  case y71 => (intro w hSw; (try dsimp only at hSw); go_simp; first | done | with_reducible rfl)
  try simp only [Act.put]
  refine wpAnyH_take (i := 10) (v := ?v72) rfl (by kernel_rfl) (by kernel_rfl) (by kernel_rfl) (fun _ _ _ h => h) (Or.inl ⟨?w72, ?y72⟩) hHeld ?_
  case w72 => rfl
  case y72 => (intro w hSw; (try dsimp only at hSw); go_simp; first | done | with_reducible rfl)
  try simp only [Act.put]
  refine wpAnyH_take (i := 11) (v := ?v73) rfl (by kernel_rfl) (by kernel_rfl) (by kernel_rfl) (fun _ _ _ h => h) (Or.inl ⟨?w73, ?y73⟩) hHeld ?_
  case w73 => rfl
  case y73 => (intro w hSw; (try dsimp only at hSw); go_simp; first | done | with_reducible rfl)
  try simp only [Act.put]
  refine wpAnyH_take (i := 12) (v := ?v74) rfl (by kernel_rfl) (by kernel_rfl) (by kernel_rfl) (fun _ _ _ h => h) (Or.inl ⟨?w74, ?y74⟩) hHeld ?_
  case w74 => rfl
  case y74 => (intro w hSw; (try dsimp only at hSw); go_simp; first | done | with_reducible rfl)
  try simp only [Act.put]
  refine wpAnyH_take (i := 13) (v := ?v75) rfl (by kernel_rfl) (by kernel_rfl) (by kernel_rfl) (fun _ _ _ h => h) (Or.inl ⟨?w75, ?y75⟩) hHeld ?_
  case w75 => rfl
  case y75 => (intro w hSw; (try dsimp only at hSw); go_simp; first | done | with_reducible rfl)
  try simp only [Act.put]
  refine wpAnyH_take (i := 14) (v := ?v76) rfl (by kernel_rfl) (by kernel_rfl) (by kernel_rfl) (fun _ _ _ h => h) (Or.inl ⟨?w76, ?y76⟩) hHeld ?_
  case w76 => rfl
  case y76 => (intro w hSw; (try dsimp only at hSw); go_simp; first | done | with_reducible rfl)
  try simp only [Act.put]
  refine wpAnyH_take (i := 15) (v := ?v77) rfl (by kernel_rfl) (by kernel_rfl) (by kernel_rfl) (fun _ _ _ h => h) (Or.inl ⟨?w77, ?y77⟩) hHeld ?_
  case w77 => rfl
  case y77 => (intro w hSw; (try dsimp only at hSw); go_simp; first | done | with_reducible rfl)
  try simp only [Act.put]
  refine wpAnyH_take (i := 17) (v := ?v78) rfl (by kernel_rfl) (by kernel_rfl) (by kernel_rfl) (fun _ _ _ h => h) (Or.inl ⟨?w78, ?y78⟩) hHeld ?_
  case w78 => rfl
  case y78 => (intro w hSw; (try dsimp only at hSw); go_simp; first | done | with_reducible rfl)
  try simp only [Act.put]
  refine wpAnyH_take (i := 18) (v := ?v79) rfl (by kernel_rfl) (by kernel_rfl) (by kernel_rfl) (fun _ _ _ h => h) (Or.inl ⟨?w79, ?y79⟩) hHeld ?_
  case w79 => rfl
  case y79 => (intro w hSw; (try dsimp only at hSw); go_simp; first | done | with_reducible rfl)
  try simp only [Act.put]
  refine wpAnyH_ready (rs := [16]) (by kernel_rfl) (by simp) ?_
  refine AllReadyH.cons rfl (fun K hK => ?_) AllReadyH.nil
  go_simp
  refine hK.out _ _ ?_ (fun hHeld => ?_)
  · exact (hHeld.1.below (below_bytesWorld _ _ _)).held
  clear hK K
  try simp only [Act.put, List.setIfInBounds_toArray, List.set_cons_zero, List.set_cons_succ]
  refine wpAnyH_ready (rs := [19]) (by kernel_rfl) (by simp) ?_
  refine AllReadyH.cons rfl (fun K hK => ?_) AllReadyH.nil
  go_simp
  go_at_call 371
  refine (twrp_val_nil a b _ _ _ _).mono ?_
  rintro e w7 ⟨rfl, hb7⟩
  go_wp2_with fail
  refine hK.out _ _ ?_ (fun hHeld => ?_)
  · exact (hHeld.1.below hb7).held
  clear hK K
  try simp only [Act.put, List.setIfInBounds_toArray, List.set_cons_zero, List.set_cons_succ]
  refine wpAnyH_take (i := 20) (v := ?v80) rfl (by kernel_rfl) (by kernel_rfl) (by kernel_rfl) (fun _ _ _ h => h) (Or.inl ⟨?w80, ?y80⟩) hHeld ?_
  case w80 => rfl
  case y80 => (intro w hSw; (try dsimp only at hSw); go_simp; first | done | with_reducible rfl)
  try simp only [Act.put, List.setIfInBounds_toArray]
  refine wpAnyH_done (by kernel_rfl) ?_ _
  refine NoPanic.normal ?_
  have HCF := Lib.hid hHeld.1.1
  clear hHeld hb7 hc6
  go_wp2_with fail
  go_ret
  exact ⟨rfl, HCF.out⟩
end Go.Proofs.YtghddiboggdhcaaGreatDoor
