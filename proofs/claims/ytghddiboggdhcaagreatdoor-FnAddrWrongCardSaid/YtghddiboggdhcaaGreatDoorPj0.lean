/- A component of a known protocol stands its check. -/
import Derived.Test.YtghddiboggdhcaaGreatDoorPj
set_option maxRecDepth 100000
set_option maxHeartbeats 4000000
namespace Go.Proofs.YtghddiboggdhcaaGreatDoor
open Go.RowKit
variable {K : Nat}
attribute [local go_sem ↓] Go.wp_at_zero Go.wp_at_succ
theorem validate_fix0 (q : Nat) (l vc d : List UInt8) (p g : Nat) (nm : ByteArray) (code : Int) (w : World) (ht : Tab K w) (hC : Cmp w q l p vc.length g nm code 0 .nilIface vc) (hm0 : 0 < vc.length) (hm : vc.length ≤ 10) (hs : d.length = 0) (hl : l = vc ++ (d))
    (hval : ∀ w1, Below w.heap.size w w1 → Calls Tryz.prog 70 #[.pointer (some ⟨q, 0, none⟩)] w1 (OutSE w1)) :
    Calls Tryz.prog 64 #[.pointer (some ⟨q, 0, none⟩)] w (OutN w) := by
  have hlen : l.length = vc.length := by rw [hl]; simp [hs]
  have hd1 : l.drop vc.length = d := by rw [hl, List.drop_left]
  have ht0 : l.take vc.length = vc := by rw [hl, List.take_left]
  have hsz := size_toArray l
  rw [hlen] at hsz
  have kt := extract_take l vc.length
  rw [ht0] at kt
  have kx := extract_drop l vc.length
  rw [hd1, hlen] at kx
  have hzd := size_toArray d
  rw [hs] at hzd
  have hzv := size_toArray vc
  have hcv := fun (w : World) (L : List UInt8) => Lib.run_convert_string_bytes (P := Tryz.prog) w 9 22 5 ⟨L.toArray⟩ Tryz.underlying9 Tryz.underlying22 Tryz.underlying5
  have cv0 := fun w => hcv w vc
  rw [hzv] at cv0
  have cv1 := fun w => hcv w d
  rw [hzd] at cv1
  have HV := Lib.hid hval
  have HS := Lib.hid hs
  have hcar : Car K w w q l p vc.length g nm code 0 .nilIface vc := ⟨Below.refl _ _, ht, hC⟩
  obtain ⟨c0, c1, c2, p2, p3, p5⟩ := hC.cells
  have HCar := Lib.hid hcar
  clear hcar hC hl hlen hd1 ht0 hval hcv ht hs
  go_enter Tryz.func64, Tryz.ntmps64
  go_wp2_with fail
  go_quiet (fail)
  go_wp2_with fail
  go_quiet (fail)
  go_wp2_with fail
  clear c0 c1 c2 p2 p3 p5
  refine wp_gen (fun w1 => Car K w w1 q l p vc.length g nm code 0 .nilIface vc) (by first | exact HCar.out.drewN _ | exact (HCar.out.drewN _).drewN _) ?_
  intro w1 hc1
  refine wp_region_noPanic ?_
  refine wp_region_held_drew (S := (fun w' => Car K w w' q l p vc.length g nm code 0 .nilIface vc ∧ w'.cell? ⟨q, 0, none⟩ = some (.string ⟨l.toArray⟩) ∧ w'.cell? ⟨q, 1, none⟩ = some (.pointer (some ⟨p, 0, none⟩)) ∧ w'.cell? ⟨q, 2, none⟩ = some (.int .i64 (vc.length : Nat)) ∧ w'.cell? ⟨p, 2, none⟩ = some (.slice (some ⟨g, 0, none⟩) vc.length vc.length) ∧ w'.cell? ⟨p, 3, none⟩ = some (.int .i64 0) ∧ w'.cell? ⟨p, 5, none⟩ = some .nilIface)) (by kernel_rfl) ?_ (fun hHeld => ?_)
  · exact hc1.drew.held
  refine wpAnyH_take (i := 0) (v := ?v121) rfl (by kernel_rfl) (by kernel_rfl) (by kernel_rfl) (fun _ _ _ h => h) (Or.inl ⟨?w121, ?y121⟩) hHeld ?_
  case w121 => rfl
  case y121 => (intro w hSw; (try dsimp only at hSw); go_simp; first | done | with_reducible rfl)
  try simp only [Act.put, List.setIfInBounds_toArray]
  refine wpAnyH_take (i := 1) (v := ?v122) rfl (by kernel_rfl) (by kernel_rfl) (by kernel_rfl) (fun _ _ _ h => h) (Or.inl ⟨?w122, ?y122⟩) hHeld ?_
  case w122 => rfl
  case y122 => (intro w hSw; (try dsimp only at hSw); go_simp; first | done | with_reducible rfl)
  try simp only [Act.put]
  refine wpAnyH_take (i := 2) (v := ?v123) rfl (by kernel_rfl) (by kernel_rfl) (by kernel_rfl) (fun _ _ _ h => h) (Or.inl ⟨?w123, ?y123⟩) hHeld ?_
  case w123 => rfl
  case y123 => (intro w hSw; (try dsimp only at hSw); go_simp; first | done | with_reducible rfl)
  try simp only [Act.put]
  refine wpAnyH_take (i := 3) (v := ?v124) rfl (by kernel_rfl) (by kernel_rfl) (by kernel_rfl) (fun _ _ _ h => h) (Or.inl ⟨?w124, ?y124⟩) hHeld ?_
  case w124 => rfl
  case y124 => (intro w hSw; (try dsimp only at hSw); go_simp; first | done | with_reducible rfl)
  try simp only [Act.put]
  refine wpAnyH_take (i := 4) (v := ?v125) rfl (by kernel_rfl) (by kernel_rfl) (by kernel_rfl) (fun _ _ _ h => h) (Or.inl ⟨?w125, ?y125⟩) hHeld ?_
  case w125 => rfl
  case y125 => (intro w hSw; (try dsimp only at hSw); go_simp; first | done | with_reducible rfl)
  try simp only [Act.put]
  refine wpAnyH_take (i := 5) (v := ?v126) rfl (by kernel_rfl) (by kernel_rfl) (by kernel_rfl) (fun _ _ _ h => h) (Or.inl ⟨?w126, ?y126⟩) hHeld ?_
  case w126 => rfl
  case y126 => (intro w hSw; (try dsimp only at hSw); go_simp; first | done | with_reducible rfl)
  try simp only [Act.put]
  refine wpAnyH_take (i := 6) (v := ?v127) rfl (by kernel_rfl) (by kernel_rfl) (by kernel_rfl) (fun _ _ _ h => h) (Or.inl ⟨?w127, ?y127⟩) hHeld ?_
  case w127 => rfl
  case y127 => (intro w hSw; (try dsimp only at hSw); go_simp; first | done | with_reducible rfl)
  try simp only [Act.put]
  refine wpAnyH_take (i := 7) (v := ?v128) rfl (by kernel_rfl) (by kernel_rfl) (by kernel_rfl) (fun _ _ _ h => h) (Or.inl ⟨?w128, ?y128⟩) hHeld ?_
  case w128 => rfl
  case y128 => (intro w hSw; (try dsimp only at hSw); go_simp; first | done | with_reducible rfl)
  try simp only [Act.put]
  refine wpAnyH_take (i := 8) (v := ?v129) rfl (by kernel_rfl) (by kernel_rfl) (by kernel_rfl) (fun _ _ _ h => h) (Or.inl ⟨?w129, ?y129⟩) hHeld ?_
  case w129 => rfl
  case y129 => (intro w hSw; (try dsimp only at hSw); go_simp; first | done | with_reducible rfl)
  try simp only [Act.put]
  refine wpAnyH_take (i := 9) (v := ?v130) rfl (by kernel_rfl) (by kernel_rfl) (by kernel_rfl) (fun _ _ _ h => h) (Or.inl ⟨?w130, ?y130⟩) hHeld ?_
  case w130 => rfl
  case y130 => (intro w hSw; (try dsimp only at hSw); go_simp; first | done | with_reducible rfl)
  try simp only [Act.put]
  refine wpAnyH_take (i := 10) (v := ?v131) rfl (by kernel_rfl) (by kernel_rfl) (by kernel_rfl) (fun _ _ _ h => h) (Or.inl ⟨?w131, ?y131⟩) hHeld ?_
  case w131 => rfl
  case y131 => (intro w hSw; (try dsimp only at hSw); go_simp; first | done | with_reducible rfl)
  try simp only [Act.put]
  refine wpAnyH_take (i := 11) (v := ?v132) rfl (by kernel_rfl) (by kernel_rfl) (by kernel_rfl) (fun _ _ _ h => h) (Or.inl ⟨?w132, ?y132⟩) hHeld ?_
  case w132 => rfl
  case y132 => (intro w hSw; (try dsimp only at hSw); go_simp; first | done | with_reducible rfl)
  try simp only [Act.put]
  refine wpAnyH_take (i := 12) (v := ?v133) rfl (by kernel_rfl) (by kernel_rfl) (by kernel_rfl) (fun _ _ _ h => h) (Or.inl ⟨?w133, ?y133⟩) hHeld ?_
  case w133 => rfl
  case y133 => (intro w hSw; (try dsimp only at hSw); go_simp; first | done | with_reducible rfl)
  try simp only [Act.put]
  refine wpAnyH_take (i := 14) (v := ?v134) rfl (by kernel_rfl) (by kernel_rfl) (by kernel_rfl) (fun _ _ _ h => h) (Or.inl ⟨?w134, ?y134⟩) hHeld ?_
  case w134 => rfl
  case y134 => (intro w hSw; (try dsimp only at hSw); go_simp; first | done | with_reducible rfl)
  try simp only [Act.put]
  refine wpAnyH_take (i := 15) (v := ?v135) rfl (by kernel_rfl) (by kernel_rfl) (by kernel_rfl) (fun _ _ _ h => h) (Or.inl ⟨?w135, ?y135⟩) hHeld ?_
  case w135 => rfl
  case y135 => (intro w hSw; (try dsimp only at hSw); go_simp; first | done | with_reducible rfl)
  try simp only [Act.put]
  refine wpAnyH_take (i := 16) (v := ?v136) rfl (by kernel_rfl) (by kernel_rfl) (by kernel_rfl) (fun _ _ _ h => h) (Or.inl ⟨?w136, ?y136⟩) hHeld ?_
  case w136 => rfl
  case y136 => (intro w hSw; (try dsimp only at hSw); go_simp; first | done | with_reducible rfl)
  try simp only [Act.put]
  refine wpAnyH_take (i := 17) (v := ?v137) rfl (by kernel_rfl) (by kernel_rfl) (by kernel_rfl) (fun _ _ _ h => h) (Or.inl ⟨?w137, ?y137⟩) hHeld ?_
  case w137 => rfl
  case y137 => (intro w hSw; (try dsimp only at hSw); go_simp; first | done | with_reducible rfl)
  try simp only [Act.put]
  refine wpAnyH_take (i := 18) (v := ?v138) rfl (by kernel_rfl) (by kernel_rfl) (by kernel_rfl) (fun _ _ _ h => h) (Or.inl ⟨?w138, ?y138⟩) hHeld ?_
  case w138 => rfl
  case y138 => (intro w hSw; (try dsimp only at hSw); go_simp; first | done | with_reducible rfl)
  try simp only [Act.put]
  refine wpAnyH_take (i := 19) (v := ?v139) rfl (by kernel_rfl) (by kernel_rfl) (by kernel_rfl) (fun _ _ _ h => h) (Or.inl ⟨?w139, ?y139⟩) hHeld ?_
  case w139 => rfl
  case y139 => (intro w hSw; (try dsimp only at hSw); go_simp; first | done | with_reducible rfl)
  try simp only [Act.put]
  refine wpAnyH_take (i := 20) (v := ?v140) rfl (by kernel_rfl) (by kernel_rfl) (by kernel_rfl) (fun _ _ _ h => h) (Or.inl ⟨?w140, ?y140⟩) hHeld ?_
  case w140 => rfl
  case y140 => (intro w hSw; (try dsimp only at hSw); go_simp; first | done | with_reducible rfl)
  try simp only [Act.put]
  refine wpAnyH_ready (rs := [13]) (by kernel_rfl) (by simp) ?_
  refine AllReadyH.cons rfl (fun K hK => ?_) AllReadyH.nil
  go_simp
  refine hK.out _ _ ?_ (fun hHeld => ?_)
  · exact (hHeld.1.below (below_bytesWorld _ _ _)).held
  clear hK K
  try simp only [Act.put, List.setIfInBounds_toArray, List.set_cons_zero, List.set_cons_succ]
  refine wpAnyH_ready (rs := [21]) (by kernel_rfl) (by simp) ?_
  refine AllReadyH.cons rfl (fun K hK => ?_) AllReadyH.nil
  go_simp
  go_at_call 12
  refine (equal_any _ _ _ _ _ _ vc vc _ (RB.of_bytesWorld _ 5 vc (by unfold maxLen; omega)) (RB.of_blk hHeld.1.2.2.vco (by unfold maxLen; omega))).mono ?_
  rintro e w2 ⟨rfl, rfl⟩
  go_wp2_with fail
  refine hK.out _ _ ?_ (fun hHeld => ?_)
  · exact hHeld
  clear hK K
  try simp only [Act.put, List.setIfInBounds_toArray, List.set_cons_zero, List.set_cons_succ]
  refine wpAnyH_take (i := 22) (v := ?v141) rfl (by kernel_rfl) (by kernel_rfl) (by kernel_rfl) (fun _ _ _ h => h) (Or.inl ⟨?w141, ?y141⟩) hHeld ?_
  case w141 => rfl
  case y141 => (intro w hSw; (try dsimp only at hSw); go_simp; first | done | with_reducible rfl)
  try simp only [Act.put, List.setIfInBounds_toArray]
  refine wpAnyH_done (by kernel_rfl) ?_ _
  refine NoPanic.normal ?_
  have hc2 := hHeld.1
  clear hHeld
  generalize hw2 : Lib.bytesWorld _ _ _ = w2 at hc2 ⊢
  clear hw2
  obtain ⟨c0, c1, c2, p2, p3, p5⟩ := hc2.2.2.cells
  have HC2 := Lib.hid hc2
  clear hc2
  go_wp2_with fail
  go_quiet (fail)
  go_wp2_with fail
  go_quiet (fail)
  go_wp2_with fail
  clear c0 c1 c2 p2 p3 p5
  refine (HV.out _ ?b1).mono ?_
  case b1 => first | exact below_drewN HC2.out.1 _ | exact below_drewN (below_drewN HC2.out.1 _) _
  rintro e w5 ⟨s5, rfl, hb5⟩
  have hc5 : Car K w w5 q l p vc.length g nm code 0 .nilIface vc := by first | exact (HC2.out.drewN _).below hb5 | exact ((HC2.out.drewN _).drewN _).below hb5
  obtain ⟨c0, c1, c2, p2, p3, p5⟩ := hc5.2.2.cells
  have HC5 := Lib.hid hc5
  clear hb5 hc5
  go_wp2_with fail
  go_ret
  exact ⟨rfl, HC5.out.1⟩
end Go.Proofs.YtghddiboggdhcaaGreatDoor
