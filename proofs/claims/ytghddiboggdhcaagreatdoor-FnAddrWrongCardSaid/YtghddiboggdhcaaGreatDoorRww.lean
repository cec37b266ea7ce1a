/- FnAddrWrong: the row, over the listed package variables. -/
import Derived.Test.YtghddiboggdhcaaGreatDoorRwv
import Derived.Test.YtghddiboggdhcaaGreatDoorPv
import Derived.Test.YtghddiboggdhcaaGreatDoorRows
import Derived.ProofKit
import Derived.Lay
import Derived.LaidLaws
import Derived.LaidMore
import Derived.OpenShut
import Derived.Stop.Joined
import Derived.Carry
import Derived.Lib.LaidTab
namespace Go.Proofs.YtghddiboggdhcaaGreatDoor
open Go Go.ChangeShapes Go.WideShapes Go.ChangeAt Go.WideMaps Go.WideElems Go.RowKit
theorem ownK : ownKnob Tryz.prog.godebug = none := by kernel_rfl
theorem laidOut : laidOutB Tryz.prog = true := by kernel_rfl
set_option maxRecDepth 100000 in
set_option maxHeartbeats 2000000 in
theorem lifted (os : Os) (started : os.Started) (H : Type) (enc : TypeId × Value → H) :
    ReturnsInHanded {} Tryz.checked os 3 .any (fun w args => (Rows.fnAddrWrongSpec.pre enc Tryz.prog Tryz.f3 [] false w args ∧ laidMetH Tryz.prog tabsW w) ∧ sizedMet enc Tryz.prog Tryz.f3 (OpenSpec.ofChange Rows.fnAddrWrongSpec) false w args)
      (Rows.fnAddrWrongSpec.post enc Tryz.prog Tryz.f3 false true false false) := by
  refine returnsInHanded_of_change_and (C := Tryz.checked) (X := fun w _ => laidMetH Tryz.prog tabsW w) (fun _ _ _ hh h => h.of_heap hh) ownK started (by kernel_rfl) Tryz.func3
    (ChangeSpec.witness_shaped (enc := enc) (C := Tryz.checked) (os := os) (X := fun w _ => laidMetH Tryz.prog tabsW w) false (laidWorld os) #[.slice none 0 0] 8 (World.laidAll_os _ _ _) (World.shaped_of_ZipB (by kernel_rfl) (by kernel_rfl)) (by kernel_rfl) (by kernel_rfl) (by kernel_rfl) (laid_met os _)) ?_
  intro W base args ds gs before hval0 hW _ _ hL _
  have hW' := hW
  obtain ⟨p, q, hA0, hV, rfl, hfz, hnd⟩ := hW
  have hA : DataW.TrodAll enc Tryz.prog W 0 (fun _ => true) true Tryz.f3.params.toList args.toList ds p := hA0
  rw [Tryz.params3] at hA
  obtain ⟨v0, d0, rfl, rfl, h0⟩ := trodAll_one hA
  obtain ⟨rfl, rfl⟩ := trodVars_none hV
  obtain ⟨A0, n0, c0, rfl⟩ := okWide_slice Tryz.underlying22 (hval0 0 22 v0 rfl rfl)
  have h0k := h0
  obtain ⟨fuel0, hf0⟩ := h0
  obtain ⟨A0', n0', c0', x0, hv0, hx0⟩ := bytes_of (v := .slice A0 n0 c0) hf0
  injection hv0 with e1 e2 e3
  subst e1 e2 e3
  obtain ⟨ht, hu⟩ := env_of hL
  simp only [List.append_nil] at hW'
  have hlt : ∀ x ∈ p, x.block < W.heap.size := fun x hx => by simpa using hW'.lt x hx
  refine (X.law_wrong (Nat.le_refl _) A0 n0 c0 x0 W ht hu hx0).mono ?_
  rintro e W' ⟨rfl, bel⟩
  exact ⟨_, rfl, post_of_below (pa := p) (pv := []) hW' (fun _ _ _ => trodAll_mk1 (shut_bool Tryz.underlying4 _))
    (fun sp hsp => trodAll_mk1 (WideElems.Trod_stays laidOut (by kernel_rfl) (of_decide_eq_true (by kernel_rfl)) h0k (fun x hx => bel.same (hlt x (by simp [hx]))) (fun x hx => hsp x (by simp [hx]))))
    (fun _ _ => rfl) (by simp) bel (ok_one (by kernel_rfl) rfl (okWide_bool_mk Tryz.underlying4 _))⟩
end Go.Proofs.YtghddiboggdhcaaGreatDoor
