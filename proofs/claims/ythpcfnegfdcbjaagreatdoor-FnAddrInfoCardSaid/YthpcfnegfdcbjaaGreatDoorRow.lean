/- FnAddrInfo: the row, over the three listed tables. -/
import Derived.Test.YthpcfnegfdcbjaaGreatDoorPv
import Derived.Test.YthpcfnegfdcbjaaGreatDoorRows
import Derived.ProofKit
import Derived.Lay
import Derived.LaidLaws
import Derived.LaidMore
import Derived.OpenShut
import Derived.Stop.Joined
import Derived.Carry
import Derived.Lib.LaidTab
namespace Go.Proofs.YthpcfnegfdcbjaaGreatDoor
open Go Go.ChangeShapes Go.WideShapes Go.ChangeAt Go.WideMaps Go.WideElems Go.RowKit
theorem ownK : ownKnob Tryz.prog.godebug = none := by kernel_rfl
theorem laidOut : laidOutB Tryz.prog = true := by kernel_rfl
abbrev tabs4 : List (String × DataW Unit) := [("math/bits.deBruijn32tab", Rows.laid_math_bits_deBruijn32tab), ("math/bits.deBruijn64tab", Rows.laid_math_bits_deBruijn64tab), ("internal/strconv.uint64pow10", Rows.laid_internal_strconv_uint64pow10), ("pub-symmory/pub/libp2p/core/peer.ErrInvalidAddr", Rows.laid_pub_symmory_pub_libp2p_core_peer_ErrInvalidAddr)]
theorem pow_data : Rows.laid_internal_strconv_uint64pow10 (H := Unit) = Lib.tabData .u64 Lib.pow10Tab := by rfl
/-- What the condition gives the walk: the table of powers of ten, and the error. -/
theorem tab_of {W : World} (h : laidMetH Tryz.prog tabs4 W) : Tab 65536 W ∧ Inv W := by
  rw [MakeChecks.laidMetH_plain _ _ _ (by kernel_rfl)] at h
  obtain ⟨ps, ⟨g0, t0, cs0, f0, p0, q0, _, _, _, _, ⟨g1, t1, cs1, f1, p1, q1, _, _, _, _, ⟨g2, t2, cs2, f2, p2, q2, hg2, ht2, hv2, hd2, ⟨g3, t3, cs3, f3, p3, q3, hg3, ht3, hv3, hd3, _, _⟩, _⟩, _⟩, _⟩, _⟩ := h
  have hg : Tryz.prog.globalNamed "internal/strconv.uint64pow10" = some 15 := by kernel_rfl
  have hty : (Tryz.prog.globals[15]?).map (·.type) = some 320 := by kernel_rfl
  have hgu : Tryz.prog.globalNamed "pub-symmory/pub/libp2p/core/peer.ErrInvalidAddr" = some 0 := by kernel_rfl
  have htu : (Tryz.prog.globals[0]?).map (·.type) = some 56 := by kernel_rfl
  obtain rfl := Option.some.inj (hg.symm.trans hg2)
  obtain rfl := Option.some.inj (hty.symm.trans ht2)
  obtain rfl := Option.some.inj (hgu.symm.trans hg3)
  obtain rfl := Option.some.inj (htu.symm.trans ht3)
  refine ⟨⟨fun _ => ?_⟩, ?_⟩
  · unfold Lib.TabIs
    rw [pow_data] at hd2
    rw [hv2, ← Lib.cells_of_tab Tryz.underlying320 Tryz.underlying132 (by kernel_rfl) (by kernel_rfl) hd2]
  · obtain ⟨_, u, v, hcs, _, _⟩ := iface_of_trod Tryz.underlying56 hd3
    have := World.var?_cell hgu hv3 0
    obtain ⟨l⟩ := cs3
    have hl : l = [.iface u v] := hcs
    subst hl
    exact ⟨u, v, this⟩
/-- The witness: a settled world in which the listed variables hold what they are listed with. -/
noncomputable def laidWorld (os : Os) : World := World.laidAll Tryz.prog os tabs4
theorem laid_met (os : Os) (args : Array Value) : laidMetH Tryz.prog tabs4 ((laidWorld os).forCall (fun _ _ => 0) ⟨#[], args, []⟩).memory := by
  rw [MakeChecks.laidMetH_plain _ _ _ (by kernel_rfl)]
  exact laidMet_laidAll _ (by kernel_rfl) (by kernel_rfl)
set_option maxRecDepth 100000 in
set_option maxHeartbeats 2000000 in
theorem lifted (os : Os) (started : os.Started) (H : Type) (enc : TypeId × Value → H) :
    ReturnsInHanded {} Tryz.checked os 3 .any (fun w args => (Rows.fnAddrInfoSpec.pre enc Tryz.prog Tryz.f3 [] false w args ∧ laidMetH Tryz.prog tabs4 w) ∧ sizedMet enc Tryz.prog Tryz.f3 (OpenSpec.ofChange Rows.fnAddrInfoSpec) false w args)
      (Rows.fnAddrInfoSpec.post enc Tryz.prog Tryz.f3 false true false false) := by
  refine returnsInHanded_of_change_and (C := Tryz.checked) (X := fun w _ => laidMetH Tryz.prog tabs4 w) (fun _ _ _ hh h => h.of_heap hh) ownK started (by kernel_rfl) Tryz.func3
    (ChangeSpec.witness_shaped (enc := enc) (C := Tryz.checked) (os := os) (X := fun w _ => laidMetH Tryz.prog tabs4 w) false (laidWorld os) #[.slice none 0 0] 8 (World.laidAll_os _ _ _) (World.shaped_of_ZipB (by kernel_rfl) (by kernel_rfl)) (by kernel_rfl) (by kernel_rfl) (by kernel_rfl) (laid_met os _)) ?_
  intro W base args ds gs before hval0 hW _ _ hL _
  have hW' := hW
  obtain ⟨p, q, hA0, hV, rfl, hfz, hnd⟩ := hW
  have hA : DataW.TrodAll enc Tryz.prog W 0 (fun _ => true) true Tryz.f3.params.toList args.toList ds p := hA0
  rw [Tryz.params3] at hA
  obtain ⟨v0, d0, rfl, rfl, h0⟩ := trodAll_one hA
  obtain ⟨rfl, rfl⟩ := trodVars_none hV
  obtain ⟨A0, n0, c0, rfl⟩ := okWide_slice Tryz.underlying22 (hval0 0 22 v0 rfl rfl)
  have h0k := h0
  obtain ⟨fuel0, hf0⟩ := h0
  obtain ⟨A0', n0', c0', x0, hv0, hx0⟩ := hops_of (v := .slice A0 n0 c0) hf0
  injection hv0 with e1 e2 e3
  subst e1 e2 e3
  obtain ⟨ht, hu⟩ := tab_of hL
  simp only [List.append_nil] at hW'
  have hlt : ∀ x ∈ p, x.block < W.heap.size := fun x hx => by simpa using hW'.lt x hx
  refine (law_info A0 n0 c0 x0 W ht hu hx0).mono ?_
  rintro e W' ⟨rfl, bel⟩
  exact ⟨_, rfl, post_of_below (pa := p) (pv := []) hW' (fun _ _ _ => trodAll_mk1 (shut_bool Tryz.underlying4 _))
    (fun sp hsp => trodAll_mk1 (WideElems.Trod_stays laidOut (by kernel_rfl) (of_decide_eq_true (by kernel_rfl)) h0k (fun x hx => bel.same (hlt x (by simp [hx]))) (fun x hx => hsp x (by simp [hx]))))
    (fun _ _ => rfl) (by simp) bel (ok_one (by kernel_rfl) rfl (okWide_bool_mk Tryz.underlying4 _))⟩
end Go.Proofs.YthpcfnegfdcbjaaGreatDoor
