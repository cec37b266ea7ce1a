/- Components of the eight kinds stand their check. -/
import Derived.Test.YtkmieonfhcmimaaGreatDoorPh
import Derived.Test.YtkmieonfhcmimaaGreatDoorPj4
import Derived.Test.YtkmieonfhcmimaaGreatDoorPj2
import Derived.Test.YtkmieonfhcmimaaGreatDoorPjs
import Derived.Test.YtkmieonfhcmimaaGreatDoorPj0
import Derived.Test.YtkmieonfhcmimaaGreatDoorPjv
namespace Go.Proofs.YtkmieonfhcmimaaGreatDoor
open Go.RowKit
variable {K : Nat}
/-- A component of a kind, on the heap. -/
abbrev CmpK (w : World) (q : Nat) (l : List UInt8) (p vs g k : Nat) : Prop := Cmp w q l p vs g ⟨(protoOf k).name.toArray⟩ k (protoOf k).size (protoOf k).tc (protoOf k).vc
set_option maxHeartbeats 1000000 in
set_option maxRecDepth 100000 in
/-- The text of a multihash. -/
theorem p2pbts_any (g c : Nat) (b b2 : UInt8) (v : Nat) (l : List UInt8) (w : World) (h : RB w w.heap.size (some ⟨g, 0, none⟩) (l.length + 2) c (b :: b2 :: l)) (hv : b.toNat = v) (hb : v < 128) (hv2 : b2.toNat = l.length) (hb2 : l.length ≤ 42) :
    Calls Tryz.prog 198 #[.slice (some ⟨g, 0, none⟩) (l.length + 2) c] w (OutSE w) := by
  have HC := Lib.hid (cast_any _ c b b2 v l w h hv hb hv2 (by omega))
  have HB := Lib.hid h
  clear h hv hv2
  go_enter Tryz.func198, Tryz.ntmps198
  go_wp2_with fail
  refine HC.out.mono ?_
  rintro e w1 ⟨rfl, hb1⟩
  have HB1 := Lib.hid hb1
  clear hb1
  go_wp2_with fail
  refine (b58_any _ _ c (b :: b2 :: l) w1 (by simp; omega) (HB.out.next HB1.out)).mono ?_
  rintro e w2 ⟨s, rfl, _, hb2⟩
  have HB2 := Lib.hid (HB1.out.trans (hb2.mono HB1.out.size))
  clear hb2
  go_wp2_with fail
  go_ret2
  exact ⟨s, rfl, HB2.out⟩
theorem ent_ip4 : ∀ args w, (callFunc 165 args).run Tryz.prog w = .ok (.enter 165 args) w := fun _ _ => by kernel_rfl
theorem ent_ip6 : ∀ args w, (callFunc 172 args).run Tryz.prog w = .ok (.enter 172 args) w := fun _ _ => by kernel_rfl
theorem ent_port : ∀ args w, (callFunc 167 args).run Tryz.prog w = .ok (.enter 167 args) w := fun _ _ => by kernel_rfl
theorem ent_p2p : ∀ args w, (callFunc 198 args).run Tryz.prog w = .ok (.enter 198 args) w := fun _ _ => by kernel_rfl
theorem ent_p2pv : ∀ args w, (callFunc 199 args).run Tryz.prog w = .ok (.enter 199 args) w := fun _ _ => by kernel_rfl

theorem val_4 (q p g : Nat) (d : List UInt8) (w : World) (ht : Tab K w) (hC : CmpK w q ([4] ++ d) p 1 g 4) (hd : d.length = 4) (hK : ∀ b ∈ d, b.toNat < K) : Calls Tryz.prog 103 #[.pointer (some ⟨q, 0, none⟩)] w (OutN w) :=
  validate_fix4 q _ [4] d p g _ _ 164 165 w ht hC (by simp) (by simp) hd rfl fun w1 hb =>
    value_some q _ p 1 g 4 164 165 .nilFunc (Or.inl rfl) rfl ent_ip4 w1 (ht.below hb) (hC.below hb).comp (hC.below hb).prot (by simp) (by simp; omega) fun L hL w2 g2 c2 ht2 hr2 => by
      have hLd : L = d := by rw [hL]; rfl
      subst hLd
      match L, hd with
      | [b0, b1, b2, b3], _ => exact ip4_any g2 c2 b0 b1 b2 b3 w2 hr2 (hK b0 (by simp)) (hK b1 (by simp)) (hK b2 (by simp)) (hK b3 (by simp)) ht2
theorem val_6 (q p g : Nat) (d : List UInt8) (w : World) (ht : Tab K w) (hC : CmpK w q ([6] ++ d) p 1 g 6) (hd : d.length = 2) (hK : Lib.beNat d < K) : Calls Tryz.prog 103 #[.pointer (some ⟨q, 0, none⟩)] w (OutN w) :=
  validate_fix2 q _ [6] d p g _ _ 166 167 w ht hC (by simp) (by simp) hd rfl fun w1 hb =>
    value_some q _ p 1 g 6 166 167 .nilFunc (Or.inl rfl) rfl ent_port w1 (ht.below hb) (hC.below hb).comp (hC.below hb).prot (by simp) (by simp; omega) fun L hL w2 g2 c2 ht2 hr2 => by
      have hLd : L = d := by rw [hL]; rfl
      subst hLd
      match L, hd with
      | [b0, b1], _ => exact port_any g2 c2 b0 b1 w2 hr2 hK ht2
theorem val_273 (q p g : Nat) (d : List UInt8) (w : World) (ht : Tab K w) (hC : CmpK w q ([145, 2] ++ d) p 2 g 273) (hd : d.length = 2) (hK : Lib.beNat d < K) : Calls Tryz.prog 103 #[.pointer (some ⟨q, 0, none⟩)] w (OutN w) :=
  validate_fix2 q _ [145, 2] d p g _ _ 166 167 w ht hC (by simp) (by simp) hd rfl fun w1 hb =>
    value_some q _ p 2 g 273 166 167 .nilFunc (Or.inl rfl) rfl ent_port w1 (ht.below hb) (hC.below hb).comp (hC.below hb).prot (by simp) (by simp; omega) fun L hL w2 g2 c2 ht2 hr2 => by
      have hLd : L = d := by rw [hL]; rfl
      subst hLd
      match L, hd with
      | [b0, b1], _ => exact port_any g2 c2 b0 b1 w2 hr2 hK ht2
theorem val_41 (q p g : Nat) (d : List UInt8) (w : World) (ht : Tab K w) (hC : CmpK w q ([41] ++ d) p 1 g 41) (hd : d.length = 16) (hK : 256 ≤ K) : Calls Tryz.prog 103 #[.pointer (some ⟨q, 0, none⟩)] w (OutN w) :=
  validate_fix16 q _ [41] d p g _ _ 171 172 w ht hC (by simp) (by simp) hd rfl fun w1 hb =>
    value_some q _ p 1 g 41 171 172 .nilFunc (Or.inl rfl) rfl ent_ip6 w1 (ht.below hb) (hC.below hb).comp (hC.below hb).prot (by simp) (by simp; omega) fun L hL w2 g2 c2 ht2 hr2 => by
      have hLd : L = d := by rw [hL]; rfl
      subst hLd
      exact ip6_any g2 c2 L w2 hd hK hr2 ht2
theorem val_421 (q p g : Nat) (x y bb : UInt8) (v : Nat) (d : List UInt8) (w : World) (ht : Tab K w) (hC : CmpK w q ([165, 3] ++ ([bb] ++ (x :: y :: d))) p 3 g 421) (hbb : bb.toNat = d.length + 2) (hx : x.toNat = v) (hy : y.toNat = d.length) (hd : d.length ≤ 42) (hv : v = 0 ∨ v = 18 ∧ d.length = 32) :
    Calls Tryz.prog 103 #[.pointer (some ⟨q, 0, none⟩)] w (OutN w) :=
  validate_var q _ [165, 3] (x :: y :: d) p g _ _ 197 198 199 w ht hC (by simp) (by simp) bb (by simp [hbb]) (by simp; omega) ent_p2pv
    (fun w1 g1 c1 hr1 => by
      rcases hv with rfl | ⟨rfl, hl⟩
      · exact (pval_0 _ c1 x y d w1 hr1 hx hy (by omega)).mono fun _ _ h => h
      · exact (pval_18 _ c1 x y d w1 hr1 hx hy (by omega) hl).mono fun _ _ h => h) rfl fun w1 hb =>
    value_some q _ p 3 g 421 197 198 (.func (Fn.func 199) #[] #[]) (Or.inr ⟨_, rfl⟩) rfl ent_p2p w1 (ht.below hb) (hC.below hb).comp (hC.below hb).prot (by simp) (by simp; omega) fun L hL w2 g2 c2 ht2 hr2 => by
      have hLd : L = x :: y :: d := by rw [hL]; rfl
      subst hLd
      exact p2pbts_any g2 c2 x y v d w2 hr2 hx (by omega) hy hd
theorem val_290 (q p g : Nat) (w : World) (ht : Tab K w) (hC : CmpK w q [162, 2] p 2 g 290) : Calls Tryz.prog 103 #[.pointer (some ⟨q, 0, none⟩)] w (OutN w) :=
  validate_fix0 q _ [162, 2] [] p g _ _ w ht hC (by simp) (by simp) rfl rfl fun w1 hb =>
    value_none q _ p 2 g 290 rfl w1 (hC.below hb).comp (hC.below hb).prot
theorem val_461 (q p g : Nat) (w : World) (ht : Tab K w) (hC : CmpK w q [205, 3] p 2 g 461) : Calls Tryz.prog 103 #[.pointer (some ⟨q, 0, none⟩)] w (OutN w) :=
  validate_fix0 q _ [205, 3] [] p g _ _ w ht hC (by simp) (by simp) rfl rfl fun w1 hb =>
    value_none q _ p 2 g 461 rfl w1 (hC.below hb).comp (hC.below hb).prot
theorem val_477 (q p g : Nat) (w : World) (ht : Tab K w) (hC : CmpK w q [221, 3] p 2 g 477) : Calls Tryz.prog 103 #[.pointer (some ⟨q, 0, none⟩)] w (OutN w) :=
  validate_fix0 q _ [221, 3] [] p g _ _ w ht hC (by simp) (by simp) rfl rfl fun w1 hb =>
    value_none q _ p 2 g 477 rfl w1 (hC.below hb).comp (hC.below hb).prot
end Go.Proofs.YtkmieonfhcmimaaGreatDoor
