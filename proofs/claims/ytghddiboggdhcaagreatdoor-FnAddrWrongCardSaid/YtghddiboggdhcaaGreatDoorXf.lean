/- Components of the eight kinds stand their check. -/
import Derived.Test.YtghddiboggdhcaaGreatDoorPh
import Derived.Test.YtghddiboggdhcaaGreatDoorPj4
import Derived.Test.YtghddiboggdhcaaGreatDoorPj2
import Derived.Test.YtghddiboggdhcaaGreatDoorPjs
import Derived.Test.YtghddiboggdhcaaGreatDoorPj0
import Derived.Test.YtghddiboggdhcaaGreatDoorPjv
import Derived.Test.YtghddiboggdhcaaGreatDoorPg
import Derived.Test.YtghddiboggdhcaaGreatDoorXc
import Derived.Lib.BufferWrite
import Derived.Lib.AppendZerosOnto
import Derived.Lib.Walk
import Derived.Laws.CopyOwn
set_option maxRecDepth 100000
set_option maxHeartbeats 4000000
namespace Go.Proofs.YtghddiboggdhcaaGreatDoor
open Go.RowKit
variable {K : Nat}
abbrev CmpK (w : World) (q : Nat) (l : List UInt8) (p vs g k : Nat) : Prop := Cmp w q l p vs g ⟨(protoOf k).name.toArray⟩ k (protoOf k).size (protoOf k).tc (protoOf k).vc
theorem p2pbts_any (g c : Nat) (b b2 : UInt8) (v : Nat) (l : List UInt8) (w : World) (h : RB w w.heap.size (some ⟨g, 0, none⟩) (l.length + 2) c (b :: b2 :: l)) (hv : b.toNat = v) (hb : v < 128) (hv2 : b2.toNat = l.length) (hb2 : l.length ≤ 42) :
    Calls Tryz.prog 161 #[.slice (some ⟨g, 0, none⟩) (l.length + 2) c] w (OutSE w) := by
  have HC := Lib.hid (cast_any _ c b b2 v l w h hv hb hv2 (by omega))
  have HB := Lib.hid h
  clear h hv hv2
  go_enter Tryz.func161, Tryz.ntmps161
  go_wp2_with fail
  refine HC.out.mono ?_
  rintro e w1 ⟨rfl, hb1⟩
  have HB1 := Lib.hid hb1
  clear hb1
  go_wp2_with fail
  refine (b58_any _ _ c (b :: b2 :: l) w1 (by simp; omega) (HB.out.next HB1.out)).mono ?_
  rintro e w2 ⟨s, rfl, _, hb2⟩
  have HB2 := Lib.hid (HB1.out.trans (hb2.mono HB1.out.size))
  clear hb2
  go_wp2_with fail
  go_ret2
  exact ⟨s, rfl, HB2.out⟩
theorem ent_ip4 : ∀ args w, (callFunc 128 args).run Tryz.prog w = .ok (.enter 128 args) w := fun _ _ => by kernel_rfl
theorem ent_ip6 : ∀ args w, (callFunc 135 args).run Tryz.prog w = .ok (.enter 135 args) w := fun _ _ => by kernel_rfl
theorem ent_port : ∀ args w, (callFunc 130 args).run Tryz.prog w = .ok (.enter 130 args) w := fun _ _ => by kernel_rfl
theorem ent_p2p : ∀ args w, (callFunc 161 args).run Tryz.prog w = .ok (.enter 161 args) w := fun _ _ => by kernel_rfl
theorem ent_p2pv : ∀ args w, (callFunc 162 args).run Tryz.prog w = .ok (.enter 162 args) w := fun _ _ => by kernel_rfl
theorem val_4 (q p g : Nat) (d : List UInt8) (w : World) (ht : Tab K w) (hC : CmpK w q ([4] ++ d) p 1 g 4) (hd : d.length = 4) (hK : ∀ b ∈ d, b.toNat < K) : Calls Tryz.prog 64 #[.pointer (some ⟨q, 0, none⟩)] w (OutN w) :=
  validate_fix4 q _ [4] d p g _ _ 127 128 w ht hC (by simp) (by simp) hd rfl fun w1 hb =>
    value_some q _ p 1 g 4 127 128 .nilFunc (Or.inl rfl) rfl ent_ip4 w1 (ht.below hb) (hC.below hb).comp (hC.below hb).prot (by simp) (by simp; omega) fun L hL w2 g2 c2 ht2 hr2 => by
      have hLd : L = d := by rw [hL]; rfl
      subst hLd
      match L, hd with
      | [b0, b1, b2, b3], _ => exact ip4_any g2 c2 b0 b1 b2 b3 w2 hr2 (hK b0 (by simp)) (hK b1 (by simp)) (hK b2 (by simp)) (hK b3 (by simp)) ht2
theorem val_6 (q p g : Nat) (d : List UInt8) (w : World) (ht : Tab K w) (hC : CmpK w q ([6] ++ d) p 1 g 6) (hd : d.length = 2) (hK : Lib.beNat d < K) : Calls Tryz.prog 64 #[.pointer (some ⟨q, 0, none⟩)] w (OutN w) :=
  validate_fix2 q _ [6] d p g _ _ 129 130 w ht hC (by simp) (by simp) hd rfl fun w1 hb =>
    value_some q _ p 1 g 6 129 130 .nilFunc (Or.inl rfl) rfl ent_port w1 (ht.below hb) (hC.below hb).comp (hC.below hb).prot (by simp) (by simp; omega) fun L hL w2 g2 c2 ht2 hr2 => by
      have hLd : L = d := by rw [hL]; rfl
      subst hLd
      match L, hd with
      | [b0, b1], _ => exact port_any g2 c2 b0 b1 w2 hr2 hK ht2
theorem val_273 (q p g : Nat) (d : List UInt8) (w : World) (ht : Tab K w) (hC : CmpK w q ([145, 2] ++ d) p 2 g 273) (hd : d.length = 2) (hK : Lib.beNat d < K) : Calls Tryz.prog 64 #[.pointer (some ⟨q, 0, none⟩)] w (OutN w) :=
  validate_fix2 q _ [145, 2] d p g _ _ 129 130 w ht hC (by simp) (by simp) hd rfl fun w1 hb =>
    value_some q _ p 2 g 273 129 130 .nilFunc (Or.inl rfl) rfl ent_port w1 (ht.below hb) (hC.below hb).comp (hC.below hb).prot (by simp) (by simp; omega) fun L hL w2 g2 c2 ht2 hr2 => by
      have hLd : L = d := by rw [hL]; rfl
      subst hLd
      match L, hd with
      | [b0, b1], _ => exact port_any g2 c2 b0 b1 w2 hr2 hK ht2
theorem val_41 (q p g : Nat) (d : List UInt8) (w : World) (ht : Tab K w) (hC : CmpK w q ([41] ++ d) p 1 g 41) (hd : d.length = 16) (hK : 256 ≤ K) : Calls Tryz.prog 64 #[.pointer (some ⟨q, 0, none⟩)] w (OutN w) :=
  validate_fix16 q _ [41] d p g _ _ 134 135 w ht hC (by simp) (by simp) hd rfl fun w1 hb =>
    value_some q _ p 1 g 41 134 135 .nilFunc (Or.inl rfl) rfl ent_ip6 w1 (ht.below hb) (hC.below hb).comp (hC.below hb).prot (by simp) (by simp; omega) fun L hL w2 g2 c2 ht2 hr2 => by
      have hLd : L = d := by rw [hL]; rfl
      subst hLd
      exact ip6_any g2 c2 L w2 hd hK hr2 ht2
theorem val_421 (q p g : Nat) (x y bb : UInt8) (v : Nat) (d : List UInt8) (w : World) (ht : Tab K w) (hC : CmpK w q ([165, 3] ++ ([bb] ++ (x :: y :: d))) p 3 g 421) (hbb : bb.toNat = d.length + 2) (hx : x.toNat = v) (hy : y.toNat = d.length) (hd : d.length ≤ 42) (hv : v = 0 ∨ v = 18 ∧ d.length = 32) :
    Calls Tryz.prog 64 #[.pointer (some ⟨q, 0, none⟩)] w (OutN w) :=
  validate_var q _ [165, 3] (x :: y :: d) p g _ _ 160 161 162 w ht hC (by simp) (by simp) bb (by simp [hbb]) (by simp; omega) ent_p2pv
    (fun w1 g1 c1 hr1 => by
      rcases hv with rfl | ⟨rfl, hl⟩
      · exact (pval_0 _ c1 x y d w1 hr1 hx hy (by omega)).mono fun _ _ h => h
      · exact (pval_18 _ c1 x y d w1 hr1 hx hy (by omega) hl).mono fun _ _ h => h) rfl fun w1 hb =>
    value_some q _ p 3 g 421 160 161 (.func (Fn.func 162) #[] #[]) (Or.inr ⟨_, rfl⟩) rfl ent_p2p w1 (ht.below hb) (hC.below hb).comp (hC.below hb).prot (by simp) (by simp; omega) fun L hL w2 g2 c2 ht2 hr2 => by
      have hLd : L = x :: y :: d := by rw [hL]; rfl
      subst hLd
      exact p2pbts_any g2 c2 x y v d w2 hr2 hx (by omega) hy hd
theorem val_290 (q p g : Nat) (w : World) (ht : Tab K w) (hC : CmpK w q [162, 2] p 2 g 290) : Calls Tryz.prog 64 #[.pointer (some ⟨q, 0, none⟩)] w (OutN w) :=
  validate_fix0 q _ [162, 2] [] p g _ _ w ht hC (by simp) (by simp) rfl rfl fun w1 hb =>
    value_none q _ p 2 g 290 rfl w1 (hC.below hb).comp (hC.below hb).prot
theorem val_461 (q p g : Nat) (w : World) (ht : Tab K w) (hC : CmpK w q [205, 3] p 2 g 461) : Calls Tryz.prog 64 #[.pointer (some ⟨q, 0, none⟩)] w (OutN w) :=
  validate_fix0 q _ [205, 3] [] p g _ _ w ht hC (by simp) (by simp) rfl rfl fun w1 hb =>
    value_none q _ p 2 g 461 rfl w1 (hC.below hb).comp (hC.below hb).prot
theorem val_477 (q p g : Nat) (w : World) (ht : Tab K w) (hC : CmpK w q [221, 3] p 2 g 477) : Calls Tryz.prog 64 #[.pointer (some ⟨q, 0, none⟩)] w (OutN w) :=
  validate_fix0 q _ [221, 3] [] p g _ _ w ht hC (by simp) (by simp) rfl rfl fun w1 hb =>
    value_none q _ p 2 g 477 rfl w1 (hC.below hb).comp (hC.below hb).prot
end Go.Proofs.YtghddiboggdhcaaGreatDoor
/- readComponent at the eight kinds: a component, and how many bytes it has. -/
namespace Go.Proofs.YtghddiboggdhcaaGreatDoor
open Go.RowKit
variable {K : Nat}
def OutC (k : Nat) (cl : List UInt8) (vs n : Nat) (w : World) (e : Ending) (w' : World) : Prop :=
  ∃ q p g, e = .returned (.tuple #[.int .i64 n, .pointer (some ⟨q, 0, none⟩), .nilIface]) ∧ CmpK w' q cl p vs g k ∧ Below w.heap.size w w'
theorem read_4 (A : Option Addr) (c : Nat) (d : List UInt8) (rs : List UInt8) (w : World) (ht : Tab K w) (h : RB w w.heap.size A (rs.length + 5) c (([4] ++ d) ++ rs)) (hd : d.length = 4) (hK : ∀ b ∈ d, b.toNat < K) :
    Calls Tryz.prog 54 #[.slice A (rs.length + 5) c] w (OutC 4 (([4] ++ d)) 1 (5) w) := by
  have hcap := h.cap
  have hmax : c ≤ 9223372036854775807 := h.max
  have hcne : ¬ c = 1 := by omega
  have HRV := Lib.hid (readvar_one A (rs.length + 5) c 4 (d ++ rs) w h (by decide))
  have HB := Lib.hid h
  have HT := Lib.hid ht
  obtain ⟨CL, hCL⟩ : ∃ CL : List UInt8, CL = ([4] ++ d) := ⟨_, rfl⟩
  have htk : (([4] ++ d) ++ rs).take (5) = CL := by rw [hCL]; exact List.take_left' (by simp [hd])
  have HTK := Lib.hid htk
  have HCL := Lib.hid hCL
  have HD := Lib.hid hd
  have HKK := Lib.hid hK
  clear hd hK
  clear h ht htk hCL
  go_enter Tryz.func54, Tryz.ntmps54
  go_wp2_with fail
  refine HRV.out.mono ?_
  rintro e w' ⟨rfl, rfl⟩
  go_wp2_with fail
  refine (pcode_4 _).mono ?_
  rintro e w1 ⟨g1, rfl, _, _, hb1⟩
  have HB1 := Lib.hid hb1
  clear hb1
  go_wp2_with fail
  rw [run_storeCells_new w1 77 #[.string ⟨#[]⟩, .int .i64 0, .slice none 0 0, .int .i64 0, .bool false, .nilIface] (pcells 4 g1) rfl (pcells_one _ _)]
  have hk := Blk.new w1 77 (pcells 4 g1)
  have k1 : (w1.alloc (.cells (pcells 4 g1) 77)).cell? ⟨w1.heap.size, 1, none⟩ = some (.int .i64 4) := hk.cell 1
  have HK := Lib.hid hk
  clear hk
  go_wp2_with fail
  clear k1
  refine (ptr_4 _).mono ?_
  rintro e w3 ⟨p, g, rfl, _, _, _, hp, hv, hb3⟩
  have k3 : w3.cell? ⟨w1.heap.size, 3, none⟩ = some (.int .i64 32) := ((HK.out.below hb3 HK.out.lt).cell 3)
  have HP := Lib.hid hp
  have HV := Lib.hid hv
  have HB3 := Lib.hid ((HB1.out.alloc HB1.out.size (.cells (pcells 4 g1) 77)).trans (hb3.mono (Nat.le_trans HB1.out.size (by simp))))
  clear hp hv hb3
  have hR := HB.out.below HB3.out
  have cvt := run_convert_RB (hR.take (k := 5) (by omega)) 22 5 Tryz.underlying22 Tryz.underlying5 9 Tryz.underlying9
  rw [HTK.out] at cvt
  clear hR
  go_wp2_with fail
  have hcm : CmpK (w3.alloc (.cells #[.string ⟨CL.toArray⟩, .pointer (some ⟨p, 0, none⟩), .int .i64 1] 81)) w3.heap.size CL p 1 g 4 := ⟨Blk.new _ _ _, HP.out.alloc _, HV.out.alloc _⟩
  have HCM := Lib.hid hcm
  have HBW := Lib.hid (HB3.out.alloc HB3.out.size (.cells #[.string ⟨CL.toArray⟩, .pointer (some ⟨p, 0, none⟩), .int .i64 1] 81))
  clear hcm
  refine (val_4 _ p g d _ (HT.out.below HBW.out) (by have := HCM.out; rw [HCL.out] at this ⊢; exact this) HD.out HKK.out).mono ?_
  rintro e w5 ⟨rfl, hb5⟩
  have HF := Lib.hid (show CmpK w5 w3.heap.size CL p 1 g 4 from HCM.out.below hb5)
  have HBF := Lib.hid (HBW.out.trans (hb5.mono HBW.out.size))
  clear hb5
  go_wp2_with fail
  go_ret3
  exact ⟨w3.heap.size, p, g, rfl, by have := HF.out; rw [HCL.out] at this; exact this, HBF.out⟩
theorem read_6 (A : Option Addr) (c : Nat) (d : List UInt8) (rs : List UInt8) (w : World) (ht : Tab K w) (h : RB w w.heap.size A (rs.length + 3) c (([6] ++ d) ++ rs)) (hd : d.length = 2) (hK : Lib.beNat d < K) :
    Calls Tryz.prog 54 #[.slice A (rs.length + 3) c] w (OutC 6 (([6] ++ d)) 1 (3) w) := by
  have hcap := h.cap
  have hmax : c ≤ 9223372036854775807 := h.max
  have hcne : ¬ c = 1 := by omega
  have HRV := Lib.hid (readvar_one A (rs.length + 3) c 6 (d ++ rs) w h (by decide))
  have HB := Lib.hid h
  have HT := Lib.hid ht
  obtain ⟨CL, hCL⟩ : ∃ CL : List UInt8, CL = ([6] ++ d) := ⟨_, rfl⟩
  have htk : (([6] ++ d) ++ rs).take (3) = CL := by rw [hCL]; exact List.take_left' (by simp [hd])
  have HTK := Lib.hid htk
  have HCL := Lib.hid hCL
  have HD := Lib.hid hd
  have HKK := Lib.hid hK
  clear hd hK
  clear h ht htk hCL
  go_enter Tryz.func54, Tryz.ntmps54
  go_wp2_with fail
  refine HRV.out.mono ?_
  rintro e w' ⟨rfl, rfl⟩
  go_wp2_with fail
  refine (pcode_6 _).mono ?_
  rintro e w1 ⟨g1, rfl, _, _, hb1⟩
  have HB1 := Lib.hid hb1
  clear hb1
  go_wp2_with fail
  rw [run_storeCells_new w1 77 #[.string ⟨#[]⟩, .int .i64 0, .slice none 0 0, .int .i64 0, .bool false, .nilIface] (pcells 6 g1) rfl (pcells_one _ _)]
  have hk := Blk.new w1 77 (pcells 6 g1)
  have k1 : (w1.alloc (.cells (pcells 6 g1) 77)).cell? ⟨w1.heap.size, 1, none⟩ = some (.int .i64 6) := hk.cell 1
  have HK := Lib.hid hk
  clear hk
  go_wp2_with fail
  clear k1
  refine (ptr_6 _).mono ?_
  rintro e w3 ⟨p, g, rfl, _, _, _, hp, hv, hb3⟩
  have k3 : w3.cell? ⟨w1.heap.size, 3, none⟩ = some (.int .i64 16) := ((HK.out.below hb3 HK.out.lt).cell 3)
  have HP := Lib.hid hp
  have HV := Lib.hid hv
  have HB3 := Lib.hid ((HB1.out.alloc HB1.out.size (.cells (pcells 6 g1) 77)).trans (hb3.mono (Nat.le_trans HB1.out.size (by simp))))
  clear hp hv hb3
  have hR := HB.out.below HB3.out
  have cvt := run_convert_RB (hR.take (k := 3) (by omega)) 22 5 Tryz.underlying22 Tryz.underlying5 9 Tryz.underlying9
  rw [HTK.out] at cvt
  clear hR
  go_wp2_with fail
  have hcm : CmpK (w3.alloc (.cells #[.string ⟨CL.toArray⟩, .pointer (some ⟨p, 0, none⟩), .int .i64 1] 81)) w3.heap.size CL p 1 g 6 := ⟨Blk.new _ _ _, HP.out.alloc _, HV.out.alloc _⟩
  have HCM := Lib.hid hcm
  have HBW := Lib.hid (HB3.out.alloc HB3.out.size (.cells #[.string ⟨CL.toArray⟩, .pointer (some ⟨p, 0, none⟩), .int .i64 1] 81))
  clear hcm
  refine (val_6 _ p g d _ (HT.out.below HBW.out) (by have := HCM.out; rw [HCL.out] at this ⊢; exact this) HD.out HKK.out).mono ?_
  rintro e w5 ⟨rfl, hb5⟩
  have HF := Lib.hid (show CmpK w5 w3.heap.size CL p 1 g 6 from HCM.out.below hb5)
  have HBF := Lib.hid (HBW.out.trans (hb5.mono HBW.out.size))
  clear hb5
  go_wp2_with fail
  go_ret3
  exact ⟨w3.heap.size, p, g, rfl, by have := HF.out; rw [HCL.out] at this; exact this, HBF.out⟩
theorem read_41 (A : Option Addr) (c : Nat) (d : List UInt8) (rs : List UInt8) (w : World) (ht : Tab K w) (h : RB w w.heap.size A (rs.length + 17) c (([41] ++ d) ++ rs)) (hd : d.length = 16) (hK : 256 ≤ K) :
    Calls Tryz.prog 54 #[.slice A (rs.length + 17) c] w (OutC 41 (([41] ++ d)) 1 (17) w) := by
  have hcap := h.cap
  have hmax : c ≤ 9223372036854775807 := h.max
  have hcne : ¬ c = 1 := by omega
  have HRV := Lib.hid (readvar_one A (rs.length + 17) c 41 (d ++ rs) w h (by decide))
  have HB := Lib.hid h
  have HT := Lib.hid ht
  obtain ⟨CL, hCL⟩ : ∃ CL : List UInt8, CL = ([41] ++ d) := ⟨_, rfl⟩
  have htk : (([41] ++ d) ++ rs).take (17) = CL := by rw [hCL]; exact List.take_left' (by simp [hd])
  have HTK := Lib.hid htk
  have HCL := Lib.hid hCL
  have HD := Lib.hid hd
  have HKK := Lib.hid hK
  clear hd hK
  clear h ht htk hCL
  go_enter Tryz.func54, Tryz.ntmps54
  go_wp2_with fail
  refine HRV.out.mono ?_
  rintro e w' ⟨rfl, rfl⟩
  go_wp2_with fail
  refine (pcode_41 _).mono ?_
  rintro e w1 ⟨g1, rfl, _, _, hb1⟩
  have HB1 := Lib.hid hb1
  clear hb1
  go_wp2_with fail
  rw [run_storeCells_new w1 77 #[.string ⟨#[]⟩, .int .i64 0, .slice none 0 0, .int .i64 0, .bool false, .nilIface] (pcells 41 g1) rfl (pcells_one _ _)]
  have hk := Blk.new w1 77 (pcells 41 g1)
  have k1 : (w1.alloc (.cells (pcells 41 g1) 77)).cell? ⟨w1.heap.size, 1, none⟩ = some (.int .i64 41) := hk.cell 1
  have HK := Lib.hid hk
  clear hk
  go_wp2_with fail
  clear k1
  refine (ptr_41 _).mono ?_
  rintro e w3 ⟨p, g, rfl, _, _, _, hp, hv, hb3⟩
  have k3 : w3.cell? ⟨w1.heap.size, 3, none⟩ = some (.int .i64 128) := ((HK.out.below hb3 HK.out.lt).cell 3)
  have HP := Lib.hid hp
  have HV := Lib.hid hv
  have HB3 := Lib.hid ((HB1.out.alloc HB1.out.size (.cells (pcells 41 g1) 77)).trans (hb3.mono (Nat.le_trans HB1.out.size (by simp))))
  clear hp hv hb3
  have hR := HB.out.below HB3.out
  have cvt := run_convert_RB (hR.take (k := 17) (by omega)) 22 5 Tryz.underlying22 Tryz.underlying5 9 Tryz.underlying9
  rw [HTK.out] at cvt
  clear hR
  go_wp2_with fail
  have hcm : CmpK (w3.alloc (.cells #[.string ⟨CL.toArray⟩, .pointer (some ⟨p, 0, none⟩), .int .i64 1] 81)) w3.heap.size CL p 1 g 41 := ⟨Blk.new _ _ _, HP.out.alloc _, HV.out.alloc _⟩
  have HCM := Lib.hid hcm
  have HBW := Lib.hid (HB3.out.alloc HB3.out.size (.cells #[.string ⟨CL.toArray⟩, .pointer (some ⟨p, 0, none⟩), .int .i64 1] 81))
  clear hcm
  refine (val_41 _ p g d _ (HT.out.below HBW.out) (by have := HCM.out; rw [HCL.out] at this ⊢; exact this) HD.out HKK.out).mono ?_
  rintro e w5 ⟨rfl, hb5⟩
  have HF := Lib.hid (show CmpK w5 w3.heap.size CL p 1 g 41 from HCM.out.below hb5)
  have HBF := Lib.hid (HBW.out.trans (hb5.mono HBW.out.size))
  clear hb5
  go_wp2_with fail
  go_ret3
  exact ⟨w3.heap.size, p, g, rfl, by have := HF.out; rw [HCL.out] at this; exact this, HBF.out⟩
theorem read_273 (A : Option Addr) (c : Nat) (d : List UInt8) (rs : List UInt8) (w : World) (ht : Tab K w) (h : RB w w.heap.size A (rs.length + 4) c (([145, 2] ++ d) ++ rs)) (hd : d.length = 2) (hK : Lib.beNat d < K) :
    Calls Tryz.prog 54 #[.slice A (rs.length + 4) c] w (OutC 273 (([145, 2] ++ d)) 2 (4) w) := by
  have hcap := h.cap
  have hmax : c ≤ 9223372036854775807 := h.max
  have hcne : ¬ c = 2 := by omega
  have HRV := Lib.hid (readvar_273 A (rs.length + 4) c (d ++ rs) w h)
  have HB := Lib.hid h
  have HT := Lib.hid ht
  obtain ⟨CL, hCL⟩ : ∃ CL : List UInt8, CL = ([145, 2] ++ d) := ⟨_, rfl⟩
  have htk : (([145, 2] ++ d) ++ rs).take (4) = CL := by rw [hCL]; exact List.take_left' (by simp [hd])
  have HTK := Lib.hid htk
  have HCL := Lib.hid hCL
  have HD := Lib.hid hd
  have HKK := Lib.hid hK
  clear hd hK
  clear h ht htk hCL
  go_enter Tryz.func54, Tryz.ntmps54
  go_wp2_with fail
  refine HRV.out.mono ?_
  rintro e w' ⟨rfl, rfl⟩
  go_wp2_with fail
  refine (pcode_273 _).mono ?_
  rintro e w1 ⟨g1, rfl, _, _, hb1⟩
  have HB1 := Lib.hid hb1
  clear hb1
  go_wp2_with fail
  rw [run_storeCells_new w1 77 #[.string ⟨#[]⟩, .int .i64 0, .slice none 0 0, .int .i64 0, .bool false, .nilIface] (pcells 273 g1) rfl (pcells_one _ _)]
  have hk := Blk.new w1 77 (pcells 273 g1)
  have k1 : (w1.alloc (.cells (pcells 273 g1) 77)).cell? ⟨w1.heap.size, 1, none⟩ = some (.int .i64 273) := hk.cell 1
  have HK := Lib.hid hk
  clear hk
  go_wp2_with fail
  clear k1
  refine (ptr_273 _).mono ?_
  rintro e w3 ⟨p, g, rfl, _, _, _, hp, hv, hb3⟩
  have k3 : w3.cell? ⟨w1.heap.size, 3, none⟩ = some (.int .i64 16) := ((HK.out.below hb3 HK.out.lt).cell 3)
  have HP := Lib.hid hp
  have HV := Lib.hid hv
  have HB3 := Lib.hid ((HB1.out.alloc HB1.out.size (.cells (pcells 273 g1) 77)).trans (hb3.mono (Nat.le_trans HB1.out.size (by simp))))
  clear hp hv hb3
  have hR := HB.out.below HB3.out
  have cvt := run_convert_RB (hR.take (k := 4) (by omega)) 22 5 Tryz.underlying22 Tryz.underlying5 9 Tryz.underlying9
  rw [HTK.out] at cvt
  clear hR
  go_wp2_with fail
  have hcm : CmpK (w3.alloc (.cells #[.string ⟨CL.toArray⟩, .pointer (some ⟨p, 0, none⟩), .int .i64 2] 81)) w3.heap.size CL p 2 g 273 := ⟨Blk.new _ _ _, HP.out.alloc _, HV.out.alloc _⟩
  have HCM := Lib.hid hcm
  have HBW := Lib.hid (HB3.out.alloc HB3.out.size (.cells #[.string ⟨CL.toArray⟩, .pointer (some ⟨p, 0, none⟩), .int .i64 2] 81))
  clear hcm
  refine (val_273 _ p g d _ (HT.out.below HBW.out) (by have := HCM.out; rw [HCL.out] at this ⊢; exact this) HD.out HKK.out).mono ?_
  rintro e w5 ⟨rfl, hb5⟩
  have HF := Lib.hid (show CmpK w5 w3.heap.size CL p 2 g 273 from HCM.out.below hb5)
  have HBF := Lib.hid (HBW.out.trans (hb5.mono HBW.out.size))
  clear hb5
  go_wp2_with fail
  go_ret3
  exact ⟨w3.heap.size, p, g, rfl, by have := HF.out; rw [HCL.out] at this; exact this, HBF.out⟩
theorem read_290 (A : Option Addr) (c : Nat) (rs : List UInt8) (w : World) (ht : Tab K w) (h : RB w w.heap.size A (rs.length + 2) c ([162, 2] ++ rs)) :
    Calls Tryz.prog 54 #[.slice A (rs.length + 2) c] w (OutC 290 ([162, 2]) 2 (2) w) := by
  have hcap := h.cap
  have hmax : c ≤ 9223372036854775807 := h.max
  have HRV := Lib.hid (readvar_290 A (rs.length + 2) c rs w h)
  have HB := Lib.hid h
  have HT := Lib.hid ht
  obtain ⟨CL, hCL⟩ : ∃ CL : List UInt8, CL = [162, 2] := ⟨_, rfl⟩
  have htk : ([162, 2] ++ rs).take (2) = CL := by rw [hCL]; exact List.take_left' (rfl)
  have HTK := Lib.hid htk
  have HCL := Lib.hid hCL
  clear h ht htk hCL
  go_enter Tryz.func54, Tryz.ntmps54
  go_wp2_with fail
  refine HRV.out.mono ?_
  rintro e w' ⟨rfl, rfl⟩
  go_wp2_with fail
  refine (pcode_290 _).mono ?_
  rintro e w1 ⟨g1, rfl, _, _, hb1⟩
  have HB1 := Lib.hid hb1
  clear hb1
  go_wp2_with fail
  rw [run_storeCells_new w1 77 #[.string ⟨#[]⟩, .int .i64 0, .slice none 0 0, .int .i64 0, .bool false, .nilIface] (pcells 290 g1) rfl (pcells_one _ _)]
  have hk := Blk.new w1 77 (pcells 290 g1)
  have k1 : (w1.alloc (.cells (pcells 290 g1) 77)).cell? ⟨w1.heap.size, 1, none⟩ = some (.int .i64 290) := hk.cell 1
  have HK := Lib.hid hk
  clear hk
  go_wp2_with fail
  clear k1
  refine (ptr_290 _).mono ?_
  rintro e w3 ⟨p, g, rfl, _, _, _, hp, hv, hb3⟩
  have k3 : w3.cell? ⟨w1.heap.size, 3, none⟩ = some (.int .i64 0) := ((HK.out.below hb3 HK.out.lt).cell 3)
  have HP := Lib.hid hp
  have HV := Lib.hid hv
  have HB3 := Lib.hid ((HB1.out.alloc HB1.out.size (.cells (pcells 290 g1) 77)).trans (hb3.mono (Nat.le_trans HB1.out.size (by simp))))
  clear hp hv hb3
  have hR := HB.out.below HB3.out
  have cvt := run_convert_RB (hR.take (k := 2) (by omega)) 22 5 Tryz.underlying22 Tryz.underlying5 9 Tryz.underlying9
  rw [HTK.out] at cvt
  clear hR
  go_wp2_with fail
  have hcm : CmpK (w3.alloc (.cells #[.string ⟨CL.toArray⟩, .pointer (some ⟨p, 0, none⟩), .int .i64 2] 81)) w3.heap.size CL p 2 g 290 := ⟨Blk.new _ _ _, HP.out.alloc _, HV.out.alloc _⟩
  have HCM := Lib.hid hcm
  have HBW := Lib.hid (HB3.out.alloc HB3.out.size (.cells #[.string ⟨CL.toArray⟩, .pointer (some ⟨p, 0, none⟩), .int .i64 2] 81))
  clear hcm
  refine (val_290 _ p g _ (HT.out.below HBW.out) (by have := HCM.out; rw [HCL.out] at this ⊢; exact this)).mono ?_
  rintro e w5 ⟨rfl, hb5⟩
  have HF := Lib.hid (show CmpK w5 w3.heap.size CL p 2 g 290 from HCM.out.below hb5)
  have HBF := Lib.hid (HBW.out.trans (hb5.mono HBW.out.size))
  clear hb5
  go_wp2_with fail
  go_ret3
  exact ⟨w3.heap.size, p, g, rfl, by have := HF.out; rw [HCL.out] at this; exact this, HBF.out⟩
theorem read_461 (A : Option Addr) (c : Nat) (rs : List UInt8) (w : World) (ht : Tab K w) (h : RB w w.heap.size A (rs.length + 2) c ([205, 3] ++ rs)) :
    Calls Tryz.prog 54 #[.slice A (rs.length + 2) c] w (OutC 461 ([205, 3]) 2 (2) w) := by
  have hcap := h.cap
  have hmax : c ≤ 9223372036854775807 := h.max
  have HRV := Lib.hid (readvar_461 A (rs.length + 2) c rs w h)
  have HB := Lib.hid h
  have HT := Lib.hid ht
  obtain ⟨CL, hCL⟩ : ∃ CL : List UInt8, CL = [205, 3] := ⟨_, rfl⟩
  have htk : ([205, 3] ++ rs).take (2) = CL := by rw [hCL]; exact List.take_left' (rfl)
  have HTK := Lib.hid htk
  have HCL := Lib.hid hCL
  clear h ht htk hCL
  go_enter Tryz.func54, Tryz.ntmps54
  go_wp2_with fail
  refine HRV.out.mono ?_
  rintro e w' ⟨rfl, rfl⟩
  go_wp2_with fail
  refine (pcode_461 _).mono ?_
  rintro e w1 ⟨g1, rfl, _, _, hb1⟩
  have HB1 := Lib.hid hb1
  clear hb1
  go_wp2_with fail
  rw [run_storeCells_new w1 77 #[.string ⟨#[]⟩, .int .i64 0, .slice none 0 0, .int .i64 0, .bool false, .nilIface] (pcells 461 g1) rfl (pcells_one _ _)]
  have hk := Blk.new w1 77 (pcells 461 g1)
  have k1 : (w1.alloc (.cells (pcells 461 g1) 77)).cell? ⟨w1.heap.size, 1, none⟩ = some (.int .i64 461) := hk.cell 1
  have HK := Lib.hid hk
  clear hk
  go_wp2_with fail
  clear k1
  refine (ptr_461 _).mono ?_
  rintro e w3 ⟨p, g, rfl, _, _, _, hp, hv, hb3⟩
  have k3 : w3.cell? ⟨w1.heap.size, 3, none⟩ = some (.int .i64 0) := ((HK.out.below hb3 HK.out.lt).cell 3)
  have HP := Lib.hid hp
  have HV := Lib.hid hv
  have HB3 := Lib.hid ((HB1.out.alloc HB1.out.size (.cells (pcells 461 g1) 77)).trans (hb3.mono (Nat.le_trans HB1.out.size (by simp))))
  clear hp hv hb3
  have hR := HB.out.below HB3.out
  have cvt := run_convert_RB (hR.take (k := 2) (by omega)) 22 5 Tryz.underlying22 Tryz.underlying5 9 Tryz.underlying9
  rw [HTK.out] at cvt
  clear hR
  go_wp2_with fail
  have hcm : CmpK (w3.alloc (.cells #[.string ⟨CL.toArray⟩, .pointer (some ⟨p, 0, none⟩), .int .i64 2] 81)) w3.heap.size CL p 2 g 461 := ⟨Blk.new _ _ _, HP.out.alloc _, HV.out.alloc _⟩
  have HCM := Lib.hid hcm
  have HBW := Lib.hid (HB3.out.alloc HB3.out.size (.cells #[.string ⟨CL.toArray⟩, .pointer (some ⟨p, 0, none⟩), .int .i64 2] 81))
  clear hcm
  refine (val_461 _ p g _ (HT.out.below HBW.out) (by have := HCM.out; rw [HCL.out] at this ⊢; exact this)).mono ?_
  rintro e w5 ⟨rfl, hb5⟩
  have HF := Lib.hid (show CmpK w5 w3.heap.size CL p 2 g 461 from HCM.out.below hb5)
  have HBF := Lib.hid (HBW.out.trans (hb5.mono HBW.out.size))
  clear hb5
  go_wp2_with fail
  go_ret3
  exact ⟨w3.heap.size, p, g, rfl, by have := HF.out; rw [HCL.out] at this; exact this, HBF.out⟩
theorem read_477 (A : Option Addr) (c : Nat) (rs : List UInt8) (w : World) (ht : Tab K w) (h : RB w w.heap.size A (rs.length + 2) c ([221, 3] ++ rs)) :
    Calls Tryz.prog 54 #[.slice A (rs.length + 2) c] w (OutC 477 ([221, 3]) 2 (2) w) := by
  have hcap := h.cap
  have hmax : c ≤ 9223372036854775807 := h.max
  have HRV := Lib.hid (readvar_477 A (rs.length + 2) c rs w h)
  have HB := Lib.hid h
  have HT := Lib.hid ht
  obtain ⟨CL, hCL⟩ : ∃ CL : List UInt8, CL = [221, 3] := ⟨_, rfl⟩
  have htk : ([221, 3] ++ rs).take (2) = CL := by rw [hCL]; exact List.take_left' (rfl)
  have HTK := Lib.hid htk
  have HCL := Lib.hid hCL
  clear h ht htk hCL
  go_enter Tryz.func54, Tryz.ntmps54
  go_wp2_with fail
  refine HRV.out.mono ?_
  rintro e w' ⟨rfl, rfl⟩
  go_wp2_with fail
  refine (pcode_477 _).mono ?_
  rintro e w1 ⟨g1, rfl, _, _, hb1⟩
  have HB1 := Lib.hid hb1
  clear hb1
  go_wp2_with fail
  rw [run_storeCells_new w1 77 #[.string ⟨#[]⟩, .int .i64 0, .slice none 0 0, .int .i64 0, .bool false, .nilIface] (pcells 477 g1) rfl (pcells_one _ _)]
  have hk := Blk.new w1 77 (pcells 477 g1)
  have k1 : (w1.alloc (.cells (pcells 477 g1) 77)).cell? ⟨w1.heap.size, 1, none⟩ = some (.int .i64 477) := hk.cell 1
  have HK := Lib.hid hk
  clear hk
  go_wp2_with fail
  clear k1
  refine (ptr_477 _).mono ?_
  rintro e w3 ⟨p, g, rfl, _, _, _, hp, hv, hb3⟩
  have k3 : w3.cell? ⟨w1.heap.size, 3, none⟩ = some (.int .i64 0) := ((HK.out.below hb3 HK.out.lt).cell 3)
  have HP := Lib.hid hp
  have HV := Lib.hid hv
  have HB3 := Lib.hid ((HB1.out.alloc HB1.out.size (.cells (pcells 477 g1) 77)).trans (hb3.mono (Nat.le_trans HB1.out.size (by simp))))
  clear hp hv hb3
  have hR := HB.out.below HB3.out
  have cvt := run_convert_RB (hR.take (k := 2) (by omega)) 22 5 Tryz.underlying22 Tryz.underlying5 9 Tryz.underlying9
  rw [HTK.out] at cvt
  clear hR
  go_wp2_with fail
  have hcm : CmpK (w3.alloc (.cells #[.string ⟨CL.toArray⟩, .pointer (some ⟨p, 0, none⟩), .int .i64 2] 81)) w3.heap.size CL p 2 g 477 := ⟨Blk.new _ _ _, HP.out.alloc _, HV.out.alloc _⟩
  have HCM := Lib.hid hcm
  have HBW := Lib.hid (HB3.out.alloc HB3.out.size (.cells #[.string ⟨CL.toArray⟩, .pointer (some ⟨p, 0, none⟩), .int .i64 2] 81))
  clear hcm
  refine (val_477 _ p g _ (HT.out.below HBW.out) (by have := HCM.out; rw [HCL.out] at this ⊢; exact this)).mono ?_
  rintro e w5 ⟨rfl, hb5⟩
  have HF := Lib.hid (show CmpK w5 w3.heap.size CL p 2 g 477 from HCM.out.below hb5)
  have HBF := Lib.hid (HBW.out.trans (hb5.mono HBW.out.size))
  clear hb5
  go_wp2_with fail
  go_ret3
  exact ⟨w3.heap.size, p, g, rfl, by have := HF.out; rw [HCL.out] at this; exact this, HBF.out⟩
theorem read_421 (A : Option Addr) (c : Nat) (x y bb : UInt8) (v : Nat) (d : List UInt8) (rs : List UInt8) (w : World) (ht : Tab K w) (h : RB w w.heap.size A (rs.length + d.length + 5) c (([165, 3] ++ ([bb] ++ (x :: y :: d))) ++ rs)) (hbb : bb.toNat = d.length + 2) (hx : x.toNat = v) (hy : y.toNat = d.length) (hd : d.length ≤ 42) (hv : v = 0 ∨ v = 18 ∧ d.length = 32) :
    Calls Tryz.prog 54 #[.slice A (rs.length + d.length + 5) c] w (OutC 421 (([165, 3] ++ ([bb] ++ (x :: y :: d)))) 3 (d.length + 5) w) := by
  have hcap := h.cap
  have hmax : c ≤ 9223372036854775807 := h.max
  have hcne : ¬ c = 2 := by omega
  have HRV := Lib.hid (readvar_421 A (rs.length + (d.length + 5)) c _ w h)
  have HB := Lib.hid h
  have HT := Lib.hid ht
  obtain ⟨CL, hCL⟩ : ∃ CL : List UInt8, CL = ([165, 3] ++ ([bb] ++ (x :: y :: d))) := ⟨_, rfl⟩
  have htk : (([165, 3] ++ ([bb] ++ (x :: y :: d))) ++ rs).take (d.length + 5) = CL := by rw [hCL]; exact List.take_left' (by simp)
  have HTK := Lib.hid htk
  have HCL := Lib.hid hCL
  have HD2 := Lib.hid (h.drop (k := 2) (by omega))
  have HBB := Lib.hid hbb
  have HX := Lib.hid hx
  have HY := Lib.hid hy
  have HVV := Lib.hid hv
  clear h ht htk hCL hbb hx hy hv
  go_enter Tryz.func54, Tryz.ntmps54
  go_wp2_with fail
  refine HRV.out.mono ?_
  rintro e w' ⟨rfl, rfl⟩
  go_wp2_with fail
  refine (pcode_421 _).mono ?_
  rintro e w1 ⟨g1, rfl, _, _, hb1⟩
  have HB1 := Lib.hid hb1
  clear hb1
  go_wp2_with fail
  rw [run_storeCells_new w1 77 #[.string ⟨#[]⟩, .int .i64 0, .slice none 0 0, .int .i64 0, .bool false, .nilIface] (pcells 421 g1) rfl (pcells_one _ _)]
  have hk := Blk.new w1 77 (pcells 421 g1)
  have k1 : (w1.alloc (.cells (pcells 421 g1) 77)).cell? ⟨w1.heap.size, 1, none⟩ = some (.int .i64 421) := hk.cell 1
  have HK := Lib.hid hk
  clear hk
  go_wp2_with fail
  clear k1
  refine (ptr_421 _).mono ?_
  rintro e w3 ⟨p, g, rfl, _, _, _, hp, hv, hb3⟩
  have k3 : w3.cell? ⟨w1.heap.size, 3, none⟩ = some (.int .i64 (-1)) := ((HK.out.below hb3 HK.out.lt).cell 3)
  have HP := Lib.hid hp
  have HV := Lib.hid hv
  have HB3 := Lib.hid ((HB1.out.alloc HB1.out.size (.cells (pcells 421 g1) 77)).trans (hb3.mono (Nat.le_trans HB1.out.size (by simp))))
  clear hp hv hb3
  have hR := HB.out.below HB3.out
  have cvt := run_convert_RB (hR.take (k := d.length + 5) (by omega)) 22 5 Tryz.underlying22 Tryz.underlying5 9 Tryz.underlying9
  rw [HTK.out] at cvt
  rw [show d.length + 5 = 3 + (d.length + 2) by omega] at cvt
  clear hR
  go_wp2_with fail
  have hd2 := HD2.out.below HB3.out
  rw [if_neg hcne] at hd2
  have hrv := readvar_one _ _ _ bb _ _ (hd2.more HB3.out.size) (by have := HBB.out; omega)
  rw [HBB.out] at hrv
  have HRW := Lib.hid hrv
  clear hd2 hrv
  refine HRW.out.mono ?_
  rintro e w' ⟨rfl, rfl⟩
  go_wp2_with fail
  have hcm : CmpK (w3.alloc (.cells #[.string ⟨CL.toArray⟩, .pointer (some ⟨p, 0, none⟩), .int .i64 3] 81)) w3.heap.size CL p 3 g 421 := ⟨Blk.new _ _ _, HP.out.alloc _, HV.out.alloc _⟩
  have HCM := Lib.hid hcm
  have HBW := Lib.hid (HB3.out.alloc HB3.out.size (.cells #[.string ⟨CL.toArray⟩, .pointer (some ⟨p, 0, none⟩), .int .i64 3] 81))
  clear hcm
  refine (val_421 _ p g x y bb v d _ (HT.out.below HBW.out) (by have := HCM.out; rw [HCL.out] at this ⊢; exact this) HBB.out HX.out HY.out hd HVV.out).mono ?_
  rintro e w5 ⟨rfl, hb5⟩
  have HF := Lib.hid (show CmpK w5 w3.heap.size CL p 3 g 421 from HCM.out.below hb5)
  have HBF := Lib.hid (HBW.out.trans (hb5.mono HBW.out.size))
  clear hb5
  go_wp2_with fail
  go_ret3
  exact ⟨w3.heap.size, p, g, by rw [show ((d.length + 5 : Nat) : Int) = 3 + ((d.length : Int) + 2) by omega]; rfl, by have := HF.out; rw [HCL.out] at this; exact this, HBF.out⟩
end Go.Proofs.YtghddiboggdhcaaGreatDoor
/- readComponent at a part of which the last byte is lost: an error. -/
namespace Go.Proofs.YtghddiboggdhcaaGreatDoor
open Go.RowKit
attribute [local go_sem ↓] Go.wp_at_zero Go.wp_at_succ
def OutE1 (w : World) (e : Ending) (w' : World) : Prop := ∃ t v, e = .returned (.iface t v) ∧ Below w.heap.size w w'
def OutE3 (w : World) (e : Ending) (w' : World) : Prop := ∃ t v, e = .returned (.tuple #[.int .i64 0, .pointer none, .iface t v]) ∧ Below w.heap.size w w'
structure Und (w : World) : Prop where
  held : ∃ t v, w.cell? ⟨5, 0, none⟩ = some (.iface t v)
theorem Und.below {w w' : World} (h : Und w) (hb : Below w.heap.size w w') : Und w' := by
  obtain ⟨t, v, hc⟩ := h.held
  exact ⟨t, v, (hb.cell (World.block_lt_of_cell? _ _ hc)).trans hc⟩
theorem errnew_any (s : ByteArray) (w : World) : Calls Tryz.prog 38 #[.string s] w (OutE1 w) := by
  go_enter Tryz.func38, Tryz.ntmps38
  go_wp2_with fail
  go_ret
  exact ⟨_, _, rfl, (Below.refl _ w).alloc (Nat.le_refl _) _⟩
end Go.Proofs.YtghddiboggdhcaaGreatDoor
/- Values checked and turned into text, whatever their bytes: the short ones. No condition. -/
namespace Go.Proofs.YtghddiboggdhcaaGreatDoor
open Go.RowKit
variable {K : Nat}
attribute [local go_sem ↓] Go.wp_at_zero Go.wp_at_succ
def OutVal (ok : Bool) (w : World) (e : Ending) (w' : World) : Prop := ((ok = true ∧ e = .returned .nilIface) ∨ (ok = false ∧ ∃ t v, e = .returned (.iface t v))) ∧ Below w.heap.size w w'
def OutBS (ok : Bool) (w : World) (e : Ending) (w' : World) : Prop := ((ok = true ∧ ∃ s, e = .returned (.tuple #[.string s, .nilIface])) ∨ (ok = false ∧ ∃ s t v, e = .returned (.tuple #[.string s, .iface t v]))) ∧ Below w.heap.size w w'
theorem OutSE.bs {w w' : World} {e : Ending} (h : OutSE w e w') : OutBS true w e w' := by
  obtain ⟨s, h1, h2⟩ := h
  exact ⟨.inl ⟨rfl, s, h1⟩, h2⟩
theorem OutE1.no {w w' : World} {e : Ending} (h : OutE1 w e w') : OutVal false w e w' := by
  obtain ⟨t, v, h1, h2⟩ := h
  exact ⟨.inr ⟨rfl, t, v, h1⟩, h2⟩
theorem http_val (A : Option Addr) (n c : Nat) (d : List UInt8) (w : World) (h : RB w w.heap.size A n c d) : Calls Tryz.prog 159 #[.slice A n c] w (OutVal (decide (d.length ≠ 0)) w) := by
  have hl := h.len
  have HE := Lib.hid (fun s => errnew_any s w)
  clear h
  rw [hl]
  go_enter Tryz.func159, Tryz.ntmps159
  by_cases hn : n = 0
  · have e1 : ((n : Int) == 0) = true := by simp; omega
    go_wp2_with fail
    refine (HE.out _).mono ?_
    rintro e w1 ⟨t, v, rfl, hb⟩
    have HB := Lib.hid hb
    clear hb
    go_wp2_with fail
    go_ret
    exact ⟨.inr ⟨by simp [hn], t, v, rfl⟩, HB.out⟩
  · have e1 : ((n : Int) == 0) = false := by simp; omega
    go_wp2_with fail
    go_ret
    exact ⟨.inl ⟨by simp [hn], rfl⟩, Below.refl _ _⟩
theorem mem_val (A : Option Addr) (n c : Nat) (d : List UInt8) (w : World) (h : RB w w.heap.size A n c d) : Calls Tryz.prog 168 #[.slice A n c] w (OutVal (decide (d.length = 8)) w) := by
  have hl := h.len
  have HE := Lib.hid (fun s => errnew_any s w)
  clear h
  rw [hl]
  go_enter Tryz.func168, Tryz.ntmps168
  by_cases hn : n = 8
  · have e1 : ((n : Int) != 8) = false := by simp; omega
    go_wp2_with fail
    go_ret
    exact ⟨.inl ⟨by simp [hn], rfl⟩, Below.refl _ _⟩
  · have e1 : ((n : Int) != 8) = true := by simp; omega
    go_wp2_with fail
    refine (HE.out _).mono ?_
    rintro e w1 ⟨t, v, rfl, hb⟩
    have HB := Lib.hid hb
    clear hb
    go_wp2_with fail
    go_ret
    exact ⟨.inr ⟨by simp [hn], t, v, rfl⟩, HB.out⟩
theorem cidr_val (A : Option Addr) (n c : Nat) (d : List UInt8) (w : World) (h : RB w w.heap.size A n c d) : Calls Tryz.prog 141 #[.slice A n c] w (OutVal (decide (d.length = 1)) w) := by
  have hl := h.len
  have HE := Lib.hid (fun s => errnew_any s w)
  clear h
  rw [hl]
  go_enter Tryz.func141, Tryz.ntmps141
  by_cases hn : n = 1
  · have e1 : ((n : Int) != 1) = false := by simp; omega
    go_wp2_with fail
    go_ret
    exact ⟨.inl ⟨by simp [hn], rfl⟩, Below.refl _ _⟩
  · have e1 : ((n : Int) != 1) = true := by simp; omega
    go_wp2_with fail
    refine (HE.out _).mono ?_
    rintro e w1 ⟨t, v, rfl, hb⟩
    have HB := Lib.hid hb
    clear hb
    go_wp2_with fail
    go_ret
    exact ⟨.inr ⟨by simp [hn], t, v, rfl⟩, HB.out⟩
theorem gar64_val (A : Option Addr) (n c : Nat) (d : List UInt8) (w : World) (h : RB w w.heap.size A n c d) : Calls Tryz.prog 150 #[.slice A n c] w (OutVal (decide (386 ≤ d.length)) w) := by
  have hl := h.len
  have HE := Lib.hid (fun s => errnew_any s w)
  clear h
  rw [hl]
  go_enter Tryz.func150, Tryz.ntmps150
  by_cases hn : 386 ≤ n
  · have e1 : decide ((n : Int) < 386) = false := by simp; omega
    go_wp2_with fail
    go_ret
    exact ⟨.inl ⟨by simp [hn], rfl⟩, Below.refl _ _⟩
  · have e1 : decide ((n : Int) < 386) = true := by simp; omega
    go_wp2_with fail
    refine (HE.out _).mono ?_
    rintro e w1 ⟨t, v, rfl, hb⟩
    have HB := Lib.hid hb
    clear hb
    go_wp2_with fail
    go_ret
    exact ⟨.inr ⟨by simp; omega, t, v, rfl⟩, HB.out⟩
theorem gar32_val (A : Option Addr) (n c : Nat) (d : List UInt8) (w : World) (h : RB w w.heap.size A n c d) : Calls Tryz.prog 153 #[.slice A n c] w (OutVal (decide (35 ≤ d.length ∨ d.length = 32)) w) := by
  have hl := h.len
  have HE := Lib.hid (fun s => errnew_any s w)
  clear h
  rw [hl]
  go_enter Tryz.func153, Tryz.ntmps153
  by_cases hn : 35 ≤ n
  · have e1 : decide ((n : Int) < 35) = false := by simp; omega
    go_wp2_with fail
    go_ret
    exact ⟨.inl ⟨by simp; omega, rfl⟩, Below.refl _ _⟩
  · have e1 : decide ((n : Int) < 35) = true := by simp; omega
    by_cases hn2 : n = 32
    · have e2 : ((n : Int) != 32) = false := by simp; omega
      go_wp2_with fail
      go_ret
      exact ⟨.inl ⟨by simp; omega, rfl⟩, Below.refl _ _⟩
    · have e2 : ((n : Int) != 32) = true := by simp; omega
      go_wp2_with fail
      refine (HE.out _).mono ?_
      rintro e w1 ⟨t, v, rfl, hb⟩
      have HB := Lib.hid hb
      clear hb
      go_wp2_with fail
      go_ret
      exact ⟨.inr ⟨by simp; omega, t, v, rfl⟩, HB.out⟩
theorem str_bts (f : Nat) (A : Option Addr) (n c : Nat) (d : List UInt8) (w : World) (h : RB w w.heap.size A n c d) (hf : f = 164 ∨ f = 132) : Calls Tryz.prog f #[.slice A n c] w (OutBS true w) := by
  have hcv := run_convert_RB h 22 5 Tryz.underlying22 Tryz.underlying5 9 Tryz.underlying9
  clear h
  rcases hf with rfl | rfl
  · go_enter Tryz.func164, Tryz.ntmps164
    go_wp2_with fail
    go_ret2
    exact ⟨.inl ⟨rfl, _, rfl⟩, Below.refl _ _⟩
  · go_enter Tryz.func132, Tryz.ntmps132
    go_wp2_with fail
    go_ret2
    exact ⟨.inl ⟨rfl, _, rfl⟩, Below.refl _ _⟩
theorem zone_bts (A : Option Addr) (n c : Nat) (d : List UInt8) (w : World) (h : RB w w.heap.size A n c d) : Calls Tryz.prog 137 #[.slice A n c] w (OutBS (decide (d.length ≠ 0)) w) := by
  have hcv := run_convert_RB h 22 5 Tryz.underlying22 Tryz.underlying5 9 Tryz.underlying9
  have hl := h.len
  have HE := Lib.hid (fun s => errnew_any s w)
  clear h
  rw [hl]
  go_enter Tryz.func137, Tryz.ntmps137
  by_cases hn : n = 0
  · have e1 : ((n : Int) == 0) = true := by simp; omega
    go_wp2_with fail
    refine (HE.out _).mono ?_
    rintro e w1 ⟨t, v, rfl, hb⟩
    have HB := Lib.hid hb
    clear hb
    go_wp2_with fail
    go_ret2
    exact ⟨.inr ⟨by simp [hn], _, t, v, rfl⟩, HB.out⟩
  · have e1 : ((n : Int) == 0) = false := by simp; omega
    go_wp2_with fail
    go_ret2
    exact ⟨.inl ⟨by simp [hn], _, rfl⟩, Below.refl _ _⟩
theorem unix_val (A : Option Addr) (n c : Nat) (d : List UInt8) (w : World) (h : RB w w.heap.size A n c d) (hn : n ≤ 100000) : Calls Tryz.prog 165 #[.slice A n c] w (OutVal (decide (2 ≤ d.length ∧ d.head? = some 47 ∧ d.getLast? ≠ some 47)) w) := by
  have hl := h.len
  have HE := Lib.hid (fun s => errnew_any s w)
  have HR := Lib.hid h
  clear h
  go_enter Tryz.func165, Tryz.ntmps165
  by_cases h2 : 2 ≤ n
  · have e1 : decide ((n : Int) < 2) = false := by simp; omega
    obtain ⟨m, rfl⟩ : ∃ m, n = m + 1 := ⟨n - 1, by omega⟩
    obtain ⟨ad, rfl, hbk, c0⟩ := HR.out.at_ (k := 0) (by omega) (by omega)
    obtain ⟨ad', e', _, cm⟩ := HR.out.at_ (k := m) (by omega) (by omega)
    injection e' with e'
    subst e'
    have c00 : w.cell? ad = some (.int .u8 (d[0]'(by omega)).toNat) := by have := c0; rwa [show ad.add 0 = ad by simp [Addr.add]] at this
    have hh : d.head? = some d[0] := by rw [List.head?_eq_getElem?, List.getElem?_eq_getElem]
    have hg : d.getLast? = some (d[m]'(by omega)) := by
      have e : d.length - 1 = m := by omega
      rw [List.getLast?_eq_getElem?, e]
      exact List.getElem?_eq_getElem _
    have hz : IntKind.i64.wrap ((m : Int) + 1 - 1) = (m : Int) := by rw [show (m : Int) + 1 - 1 = m by omega]; exact IntWalk.i64_in _ (by omega)
    generalize d[0]'(by omega) = x at *
    generalize d[m]'(by omega) = y at *
    rw [hh, hg, hl]
    clear HR c0 hh hg
    obtain ⟨X, hX⟩ : ∃ X, X = x.toNat := ⟨_, rfl⟩
    obtain ⟨Y, hY⟩ : ∃ Y, Y = y.toNat := ⟨_, rfl⟩
    rw [← hX] at c00
    rw [← hY] at cm
    have x47 : x = 47 ↔ X = 47 := by rw [hX]; exact ⟨fun e => by rw [e]; rfl, fun e => UInt8.toNat_inj.1 e⟩
    have y47 : y = 47 ↔ Y = 47 := by rw [hY]; exact ⟨fun e => by rw [e]; rfl, fun e => UInt8.toNat_inj.1 e⟩
    obtain ⟨V, hV⟩ : ∃ V, V = decide (2 ≤ m + 1 ∧ some x = some 47 ∧ some y ≠ some 47) := ⟨_, rfl⟩
    have HV : Hid (V = decide (X = 47 ∧ ¬ Y = 47)) := Lib.hid (by
      rw [hV]
      apply decide_eq_decide.2
      simp only [Option.some.injEq, ne_eq, x47, y47]
      omega)
    rw [← hV]
    clear x47 y47 hX hY hV
    by_cases q1 : X = 47
    · have f1 : ((X : Int) != 47) = false := by simp; omega
      by_cases q2 : Y = 47
      · have f2 : ((Y : Int) == 47) = true := by simp; omega
        have hv : V = false := by rw [HV.out]; simp [q2]
        clear q1 q2
        go_wp2_with fail
        refine (HE.out _).mono ?_
        rintro e w1 ⟨t, v, rfl, hb⟩
        have HB := Lib.hid hb
        clear hb
        go_wp2_with fail
        go_ret
        exact ⟨.inr ⟨hv, t, v, rfl⟩, HB.out⟩
      · have f2 : ((Y : Int) == 47) = false := by simp; omega
        have hv : V = true := by rw [HV.out]; simp [q1, q2]
        clear q1 q2
        go_wp2_with fail
        go_ret
        exact ⟨.inl ⟨hv, rfl⟩, Below.refl _ _⟩
    · have f1 : ((X : Int) != 47) = true := by simp; omega
      have hv : V = false := by rw [HV.out]; simp [q1]
      clear q1
      go_wp2_with fail
      refine (HE.out _).mono ?_
      rintro e w1 ⟨t, v, rfl, hb⟩
      have HB := Lib.hid hb
      clear hb
      go_wp2_with fail
      go_ret
      exact ⟨.inr ⟨hv, t, v, rfl⟩, HB.out⟩
  · have e1 : decide ((n : Int) < 2) = true := by simp; omega
    rw [hl]
    go_wp2_with fail
    refine (HE.out _).mono ?_
    rintro e w1 ⟨t, v, rfl, hb⟩
    have HB := Lib.hid hb
    clear hb
    go_wp2_with fail
    go_ret
    exact ⟨.inr ⟨by simp; omega, t, v, rfl⟩, HB.out⟩
end Go.Proofs.YtghddiboggdhcaaGreatDoor
/- base32: an encoding made of an alphabet. No condition beyond. -/
namespace Go.Proofs.YtghddiboggdhcaaGreatDoor
open Go.RowKit
def ff256 : ByteArray := ⟨(List.replicate 256 (255 : UInt8)).toArray⟩
structure Alph (n : Nat) (al : List UInt8) : Prop where
  len : al.length = n
  nodup : al.Nodup
  ok : ∀ c ∈ al, c ≠ 10 ∧ c ≠ 13
structure EncX (al : List UInt8) (S n : Nat) (xs : Array Value) (k : Nat) : Prop where
  size : xs.size = S
  enc : ∀ j (h : j < al.length), xs[j]? = some (.int .u8 (al[j]).toNat)
  free : ∀ c : UInt8, (∀ j (h : j < al.length), j < k → al[j] ≠ c) → xs[n + c.toNat]? = some (.int .u8 255)
  byt : ∀ c : Nat, c < 256 → ∃ b : Nat, xs[n + c]? = some (.int .u8 b)
  pad : xs[n + 256]? = some (.int .i32 61)
theorem EncX.set {al : List UInt8} {S n k : Nat} {xs : Array Value} (h : EncX al S n xs k) (hn : al.length = n) (hk : k < al.length) (hS : n + 256 < S) : EncX al S n (xs.setIfInBounds (n + (al[k]).toNat) (.int .u8 k)) (k + 1) := by
  have hl := (al[k]).toNat_lt
  refine ⟨by simp [h.size], fun j hj => ?_, fun c hc => ?_, fun c hc => ?_, ?_⟩
  · rw [Array.getElem?_setIfInBounds_ne (by omega)]; exact h.enc j hj
  · have hne : al[k] ≠ c := hc k hk (by omega)
    rw [Array.getElem?_setIfInBounds_ne (fun e => hne (UInt8.toNat_inj.1 (by omega)))]
    exact h.free c (fun j hj hjk => hc j hj (by omega))
  · by_cases e : c = (al[k]).toNat
    · subst e
      exact ⟨k, Array.getElem?_setIfInBounds_self_of_lt (by rw [h.size]; omega)⟩
    · rw [Array.getElem?_setIfInBounds_ne (by omega)]; exact h.byt c hc
  · rw [Array.getElem?_setIfInBounds_ne (by omega)]; exact h.pad
theorem ff_bytes : Lib.byteCells ff256.data.toList = List.replicate 256 (.int .u8 255) := by
  unfold Lib.byteCells ff256
  rw [List.toList_toArray, List.map_replicate]
  rfl
theorem encx_of (al : List UInt8) (S n : Nat) (zs : Array Value) (hz : zs.size = S) (hn : al.length = n) (hS : n + 256 < S) (X0 X1 : Array Value) (h0 : X0 = zs.setIfInBounds (n + 256) (.int .i32 61)) (h1 : X1 = (X0.toList.take 0 ++ Lib.byteCells al ++ X0.toList.drop (0 + n)).toArray) :
    EncX al S n (X1.toList.take n ++ Lib.byteCells ff256.data.toList ++ X1.toList.drop (n + 256)).toArray 0 := by
  have hb : (Lib.byteCells al).length = n := by simp [Lib.byteCells, hn]
  have s0 : X0.size = S := by rw [h0]; simp [hz]
  have s1 : X1.size = S := by rw [h1]; simp only [List.size_toArray, List.length_append, List.take_zero, List.length_nil, hb, List.length_drop, Array.length_toList, s0]; omega
  have t1 : X1.toList.take n = Lib.byteCells al := by
    rw [h1, List.toList_toArray, List.take_zero, List.nil_append]
    exact List.take_left' hb
  have d1 : X1[n + 256]? = some (.int .i32 61) := by
    rw [h1, List.getElem?_toArray, List.take_zero, List.nil_append, List.getElem?_append_right (by omega), hb, List.getElem?_drop, Array.getElem?_toList, h0, show 0 + n + (n + 256 - n) = n + 256 by omega]
    exact Array.getElem?_setIfInBounds_self_of_lt (by omega)
  rw [ff_bytes, t1]
  have hat : ∀ c, c < 256 → (Lib.byteCells al ++ List.replicate 256 (Value.int .u8 255) ++ X1.toList.drop (n + 256)).toArray[n + c]? = some (.int .u8 255) := fun c hc => by
    rw [List.getElem?_toArray, List.getElem?_append_left (by rw [List.length_append, hb, List.length_replicate]; omega), List.getElem?_append_right (by omega), hb, Nat.add_sub_cancel_left, List.getElem?_replicate, if_pos hc]
  refine ⟨?_, fun j hj => ?_, fun c _ => hat _ c.toNat_lt, fun c hc => ⟨255, hat c hc⟩, ?_⟩
  · simp only [List.size_toArray, List.length_append, hb, List.length_replicate, List.length_drop, Array.length_toList, s1]; omega
  · rw [List.getElem?_toArray, List.getElem?_append_left (by rw [List.length_append, hb]; omega), List.getElem?_append_left (by omega)]
    simp [Lib.byteCells, hj]
  · rw [List.getElem?_toArray, List.getElem?_append_right (by rw [List.length_append, hb, List.length_replicate]; omega), List.length_append, hb, List.length_replicate, List.getElem?_drop, Nat.sub_self, Nat.add_zero, Array.getElem?_toList]
    exact d1
theorem newenc32_x (al : List UInt8) (ha : Alph 32 al) (w : World) : Calls Tryz.prog 218 #[.string ⟨al.toArray⟩] w fun e w' => ∃ xs, e = .returned (.pointer (some ⟨w.heap.size, 0, none⟩)) ∧ Blk w' w.heap.size 244 xs ∧ EncX al 289 32 xs 32 ∧ Below w.heap.size w w' := by
  have hsz := size_toArray al
  have hl := ha.len
  rw [hl] at hsz
  have hz : (Tryz.zeroCells244).size = 289 := by rfl
  obtain ⟨X0, hX0⟩ : ∃ X, X = (Tryz.zeroCells244).setIfInBounds 288 (.int .i32 61) := ⟨_, rfl⟩
  have s0 : X0.size = 289 := by rw [hX0]; simp [hz]
  have hcp1 := fun ty => Lib.run_copy_row_string (P := Tryz.prog) (w.alloc (.cells X0 244)) 22 9 ty 5 w.heap.size 0 32 32 ⟨al.toArray⟩ _ 244 Tryz.underlying22 (by kernel_rfl) (heap_alloc_new _ _) (by rw [hsz]; decide) (by rw [hsz, s0]; decide)
  rw [hsz] at hcp1
  obtain ⟨X1, hX1⟩ : ∃ X1, X1 = (X0.toList.take 0 ++ Lib.byteCells al ++ X0.toList.drop (0 + 32)).toArray := ⟨_, rfl⟩
  have hX1' : (X0.toList.take 0 ++ Lib.byteCells (⟨al.toArray⟩ : ByteArray).data.toList ++ X0.toList.drop (0 + 32)).toArray = X1 := by rw [hX1]
  rw [hX1'] at hcp1
  simp only [alloc_setRow] at hcp1
  have s1 : X1.size = 289 := by rw [hX1]; simp [Lib.byteCells, hl, s0]
  have hf : ff256.size = 256 := by rfl
  have hcp2 := fun ty => Lib.run_copy_row_string (P := Tryz.prog) (w.alloc (.cells X1 244)) 22 9 ty 5 w.heap.size 32 256 256 ff256 _ 244 Tryz.underlying22 (by kernel_rfl) (heap_alloc_new _ _) (by rw [hf]; decide) (by rw [hf, s1]; decide)
  rw [hf] at hcp2
  have hex := encx_of al 289 32 _ hz hl (by decide) X0 X1 hX0 hX1
  obtain ⟨X2, hX2⟩ : ∃ X2, X2 = (X1.toList.take 32 ++ Lib.byteCells ff256.data.toList ++ X1.toList.drop (32 + 256)).toArray := ⟨_, rfl⟩
  rw [← hX2] at hcp2 hex
  simp only [alloc_setRow] at hcp2
  have HEX := Lib.hid hex
  have HA := Lib.hid ha
  rw [hX0] at hcp1
  have hff : ff256 = ⟨#[255, 255, 255, 255, 255, 255, 255, 255, 255, 255, 255, 255, 255, 255, 255, 255, 255, 255, 255, 255, 255, 255, 255, 255, 255, 255, 255, 255, 255, 255, 255, 255, 255, 255, 255, 255, 255, 255, 255, 255, 255, 255, 255, 255, 255, 255, 255, 255, 255, 255, 255, 255, 255, 255, 255, 255, 255, 255, 255, 255, 255, 255, 255, 255, 255, 255, 255, 255, 255, 255, 255, 255, 255, 255, 255, 255, 255, 255, 255, 255, 255, 255, 255, 255, 255, 255, 255, 255, 255, 255, 255, 255, 255, 255, 255, 255, 255, 255, 255, 255, 255, 255, 255, 255, 255, 255, 255, 255, 255, 255, 255, 255, 255, 255, 255, 255, 255, 255, 255, 255, 255, 255, 255, 255, 255, 255, 255, 255, 255, 255, 255, 255, 255, 255, 255, 255, 255, 255, 255, 255, 255, 255, 255, 255, 255, 255, 255, 255, 255, 255, 255, 255, 255, 255, 255, 255, 255, 255, 255, 255, 255, 255, 255, 255, 255, 255, 255, 255, 255, 255, 255, 255, 255, 255, 255, 255, 255, 255, 255, 255, 255, 255, 255, 255, 255, 255, 255, 255, 255, 255, 255, 255, 255, 255, 255, 255, 255, 255, 255, 255, 255, 255, 255, 255, 255, 255, 255, 255, 255, 255, 255, 255, 255, 255, 255, 255, 255, 255, 255, 255, 255, 255, 255, 255, 255, 255, 255, 255, 255, 255, 255, 255, 255, 255, 255, 255, 255, 255, 255, 255, 255, 255, 255, 255, 255, 255, 255, 255, 255, 255, 255, 255, 255, 255, 255, 255]⟩ := by rfl
  rw [hff] at hcp2
  clear ha hX1 hX1' hX2 hex s0 s1 hX0 hz hf hff
  go_enter Tryz.func218, Tryz.ntmps218
  go_wp2_with fail
  go_loopw [4] (fun i wr => ∃ (k : Nat) (xs : Array Value), k ≤ 32 ∧ i = .int .i64 k ∧ Blk wr w.heap.size 244 xs ∧ EncX al 289 32 xs k ∧ Below w.heap.size w wr) (fun i _ => 32 - (intOf i).toNat)
  case atStart => exact ⟨0, X2, by omega, rfl, Blk.new _ _ _, HEX.out, (Below.refl _ w).alloc (Nat.le_refl _) _⟩
  case round =>
    obtain ⟨k, xs, hk, rfl, hblk, hex, hb⟩ := hrel
    have HK := Lib.hid hblk
    have HX := Lib.hid hex
    have HB := Lib.hid hb
    clear hb hblk hex hcp1 hcp2 HEX
    by_cases hlt : k < 32
    · have hka : k < al.length := by rw [hl]; exact hlt
      obtain ⟨o1, o2⟩ := HA.out.ok _ (List.getElem_mem hka)
      have hfree := HX.out.free al[k] (fun j hj hjk e => by have := (List.getElem_inj HA.out.nodup).1 e; omega)
      have hset := Lib.hid (HX.out.set HA.out.len hka (by decide))
      obtain ⟨C, hC⟩ : ∃ C, C = al[k] := ⟨_, rfl⟩
      have hix : ∀ h : k < (⟨al.toArray⟩ : ByteArray).size, (⟨al.toArray⟩ : ByteArray)[k]'h = C := fun _ => hC.symm
      rw [← hC] at o1 o2 hfree hset
      clear hC
      have c0 : wr.cell? ⟨w.heap.size, 32 + C.toNat, none⟩ = some (.int .u8 255) := (HK.out.cell _).trans hfree
      have f0 := HK.out.frozen (32 + C.toNat)
      have e1 : ((C.toNat : Int) == 10) = false := by
        rw [beq_eq_false_iff_ne]; exact fun e => o1 (UInt8.toNat_inj.1 (by simpa using (by omega : C.toNat = 10)))
      have e2 : ((C.toNat : Int) == 13) = false := by
        rw [beq_eq_false_iff_ne]; exact fun e => o2 (UInt8.toNat_inj.1 (by simpa using (by omega : C.toNat = 13)))
      have hCl := C.toNat_lt
      have hw8 : IntKind.u8.wrap (k : Int) = k := by rw [IntKind.wrap_u8]; omega
      go_wp2_with fail
      go_quiet (fail)
      go_wp2_with fail
      have hCi : (C.toNat : Int) < 256 := by omega
      have c0' : ∀ n, (wr.drewN n).cell? ⟨w.heap.size, 32 + C.toNat, none⟩ = some (.int .u8 255) := fun _ => c0
      have f0' : ∀ n, (wr.drewN n).frozen? ⟨w.heap.size, 32 + C.toNat, none⟩ = false := fun _ => f0
      go_region_law (fail)
      all_goals (
        go_wp2_with fail
        exact ⟨⟨k + 1, _, by omega, by go_num, (HK.out.drewN _).set_ (32 + C.toNat) _, hset.out, (below_drewN HB.out _).setCell (p := ⟨w.heap.size, 32 + C.toNat, none⟩) (Nat.le_refl _) _⟩, by simp [intOf]; omega⟩)
    · obtain rfl : k = 32 := by omega
      go_wp2_with fail
      go_ret
      exact ⟨xs, rfl, HK.out, HX.out, HB.out⟩
end Go.Proofs.YtghddiboggdhcaaGreatDoor
/- spec.addrNumber at the numbers that occur, slices.Grow of nil: what they return. -/
namespace Go.Proofs.YtghddiboggdhcaaGreatDoor
open Go.RowKit
def OwnB (l : List UInt8) (w : World) (e : Ending) (w' : World) : Prop :=
  ∃ v, e = .returned v ∧ w'.ownsRow w.heap.size 5 1 v l.length (bv l) ∧ Below w.heap.size w w'
theorem OwnB.out {l : List UInt8} {w w' : World} {e : Ending} (h : OwnB l w e w') : OutB l w e w' := by
  obtain ⟨v, rfl, h, hb⟩ := h
  exact OutB.of_own h hb
theorem number_small (n : Nat) (w : World) (hn : n < 128) : Calls Tryz.prog 34 #[.int .i64 n] w (OwnB [UInt8.ofNat n] w) := by
  obtain ⟨i0, hi0, hz0, hz1, hz2⟩ := info_parts u8_info
  go_enter Tryz.func34, Tryz.ntmps34
  go_wp2_with fail
  refine wp_loop_rounds 1 ?_
  rw [rounds_succ]
  go_wp2_with (at_builtin; refine wpList_append_any _ rfl (.tmp 14) (.tmp 17) _ rfl w.heap.size 5 i0 _ 1 1 Tryz.underlying22 hi0 hz0 hz1 hz2 rfl (by decide) _ _ _ rfl (World.ownsRow_nil _ _ _ _) _ _ 1 1 [.int .u8 n] rfl (reads_new w #[.int .u8 n] 5 1 1 rfl) (by simp; rfl) ?c1 ?c2 ?c3 ?_)
  case c1 => simp [maxLen]
  case c2 => omega
  case c3 => simp
  intro v' w1 hown hgrow _hat
  go_wp2
  go_ret
  refine ⟨v', rfl, ?_, ((Below.refl _ w).alloc (Nat.le_refl _) _).grown hgrow (by simp) (by intro k hk; simp [Value.ownBlock] at hk)⟩
  have e : bv [UInt8.ofNat n] = [Value.int .u8 n] := by simp [bv]; omega
  rw [e]
  exact hown
theorem number_421 (w : World) : Calls Tryz.prog 34 #[.int .i64 421] w (OwnB [165, 3] w) := by
  obtain ⟨i0, hi0, hz0, hz1, hz2⟩ := info_parts u8_info
  go_enter Tryz.func34, Tryz.ntmps34
  go_wp2_with fail
  refine wp_loop_rounds 2 ?_
  rw [rounds_succ]
  go_wp2_with (at_builtin; refine wpList_append_any _ rfl (.tmp 6) (.tmp 10) _ rfl w.heap.size 5 i0 _ 1 1 Tryz.underlying22 hi0 hz0 hz1 hz2 rfl (by decide) _ _ _ rfl (World.ownsRow_nil _ _ _ _) _ _ 1 1 [.int .u8 165] rfl (reads_new w #[.int .u8 165] 5 1 1 rfl) (by simp; rfl) ?c1 ?c2 ?c3 ?_)
  case c1 => simp [maxLen]
  case c2 => omega
  case c3 => simp
  intro v1 w1 hown1 hgrow1 _hat
  have hb1 : Below w.heap.size w w1 := ((Below.refl _ w).alloc (Nat.le_refl _) _).grown hgrow1 (by simp) (by intro k hk; simp [Value.ownBlock] at hk)
  have hH := Lib.hid hown1
  clear hown1 hgrow1 _hat
  go_wp2_with fail
  rw [rounds_succ]
  go_wp2_with (at_builtin; refine wpList_append_any _ rfl (.tmp 14) (.tmp 17) _ rfl w.heap.size 5 i0 _ 1 1 Tryz.underlying22 hi0 hz0 hz1 hz2 rfl (by decide) _ 1 [.int .u8 165] rfl (hH.out.alloc _) _ _ 1 1 [.int .u8 3] rfl (reads_new w1 #[.int .u8 3] 5 1 1 rfl) (by simp; rfl) ?c1 ?c2 ?c3 ?_)
  case c1 => simp [maxLen]
  case c2 => omega
  case c3 => have := hb1.size; simp; omega
  intro v2 w2 hown2 hgrow2 _hat
  go_wp2
  go_ret
  exact ⟨v2, rfl, hown2, (hb1.alloc hb1.size _).grown hgrow2 (by have := hb1.size; simp; omega) (fun k hk => (hH.out.lt k hk).1)⟩
theorem number_273 (w : World) : Calls Tryz.prog 34 #[.int .i64 273] w (OwnB [145, 2] w) := by
  obtain ⟨i0, hi0, hz0, hz1, hz2⟩ := info_parts u8_info
  go_enter Tryz.func34, Tryz.ntmps34
  go_wp2_with fail
  refine wp_loop_rounds 2 ?_
  rw [rounds_succ]
  go_wp2_with (at_builtin; refine wpList_append_any _ rfl (.tmp 6) (.tmp 10) _ rfl w.heap.size 5 i0 _ 1 1 Tryz.underlying22 hi0 hz0 hz1 hz2 rfl (by decide) _ _ _ rfl (World.ownsRow_nil _ _ _ _) _ _ 1 1 [.int .u8 145] rfl (reads_new w #[.int .u8 145] 5 1 1 rfl) (by simp; rfl) ?c1 ?c2 ?c3 ?_)
  case c1 => simp [maxLen]
  case c2 => omega
  case c3 => simp
  intro v1 w1 hown1 hgrow1 _hat
  have hb1 : Below w.heap.size w w1 := ((Below.refl _ w).alloc (Nat.le_refl _) _).grown hgrow1 (by simp) (by intro k hk; simp [Value.ownBlock] at hk)
  have hH := Lib.hid hown1
  clear hown1 hgrow1 _hat
  go_wp2_with fail
  rw [rounds_succ]
  go_wp2_with (at_builtin; refine wpList_append_any _ rfl (.tmp 14) (.tmp 17) _ rfl w.heap.size 5 i0 _ 1 1 Tryz.underlying22 hi0 hz0 hz1 hz2 rfl (by decide) _ 1 [.int .u8 145] rfl (hH.out.alloc _) _ _ 1 1 [.int .u8 2] rfl (reads_new w1 #[.int .u8 2] 5 1 1 rfl) (by simp; rfl) ?c1 ?c2 ?c3 ?_)
  case c1 => simp [maxLen]
  case c2 => omega
  case c3 => have := hb1.size; simp; omega
  intro v2 w2 hown2 hgrow2 _hat
  go_wp2
  go_ret
  exact ⟨v2, rfl, hown2, (hb1.alloc hb1.size _).grown hgrow2 (by have := hb1.size; simp; omega) (fun k hk => (hH.out.lt k hk).1)⟩
theorem number_461 (w : World) : Calls Tryz.prog 34 #[.int .i64 461] w (OwnB [205, 3] w) := by
  obtain ⟨i0, hi0, hz0, hz1, hz2⟩ := info_parts u8_info
  go_enter Tryz.func34, Tryz.ntmps34
  go_wp2_with fail
  refine wp_loop_rounds 2 ?_
  rw [rounds_succ]
  go_wp2_with (at_builtin; refine wpList_append_any _ rfl (.tmp 6) (.tmp 10) _ rfl w.heap.size 5 i0 _ 1 1 Tryz.underlying22 hi0 hz0 hz1 hz2 rfl (by decide) _ _ _ rfl (World.ownsRow_nil _ _ _ _) _ _ 1 1 [.int .u8 205] rfl (reads_new w #[.int .u8 205] 5 1 1 rfl) (by simp; rfl) ?c1 ?c2 ?c3 ?_)
  case c1 => simp [maxLen]
  case c2 => omega
  case c3 => simp
  intro v1 w1 hown1 hgrow1 _hat
  have hb1 : Below w.heap.size w w1 := ((Below.refl _ w).alloc (Nat.le_refl _) _).grown hgrow1 (by simp) (by intro k hk; simp [Value.ownBlock] at hk)
  have hH := Lib.hid hown1
  clear hown1 hgrow1 _hat
  go_wp2_with fail
  rw [rounds_succ]
  go_wp2_with (at_builtin; refine wpList_append_any _ rfl (.tmp 14) (.tmp 17) _ rfl w.heap.size 5 i0 _ 1 1 Tryz.underlying22 hi0 hz0 hz1 hz2 rfl (by decide) _ 1 [.int .u8 205] rfl (hH.out.alloc _) _ _ 1 1 [.int .u8 3] rfl (reads_new w1 #[.int .u8 3] 5 1 1 rfl) (by simp; rfl) ?c1 ?c2 ?c3 ?_)
  case c1 => simp [maxLen]
  case c2 => omega
  case c3 => have := hb1.size; simp; omega
  intro v2 w2 hown2 hgrow2 _hat
  go_wp2
  go_ret
  exact ⟨v2, rfl, hown2, (hb1.alloc hb1.size _).grown hgrow2 (by have := hb1.size; simp; omega) (fun k hk => (hH.out.lt k hk).1)⟩
theorem number_477 (w : World) : Calls Tryz.prog 34 #[.int .i64 477] w (OwnB [221, 3] w) := by
  obtain ⟨i0, hi0, hz0, hz1, hz2⟩ := info_parts u8_info
  go_enter Tryz.func34, Tryz.ntmps34
  go_wp2_with fail
  refine wp_loop_rounds 2 ?_
  rw [rounds_succ]
  go_wp2_with (at_builtin; refine wpList_append_any _ rfl (.tmp 6) (.tmp 10) _ rfl w.heap.size 5 i0 _ 1 1 Tryz.underlying22 hi0 hz0 hz1 hz2 rfl (by decide) _ _ _ rfl (World.ownsRow_nil _ _ _ _) _ _ 1 1 [.int .u8 221] rfl (reads_new w #[.int .u8 221] 5 1 1 rfl) (by simp; rfl) ?c1 ?c2 ?c3 ?_)
  case c1 => simp [maxLen]
  case c2 => omega
  case c3 => simp
  intro v1 w1 hown1 hgrow1 _hat
  have hb1 : Below w.heap.size w w1 := ((Below.refl _ w).alloc (Nat.le_refl _) _).grown hgrow1 (by simp) (by intro k hk; simp [Value.ownBlock] at hk)
  have hH := Lib.hid hown1
  clear hown1 hgrow1 _hat
  go_wp2_with fail
  rw [rounds_succ]
  go_wp2_with (at_builtin; refine wpList_append_any _ rfl (.tmp 14) (.tmp 17) _ rfl w.heap.size 5 i0 _ 1 1 Tryz.underlying22 hi0 hz0 hz1 hz2 rfl (by decide) _ 1 [.int .u8 221] rfl (hH.out.alloc _) _ _ 1 1 [.int .u8 3] rfl (reads_new w1 #[.int .u8 3] 5 1 1 rfl) (by simp; rfl) ?c1 ?c2 ?c3 ?_)
  case c1 => simp [maxLen]
  case c2 => omega
  case c3 => have := hb1.size; simp; omega
  intro v2 w2 hown2 hgrow2 _hat
  go_wp2
  go_ret
  exact ⟨v2, rfl, hown2, (hb1.alloc hb1.size _).grown hgrow2 (by have := hb1.size; simp; omega) (fun k hk => (hH.out.lt k hk).1)⟩
theorem number_290 (w : World) : Calls Tryz.prog 34 #[.int .i64 290] w (OwnB [162, 2] w) := by
  obtain ⟨i0, hi0, hz0, hz1, hz2⟩ := info_parts u8_info
  go_enter Tryz.func34, Tryz.ntmps34
  go_wp2_with fail
  refine wp_loop_rounds 2 ?_
  rw [rounds_succ]
  go_wp2_with (at_builtin; refine wpList_append_any _ rfl (.tmp 6) (.tmp 10) _ rfl w.heap.size 5 i0 _ 1 1 Tryz.underlying22 hi0 hz0 hz1 hz2 rfl (by decide) _ _ _ rfl (World.ownsRow_nil _ _ _ _) _ _ 1 1 [.int .u8 162] rfl (reads_new w #[.int .u8 162] 5 1 1 rfl) (by simp; rfl) ?c1 ?c2 ?c3 ?_)
  case c1 => simp [maxLen]
  case c2 => omega
  case c3 => simp
  intro v1 w1 hown1 hgrow1 _hat
  have hb1 : Below w.heap.size w w1 := ((Below.refl _ w).alloc (Nat.le_refl _) _).grown hgrow1 (by simp) (by intro k hk; simp [Value.ownBlock] at hk)
  have hH := Lib.hid hown1
  clear hown1 hgrow1 _hat
  go_wp2_with fail
  rw [rounds_succ]
  go_wp2_with (at_builtin; refine wpList_append_any _ rfl (.tmp 14) (.tmp 17) _ rfl w.heap.size 5 i0 _ 1 1 Tryz.underlying22 hi0 hz0 hz1 hz2 rfl (by decide) _ 1 [.int .u8 162] rfl (hH.out.alloc _) _ _ 1 1 [.int .u8 2] rfl (reads_new w1 #[.int .u8 2] 5 1 1 rfl) (by simp; rfl) ?c1 ?c2 ?c3 ?_)
  case c1 => simp [maxLen]
  case c2 => omega
  case c3 => have := hb1.size; simp; omega
  intro v2 w2 hown2 hgrow2 _hat
  go_wp2
  go_ret
  exact ⟨v2, rfl, hown2, (hb1.alloc hb1.size _).grown hgrow2 (by have := hb1.size; simp; omega) (fun k hk => (hH.out.lt k hk).1)⟩
end Go.Proofs.YtghddiboggdhcaaGreatDoor
/- slices.Grow of nil, slices.Concat of bytes: what they return. -/
namespace Go.Proofs.YtghddiboggdhcaaGreatDoor
open Go.RowKit
theorem grow_nil (n : Nat) (w : World) (hn : n ≤ 1000000) : Calls Tryz.prog 53 #[.slice none 0 0, .int .i64 n] w (OwnB [] w) := by
  obtain ⟨i0, hi0, hz0, hz1, hz2⟩ := info_parts u8_info
  by_cases h0 : n = 0
  · subst h0
    go_enter Tryz.func53, Tryz.ntmps53
    go_wp2
    go_ret
    exact ⟨_, rfl, World.ownsRow_nil _ _ _ _, Below.refl _ _⟩
  have hpos : 0 < n := by omega
  have hrz : ∀ ty, (Builtin.append_ #[22, 3] ty #[.slice none 0 0, .int .i64 (n : Int)]).run Tryz.prog w =
      .ok (.slice (some ⟨w.heap.size, 0, none⟩) n (grownCap w n 0 5)) (w.drew.alloc (.cells (Builtin.zeroCells (Value.int .u8 0).cells n ++ Builtin.zeroCells (Value.int .u8 0).cells (grownCap w n 0 5 - n)) 5)) := fun ty => by
    have h := Lib.run_append_grow_zeros (P := Tryz.prog) w 22 3 ty 5 i0 (.int .u8 0) .i64 .i64 Tryz.underlying22 Tryz.underlying3 hi0 hz0 none 0 0 [] (run_firstCells_none w.drew i0.size 0 0 0) n (by omega) (by omega) (by omega) (by omega) (by rw [hz2]; omega) (growslice_fits (by omega) (by rw [hz2]; omega))
    simpa using h
  have hle : n ≤ grownCap w n 0 5 := grownCap_ge w _ _ _
  have hmx : grownCap w n 0 5 ≤ maxLen := grownCap_le_maxLen w n 0 5 (by unfold maxLen; omega)
  obtain ⟨G, hG⟩ : ∃ G, G = grownCap w n 0 5 := ⟨_, rfl⟩
  rw [← hG] at hrz hle hmx
  have hGG := Lib.hid hmx
  have hRR := Lib.hid hz2
  clear hG hmx
  go_enter Tryz.func53, Tryz.ntmps53
  go_wp2_with (at_builtin; refine Lib.wpList_append_run _ rfl _ _ _ _ rfl _ _ rfl rfl _ _ (hrz _) ?_)
  all_goals go_ret
  refine ⟨_, rfl, ⟨by simp [bv], .inr ⟨w.heap.size, G, _, rfl, Nat.le_refl _, heap_alloc_new w _, Nat.zero_le _, hGG.out, ?_, by simp [bv]⟩⟩, ((Below.refl _ w).alloc (Nat.le_refl _) _).drew⟩
  rw [Array.size_append, size_zeroCells, size_zeroCells]
  simp
  omega
structure Part where
  A : Option Addr
  n : Nat
  c : Nat
  l : List UInt8
def Part.v (p : Part) : Value := .slice p.A p.n p.c
def partsSize (ps : List Part) : Nat := (ps.map (·.n)).sum
def partsBytes (ps : List Part) : List UInt8 := ps.flatMap (·.l)
theorem partsSize_take (ps : List Part) (k : Nat) (h : k < ps.length) : partsSize (ps.take (k + 1)) = partsSize (ps.take k) + (ps[k]).n := by
  unfold partsSize
  rw [List.take_succ_eq_append_getElem h, List.map_append, List.sum_append]
  simp
theorem partsSize_le (ps : List Part) (k : Nat) : partsSize (ps.take k) ≤ partsSize ps := by
  unfold partsSize
  rw [show (ps.map (·.n)).sum = ((ps.take k ++ ps.drop k).map (·.n)).sum by rw [List.take_append_drop]]
  rw [List.map_append, List.sum_append]
  omega
theorem partsBytes_take (ps : List Part) (k : Nat) (h : k < ps.length) : partsBytes (ps.take (k + 1)) = partsBytes (ps.take k) ++ (ps[k]).l := by
  unfold partsBytes
  rw [List.take_succ_eq_append_getElem h, List.flatMap_append]
  simp
theorem partsBytes_len (ps : List Part) (h : ∀ p ∈ ps, p.l.length = p.n) : (partsBytes ps).length = partsSize ps := by
  induction ps with
  | nil => rfl
  | cons p ps ih =>
    have h1 := h p (by simp)
    have h2 := ih (fun q hq => h q (by simp [hq]))
    unfold partsBytes partsSize at *
    simp only [List.flatMap_cons, List.length_append, List.map_cons, List.sum_cons]
    omega
theorem concat_any (ps : List Part) (g c : Nat) (w : World) (hr : ∀ k (h : k < ps.length), w.cell? ⟨g, k, none⟩ = some (ps[k]).v) (hg : g < w.heap.size) (hc : ps.length ≤ 100) (hp : ∀ p ∈ ps, RB w w.heap.size p.A p.n p.c p.l) (hs : partsSize ps ≤ 1000000) :
    Calls Tryz.prog 36 #[.slice (some ⟨g, 0, none⟩) ps.length c] w (OwnB (partsBytes ps) w) := by
  obtain ⟨i0, hi0, hz0, hz1, hz2⟩ := info_parts u8_info
  have HR := Lib.hid hr
  have HP := Lib.hid hp
  have HS := Lib.hid hs
  clear hr hp hs
  go_enter Tryz.func36, Tryz.ntmps36
  go_wp2_with fail
  go_loop [3, 11] (fun t i => ∃ k : Nat, k ≤ ps.length ∧ i = .int .i64 k ∧ t = .int .i64 (partsSize (ps.take k))) (fun _ i => ps.length - (intOf i).toNat)
  case atStart => exact ⟨0, by omega, rfl, rfl⟩
  case round =>
    obtain ⟨k, hk, rfl, rfl⟩ := hrel
    by_cases hlt : k < ps.length
    · have hcell := HR.out k hlt
      have hb := partsSize_le ps (k + 1)
      have h1 := partsSize_take ps k hlt
      have h2 := HS.out
      have HB : Hid (partsSize (ps.take (k + 1)) = partsSize (ps.take k) + (ps[k]).n) := h1
      have hb2 : partsSize (ps.take k) + (ps[k]).n ≤ 1000000 := by omega
      clear h1 hb h2
      obtain ⟨q, hq⟩ : ∃ q, q = ps[k] := ⟨_, rfl⟩
      rw [← hq] at hcell HB hb2
      have HQ := Lib.hid hq
      clear hq
      unfold Part.v at hcell
      go_wp2_with fail
      go_round
      case rel => exact ⟨k + 1, by omega, by go_num, by rw [HB.out]; go_num⟩
      case measure => simp [intOf]; omega
    · have hkk : k = ps.length := by omega
      subst hkk
      have hS := HS.out
      rw [List.take_length]
      go_wp2_with fail
      refine (grow_nil _ _ hS).mono ?_
      rintro e w1 ⟨v, rfl, hown, hb⟩
      have HO := Lib.hid hown
      have hz := hb.size
      clear hown
      go_wp2_with fail
      go_loopw [6, 27] (fun v i wr => ∃ k : Nat, k ≤ ps.length ∧ i = .int .i64 k ∧ wr.ownsRow w.heap.size 5 1 v (partsSize (ps.take k)) (bv (partsBytes (ps.take k))) ∧ Below w.heap.size w wr) (fun _ i _ => ps.length - (intOf i).toNat)
      case atStart => exact ⟨0, by omega, rfl, HO.out, hb⟩
      case round =>
        obtain ⟨k, hk, rfl, hown, hbr⟩ := hrel
        have HO2 := Lib.hid hown
        have HBR := Lib.hid hbr
        have hzr := hbr.size
        clear hown hbr HO hb hz hS
        by_cases hlt : k < ps.length
        · have hb := partsSize_le ps (k + 1)
          have h1 := partsSize_take ps k hlt
          have h2 := HS.out
          have h3 := partsBytes_take ps k hlt
          have hq1 := (HP.out _ (List.getElem_mem hlt)).below HBR.out
          have hcell := (HBR.out.cell (p := ⟨g, k, none⟩) hg).trans (HR.out k hlt)
          have hb2 : partsSize (ps.take k) + (ps[k]).n ≤ 1000000 := by omega
          have HB : Hid (partsSize (ps.take (k + 1)) = partsSize (ps.take k) + (ps[k]).n) := h1
          have HC : Hid (partsBytes (ps.take (k + 1)) = partsBytes (ps.take k) ++ (ps[k]).l) := h3
          clear h1 hb h2 h3
          obtain ⟨q, hq⟩ : ∃ q, q = ps[k] := ⟨_, rfl⟩
          rw [← hq] at hcell HB hb2 HC hq1
          have HQ := Lib.hid hq1
          clear hq hq1
          unfold Part.v at hcell
          go_wp2_with (at_builtin; refine wpList_append_any _ rfl (.tmp 31) (.tmp 32) _ rfl w.heap.size 5 i0 _ 1 1 Tryz.underlying22 hi0 hz0 hz1 hz2 rfl (by decide) _ _ _ rfl HO2.out _ q.A q.n q.c (bv q.l) rfl HQ.out.reads (bv_one _) ?c1 ?c2 ?c3 ?_)
          case c1 => unfold maxLen; omega
          case c2 => omega
          case c3 => exact hzr
          intro v2 w2 hown2 hgrow2 _hat
          have HO3 := Lib.hid hown2
          have HG := Lib.hid hgrow2
          clear hown2 hgrow2 _hat
          go_wp2_with fail
          go_roundw
          case rel => exact ⟨k + 1, by omega, by go_num, by rw [HB.out, HC.out, bv_append]; exact HO3.out, HBR.out.grown HG.out hzr (fun j hj => (HO2.out.lt j hj).1)⟩
          case measure => simp [intOf]; omega
        · have hkk : k = ps.length := by omega
          subst hkk
          go_wp2_with fail
          go_ret
          have hl := partsBytes_len ps (fun p h => (HP.out p h).len)
          have ho := HO2.out
          rw [List.take_length] at ho
          exact ⟨_, rfl, by rw [hl]; exact ho, HBR.out⟩
end Go.Proofs.YtghddiboggdhcaaGreatDoor
/- spec.addrFilled, spec.AddrID of at most 42 bytes: what they return. -/
namespace Go.Proofs.YtghddiboggdhcaaGreatDoor
open Go.RowKit
def filled (l : List UInt8) (n : Nat) : List UInt8 := l.take n ++ List.replicate (n - l.length) 0
theorem filled_length (l : List UInt8) (n : Nat) : (filled l n).length = n := by simp [filled]; omega
theorem filled_any (A : Option Addr) (n c m : Nat) (l : List UInt8) (w : World) (h : RB w w.heap.size A n c l) (hm : m ≤ 1000) (hm0 : 0 < m) :
    Calls Tryz.prog 33 #[.slice A n c, .int .i64 m] w (OwnB (filled l m) w) := by
  obtain ⟨i0, hi0, hz0, hz1, hz2⟩ := info_parts u8_info
  have HR := Lib.hid h
  clear h
  have hmk := fun W : World => run_make_rowN (P := Tryz.prog) 22 5 i0 (.int .u8 0) Tryz.underlying22 hi0 hz0 .i64 .i64 m m (Nat.le_refl _) (by rw [hz2]; omega) (by omega) W
  rw [hz1, Nat.mul_one] at hmk
  go_enter Tryz.func33, Tryz.ntmps33
  go_wp2_with (with_reducible refine wpList_copy_splice rfl (.tmp 8) (.tmp 9) _ _ rfl 5 Tryz.underlying22 ?c0 (some ⟨w.heap.size, 0, none⟩) A m m n c rfl rfl w.heap.size 0 (madeCells #[Value.int .u8 0] m).toList 5 ?c1 (bv (l.take m)) ?c2 ?c3 ?c4 (bv_one _) w.heap.size w ?c5 (Nat.le_refl _) ?_)
  case c0 => simp [hi0, hz1]
  case c1 => rw [Array.toArray_toList]; exact heap_alloc_new w _
  case c2 => rw [bv_length, List.length_take, HR.out.len]; exact Nat.min_comm _ _
  case c3 =>
    intro hp
    have hn : 0 < n := by
      rw [bv_length, List.length_take, HR.out.len] at hp
      omega
    obtain ⟨ad, e, _, hc⟩ := (HR.out.reads.alloc (Nat.le_refl _) (.cells (madeCells #[Value.int .u8 0] m) 5)).2 hn
    refine ⟨ad, e, fun j v hj => hc j v ?_⟩
    rw [← bv_take, List.getElem?_take] at hj
    split at hj
    · exact hj
    · cases hj
  case c4 => simp [bv_length, size_madeCells]; omega
  case c5 => exact (Below.refl _ w).alloc (Nat.le_refl _) _
  intro w1 hcell hb
  have hle : (bv (l.take m)).length ≤ m := by rw [bv_length, List.length_take]; omega
  have HL := Lib.hid hle
  clear hle
  go_wp2
  go_ret
  have hsp : splice (madeCells #[Value.int .u8 0] m).toList 0 (bv (l.take m)) = bv (filled l m) := by
    rw [toList_madeCells_one]
    unfold splice filled
    rw [bv_append]
    simp [bv, Nat.min_def]
    split <;> omega
  refine ⟨_, rfl, ⟨by rw [bv_length, Nat.mul_one], .inr ⟨w.heap.size, m, _, by rw [filled_length]; rfl, Nat.le_refl _, hcell.out, by rw [filled_length]; exact Nat.le_refl _, by unfold maxLen; omega, ?_, ?_⟩⟩, hb⟩
  · rw [hsp, List.size_toArray, bv_length, filled_length, Nat.mul_one]
  · rw [hsp, filled_length]; simp only [Nat.mul_one]; exact List.take_of_length_le (by rw [bv_length, filled_length]; exact Nat.le_refl _)
end Go.Proofs.YtghddiboggdhcaaGreatDoor
