/- Components of the eight kinds stand their check. -/
import Derived.Test.YthpcfnegfdcbjaaGreatDoorPh
import Derived.Test.YthpcfnegfdcbjaaGreatDoorPj4
import Derived.Test.YthpcfnegfdcbjaaGreatDoorPj2
import Derived.Test.YthpcfnegfdcbjaaGreatDoorPjs
import Derived.Test.YthpcfnegfdcbjaaGreatDoorPj0
import Derived.Test.YthpcfnegfdcbjaaGreatDoorPjv
namespace Go.Proofs.YthpcfnegfdcbjaaGreatDoor
open Go.RowKit
variable {K : Nat}
/-- A component of a kind, on the heap. -/
abbrev CmpK (w : World) (q : Nat) (l : List UInt8) (p vs g k : Nat) : Prop := Cmp w q l p vs g ⟨(protoOf k).name.toArray⟩ k (protoOf k).size (protoOf k).tc (protoOf k).vc
set_option maxHeartbeats 1000000 in
set_option maxRecDepth 100000 in
/-- The text of a multihash. -/
theorem p2pbts_any (g c : Nat) (b b2 : UInt8) (v : Nat) (l : List UInt8) (w : World) (h : RB w w.heap.size (some ⟨g, 0, none⟩) (l.length + 2) c (b :: b2 :: l)) (hv : b.toNat = v) (hb : v < 128) (hv2 : b2.toNat = l.length) (hb2 : l.length ≤ 42) :
    Calls Tryz.prog 201 #[.slice (some ⟨g, 0, none⟩) (l.length + 2) c] w (OutSE w) := by
  have HC := Lib.hid (cast_any _ c b b2 v l w h hv hb hv2 (by omega))
  have HB := Lib.hid h
  clear h hv hv2
  go_enter Tryz.func201, Tryz.ntmps201
  go_wp2_with fail
  refine HC.out.mono ?_
  rintro e w1 ⟨rfl, hb1⟩
  have HB1 := Lib.hid hb1
  clear hb1
  go_wp2_with fail
  refine (b58_any _ _ c (b :: b2 :: l) w1 (by simp; omega) (HB.out.next HB1.out)).mono ?_
  rintro e w2 ⟨s, rfl, _, hb2⟩
  have HB2 := Lib.hid (HB1.out.trans (hb2.mono HB1.out.size))
  clear hb2
  go_wp2_with fail
  go_ret2
  exact ⟨s, rfl, HB2.out⟩
theorem ent_ip4 : ∀ args w, (callFunc 168 args).run Tryz.prog w = .ok (.enter 168 args) w := fun _ _ => by kernel_rfl
theorem ent_ip6 : ∀ args w, (callFunc 175 args).run Tryz.prog w = .ok (.enter 175 args) w := fun _ _ => by kernel_rfl
theorem ent_port : ∀ args w, (callFunc 170 args).run Tryz.prog w = .ok (.enter 170 args) w := fun _ _ => by kernel_rfl
theorem ent_p2p : ∀ args w, (callFunc 201 args).run Tryz.prog w = .ok (.enter 201 args) w := fun _ _ => by kernel_rfl
theorem ent_p2pv : ∀ args w, (callFunc 202 args).run Tryz.prog w = .ok (.enter 202 args) w := fun _ _ => by kernel_rfl

theorem val_4 (q p g : Nat) (d : List UInt8) (w : World) (ht : Tab K w) (hC : CmpK w q ([4] ++ d) p 1 g 4) (hd : d.length = 4) (hK : ∀ b ∈ d, b.toNat < K) : Calls Tryz.prog 94 #[.pointer (some ⟨q, 0, none⟩)] w (OutN w) :=
  validate_fix4 q _ [4] d p g _ _ 167 168 w ht hC (by simp) (by simp) hd rfl fun w1 hb =>
    value_some q _ p 1 g 4 167 168 .nilFunc (Or.inl rfl) rfl ent_ip4 w1 (ht.below hb) (hC.below hb).comp (hC.below hb).prot (by simp) (by simp; omega) fun L hL w2 g2 c2 ht2 hr2 => by
      have hLd : L = d := by rw [hL]; rfl
      subst hLd
      match L, hd with
      | [b0, b1, b2, b3], _ => exact ip4_any g2 c2 b0 b1 b2 b3 w2 hr2 (hK b0 (by simp)) (hK b1 (by simp)) (hK b2 (by simp)) (hK b3 (by simp)) ht2
theorem val_6 (q p g : Nat) (d : List UInt8) (w : World) (ht : Tab K w) (hC : CmpK w q ([6] ++ d) p 1 g 6) (hd : d.length = 2) (hK : Lib.beNat d < K) : Calls Tryz.prog 94 #[.pointer (some ⟨q, 0, none⟩)] w (OutN w) :=
  validate_fix2 q _ [6] d p g _ _ 169 170 w ht hC (by simp) (by simp) hd rfl fun w1 hb =>
    value_some q _ p 1 g 6 169 170 .nilFunc (Or.inl rfl) rfl ent_port w1 (ht.below hb) (hC.below hb).comp (hC.below hb).prot (by simp) (by simp; omega) fun L hL w2 g2 c2 ht2 hr2 => by
      have hLd : L = d := by rw [hL]; rfl
      subst hLd
      match L, hd with
      | [b0, b1], _ => exact port_any g2 c2 b0 b1 w2 hr2 hK ht2
theorem val_273 (q p g : Nat) (d : List UInt8) (w : World) (ht : Tab K w) (hC : CmpK w q ([145, 2] ++ d) p 2 g 273) (hd : d.length = 2) (hK : Lib.beNat d < K) : Calls Tryz.prog 94 #[.pointer (some ⟨q, 0, none⟩)] w (OutN w) :=
  validate_fix2 q _ [145, 2] d p g _ _ 169 170 w ht hC (by simp) (by simp) hd rfl fun w1 hb =>
    value_some q _ p 2 g 273 169 170 .nilFunc (Or.inl rfl) rfl ent_port w1 (ht.below hb) (hC.below hb).comp (hC.below hb).prot (by simp) (by simp; omega) fun L hL w2 g2 c2 ht2 hr2 => by
      have hLd : L = d := by rw [hL]; rfl
      subst hLd
      match L, hd with
      | [b0, b1], _ => exact port_any g2 c2 b0 b1 w2 hr2 hK ht2
theorem val_41 (q p g : Nat) (d : List UInt8) (w : World) (ht : Tab K w) (hC : CmpK w q ([41] ++ d) p 1 g 41) (hd : d.length = 16) (hK : 256 ≤ K) : Calls Tryz.prog 94 #[.pointer (some ⟨q, 0, none⟩)] w (OutN w) :=
  validate_fix16 q _ [41] d p g _ _ 174 175 w ht hC (by simp) (by simp) hd rfl fun w1 hb =>
    value_some q _ p 1 g 41 174 175 .nilFunc (Or.inl rfl) rfl ent_ip6 w1 (ht.below hb) (hC.below hb).comp (hC.below hb).prot (by simp) (by simp; omega) fun L hL w2 g2 c2 ht2 hr2 => by
      have hLd : L = d := by rw [hL]; rfl
      subst hLd
      exact ip6_any g2 c2 L w2 hd hK hr2 ht2
theorem val_421 (q p g : Nat) (x y bb : UInt8) (v : Nat) (d : List UInt8) (w : World) (ht : Tab K w) (hC : CmpK w q ([165, 3] ++ ([bb] ++ (x :: y :: d))) p 3 g 421) (hbb : bb.toNat = d.length + 2) (hx : x.toNat = v) (hy : y.toNat = d.length) (hd : d.length ≤ 42) (hv : v = 0 ∨ v = 18 ∧ d.length = 32) :
    Calls Tryz.prog 94 #[.pointer (some ⟨q, 0, none⟩)] w (OutN w) :=
  validate_var q _ [165, 3] (x :: y :: d) p g _ _ 200 201 202 w ht hC (by simp) (by simp) bb (by simp [hbb]) (by simp; omega) ent_p2pv
    (fun w1 g1 c1 hr1 => by
      rcases hv with rfl | ⟨rfl, hl⟩
      · exact (pval_0 _ c1 x y d w1 hr1 hx hy (by omega)).mono fun _ _ h => h
      · exact (pval_18 _ c1 x y d w1 hr1 hx hy (by omega) hl).mono fun _ _ h => h) rfl fun w1 hb =>
    value_some q _ p 3 g 421 200 201 (.func (Fn.func 202) #[] #[]) (Or.inr ⟨_, rfl⟩) rfl ent_p2p w1 (ht.below hb) (hC.below hb).comp (hC.below hb).prot (by simp) (by simp; omega) fun L hL w2 g2 c2 ht2 hr2 => by
      have hLd : L = x :: y :: d := by rw [hL]; rfl
      subst hLd
      exact p2pbts_any g2 c2 x y v d w2 hr2 hx (by omega) hy hd
theorem val_290 (q p g : Nat) (w : World) (ht : Tab K w) (hC : CmpK w q [162, 2] p 2 g 290) : Calls Tryz.prog 94 #[.pointer (some ⟨q, 0, none⟩)] w (OutN w) :=
  validate_fix0 q _ [162, 2] [] p g _ _ w ht hC (by simp) (by simp) rfl rfl fun w1 hb =>
    value_none q _ p 2 g 290 rfl w1 (hC.below hb).comp (hC.below hb).prot
theorem val_461 (q p g : Nat) (w : World) (ht : Tab K w) (hC : CmpK w q [205, 3] p 2 g 461) : Calls Tryz.prog 94 #[.pointer (some ⟨q, 0, none⟩)] w (OutN w) :=
  validate_fix0 q _ [205, 3] [] p g _ _ w ht hC (by simp) (by simp) rfl rfl fun w1 hb =>
    value_none q _ p 2 g 461 rfl w1 (hC.below hb).comp (hC.below hb).prot
theorem val_477 (q p g : Nat) (w : World) (ht : Tab K w) (hC : CmpK w q [221, 3] p 2 g 477) : Calls Tryz.prog 94 #[.pointer (some ⟨q, 0, none⟩)] w (OutN w) :=
  validate_fix0 q _ [221, 3] [] p g _ _ w ht hC (by simp) (by simp) rfl rfl fun w1 hb =>
    value_none q _ p 2 g 477 rfl w1 (hC.below hb).comp (hC.below hb).prot
end Go.Proofs.YthpcfnegfdcbjaaGreatDoor

/- readComponent at the eight kinds: a component, and how many bytes it has. -/
namespace Go.Proofs.YthpcfnegfdcbjaaGreatDoor
open Go.RowKit
variable {K : Nat}
/-- A component, read. -/
def OutC (k : Nat) (cl : List UInt8) (vs n : Nat) (w : World) (e : Ending) (w' : World) : Prop :=
  ∃ q p g, e = .returned (.tuple #[.int .i64 n, .pointer (some ⟨q, 0, none⟩), .nilIface]) ∧ CmpK w' q cl p vs g k ∧ Below w.heap.size w w'

set_option maxHeartbeats 2000000 in
set_option maxRecDepth 100000 in
theorem read_4 (A : Option Addr) (c : Nat) (d : List UInt8) (rs : List UInt8) (w : World) (ht : Tab K w) (h : RB w w.heap.size A (rs.length + 5) c (([4] ++ d) ++ rs)) (hd : d.length = 4) (hK : ∀ b ∈ d, b.toNat < K) :
    Calls Tryz.prog 74 #[.slice A (rs.length + 5) c] w (OutC 4 (([4] ++ d)) 1 (5) w) := by
  have hcap := h.cap
  have hmax : c ≤ 9223372036854775807 := h.max
  have hcne : ¬ c = 1 := by omega
  have HRV := Lib.hid (readvar_one A (rs.length + 5) c 4 (d ++ rs) w h (by decide))
  have HB := Lib.hid h
  have HT := Lib.hid ht
  obtain ⟨CL, hCL⟩ : ∃ CL : List UInt8, CL = ([4] ++ d) := ⟨_, rfl⟩
  have htk : (([4] ++ d) ++ rs).take (5) = CL := by rw [hCL]; exact List.take_left' (by simp [hd])
  have HTK := Lib.hid htk
  have HCL := Lib.hid hCL
  have HD := Lib.hid hd
  have HKK := Lib.hid hK
  clear hd hK
  clear h ht htk hCL
  go_enter Tryz.func74, Tryz.ntmps74
  go_wp2_with fail
  refine HRV.out.mono ?_
  rintro e w' ⟨rfl, rfl⟩
  go_wp2_with fail
  refine (pcode_4 _).mono ?_
  rintro e w1 ⟨g1, rfl, _, _, hb1⟩
  have HB1 := Lib.hid hb1
  clear hb1
  go_wp2_with fail
  rw [run_storeCells_new w1 99 #[.string ⟨#[]⟩, .int .i64 0, .slice none 0 0, .int .i64 0, .bool false, .nilIface] (pcells 4 g1) rfl (pcells_one _ _)]
  have hk := Blk.new w1 99 (pcells 4 g1)
  have k1 : (w1.alloc (.cells (pcells 4 g1) 99)).cell? ⟨w1.heap.size, 1, none⟩ = some (.int .i64 4) := hk.cell 1
  have HK := Lib.hid hk
  clear hk
  go_wp2_with fail
  clear k1
  refine (ptr_4 _).mono ?_
  rintro e w3 ⟨p, g, rfl, _, _, _, hp, hv, hb3⟩
  have k3 : w3.cell? ⟨w1.heap.size, 3, none⟩ = some (.int .i64 32) := ((HK.out.below hb3 HK.out.lt).cell 3)
  have HP := Lib.hid hp
  have HV := Lib.hid hv
  have HB3 := Lib.hid ((HB1.out.alloc HB1.out.size (.cells (pcells 4 g1) 99)).trans (hb3.mono (Nat.le_trans HB1.out.size (by simp))))
  clear hp hv hb3
  have hR := HB.out.below HB3.out
  have cvt := run_convert_RB (hR.take (k := 5) (by omega)) 26 5 Tryz.underlying26 Tryz.underlying5 9 Tryz.underlying9
  rw [HTK.out] at cvt
  clear hR
  go_wp2_with fail
  have hcm : CmpK (w3.alloc (.cells #[.string ⟨CL.toArray⟩, .pointer (some ⟨p, 0, none⟩), .int .i64 1] 91)) w3.heap.size CL p 1 g 4 := ⟨Blk.new _ _ _, HP.out.alloc _, HV.out.alloc _⟩
  have HCM := Lib.hid hcm
  have HBW := Lib.hid (HB3.out.alloc HB3.out.size (.cells #[.string ⟨CL.toArray⟩, .pointer (some ⟨p, 0, none⟩), .int .i64 1] 91))
  clear hcm
  refine (val_4 _ p g d _ (HT.out.below HBW.out) (by have := HCM.out; rw [HCL.out] at this ⊢; exact this) HD.out HKK.out).mono ?_
  rintro e w5 ⟨rfl, hb5⟩
  have HF := Lib.hid (show CmpK w5 w3.heap.size CL p 1 g 4 from HCM.out.below hb5)
  have HBF := Lib.hid (HBW.out.trans (hb5.mono HBW.out.size))
  clear hb5
  go_wp2_with fail
  go_ret3
  exact ⟨w3.heap.size, p, g, rfl, by have := HF.out; rw [HCL.out] at this; exact this, HBF.out⟩

set_option maxHeartbeats 2000000 in
set_option maxRecDepth 100000 in
theorem read_6 (A : Option Addr) (c : Nat) (d : List UInt8) (rs : List UInt8) (w : World) (ht : Tab K w) (h : RB w w.heap.size A (rs.length + 3) c (([6] ++ d) ++ rs)) (hd : d.length = 2) (hK : Lib.beNat d < K) :
    Calls Tryz.prog 74 #[.slice A (rs.length + 3) c] w (OutC 6 (([6] ++ d)) 1 (3) w) := by
  have hcap := h.cap
  have hmax : c ≤ 9223372036854775807 := h.max
  have hcne : ¬ c = 1 := by omega
  have HRV := Lib.hid (readvar_one A (rs.length + 3) c 6 (d ++ rs) w h (by decide))
  have HB := Lib.hid h
  have HT := Lib.hid ht
  obtain ⟨CL, hCL⟩ : ∃ CL : List UInt8, CL = ([6] ++ d) := ⟨_, rfl⟩
  have htk : (([6] ++ d) ++ rs).take (3) = CL := by rw [hCL]; exact List.take_left' (by simp [hd])
  have HTK := Lib.hid htk
  have HCL := Lib.hid hCL
  have HD := Lib.hid hd
  have HKK := Lib.hid hK
  clear hd hK
  clear h ht htk hCL
  go_enter Tryz.func74, Tryz.ntmps74
  go_wp2_with fail
  refine HRV.out.mono ?_
  rintro e w' ⟨rfl, rfl⟩
  go_wp2_with fail
  refine (pcode_6 _).mono ?_
  rintro e w1 ⟨g1, rfl, _, _, hb1⟩
  have HB1 := Lib.hid hb1
  clear hb1
  go_wp2_with fail
  rw [run_storeCells_new w1 99 #[.string ⟨#[]⟩, .int .i64 0, .slice none 0 0, .int .i64 0, .bool false, .nilIface] (pcells 6 g1) rfl (pcells_one _ _)]
  have hk := Blk.new w1 99 (pcells 6 g1)
  have k1 : (w1.alloc (.cells (pcells 6 g1) 99)).cell? ⟨w1.heap.size, 1, none⟩ = some (.int .i64 6) := hk.cell 1
  have HK := Lib.hid hk
  clear hk
  go_wp2_with fail
  clear k1
  refine (ptr_6 _).mono ?_
  rintro e w3 ⟨p, g, rfl, _, _, _, hp, hv, hb3⟩
  have k3 : w3.cell? ⟨w1.heap.size, 3, none⟩ = some (.int .i64 16) := ((HK.out.below hb3 HK.out.lt).cell 3)
  have HP := Lib.hid hp
  have HV := Lib.hid hv
  have HB3 := Lib.hid ((HB1.out.alloc HB1.out.size (.cells (pcells 6 g1) 99)).trans (hb3.mono (Nat.le_trans HB1.out.size (by simp))))
  clear hp hv hb3
  have hR := HB.out.below HB3.out
  have cvt := run_convert_RB (hR.take (k := 3) (by omega)) 26 5 Tryz.underlying26 Tryz.underlying5 9 Tryz.underlying9
  rw [HTK.out] at cvt
  clear hR
  go_wp2_with fail
  have hcm : CmpK (w3.alloc (.cells #[.string ⟨CL.toArray⟩, .pointer (some ⟨p, 0, none⟩), .int .i64 1] 91)) w3.heap.size CL p 1 g 6 := ⟨Blk.new _ _ _, HP.out.alloc _, HV.out.alloc _⟩
  have HCM := Lib.hid hcm
  have HBW := Lib.hid (HB3.out.alloc HB3.out.size (.cells #[.string ⟨CL.toArray⟩, .pointer (some ⟨p, 0, none⟩), .int .i64 1] 91))
  clear hcm
  refine (val_6 _ p g d _ (HT.out.below HBW.out) (by have := HCM.out; rw [HCL.out] at this ⊢; exact this) HD.out HKK.out).mono ?_
  rintro e w5 ⟨rfl, hb5⟩
  have HF := Lib.hid (show CmpK w5 w3.heap.size CL p 1 g 6 from HCM.out.below hb5)
  have HBF := Lib.hid (HBW.out.trans (hb5.mono HBW.out.size))
  clear hb5
  go_wp2_with fail
  go_ret3
  exact ⟨w3.heap.size, p, g, rfl, by have := HF.out; rw [HCL.out] at this; exact this, HBF.out⟩

set_option maxHeartbeats 2000000 in
set_option maxRecDepth 100000 in
theorem read_41 (A : Option Addr) (c : Nat) (d : List UInt8) (rs : List UInt8) (w : World) (ht : Tab K w) (h : RB w w.heap.size A (rs.length + 17) c (([41] ++ d) ++ rs)) (hd : d.length = 16) (hK : 256 ≤ K) :
    Calls Tryz.prog 74 #[.slice A (rs.length + 17) c] w (OutC 41 (([41] ++ d)) 1 (17) w) := by
  have hcap := h.cap
  have hmax : c ≤ 9223372036854775807 := h.max
  have hcne : ¬ c = 1 := by omega
  have HRV := Lib.hid (readvar_one A (rs.length + 17) c 41 (d ++ rs) w h (by decide))
  have HB := Lib.hid h
  have HT := Lib.hid ht
  obtain ⟨CL, hCL⟩ : ∃ CL : List UInt8, CL = ([41] ++ d) := ⟨_, rfl⟩
  have htk : (([41] ++ d) ++ rs).take (17) = CL := by rw [hCL]; exact List.take_left' (by simp [hd])
  have HTK := Lib.hid htk
  have HCL := Lib.hid hCL
  have HD := Lib.hid hd
  have HKK := Lib.hid hK
  clear hd hK
  clear h ht htk hCL
  go_enter Tryz.func74, Tryz.ntmps74
  go_wp2_with fail
  refine HRV.out.mono ?_
  rintro e w' ⟨rfl, rfl⟩
  go_wp2_with fail
  refine (pcode_41 _).mono ?_
  rintro e w1 ⟨g1, rfl, _, _, hb1⟩
  have HB1 := Lib.hid hb1
  clear hb1
  go_wp2_with fail
  rw [run_storeCells_new w1 99 #[.string ⟨#[]⟩, .int .i64 0, .slice none 0 0, .int .i64 0, .bool false, .nilIface] (pcells 41 g1) rfl (pcells_one _ _)]
  have hk := Blk.new w1 99 (pcells 41 g1)
  have k1 : (w1.alloc (.cells (pcells 41 g1) 99)).cell? ⟨w1.heap.size, 1, none⟩ = some (.int .i64 41) := hk.cell 1
  have HK := Lib.hid hk
  clear hk
  go_wp2_with fail
  clear k1
  refine (ptr_41 _).mono ?_
  rintro e w3 ⟨p, g, rfl, _, _, _, hp, hv, hb3⟩
  have k3 : w3.cell? ⟨w1.heap.size, 3, none⟩ = some (.int .i64 128) := ((HK.out.below hb3 HK.out.lt).cell 3)
  have HP := Lib.hid hp
  have HV := Lib.hid hv
  have HB3 := Lib.hid ((HB1.out.alloc HB1.out.size (.cells (pcells 41 g1) 99)).trans (hb3.mono (Nat.le_trans HB1.out.size (by simp))))
  clear hp hv hb3
  have hR := HB.out.below HB3.out
  have cvt := run_convert_RB (hR.take (k := 17) (by omega)) 26 5 Tryz.underlying26 Tryz.underlying5 9 Tryz.underlying9
  rw [HTK.out] at cvt
  clear hR
  go_wp2_with fail
  have hcm : CmpK (w3.alloc (.cells #[.string ⟨CL.toArray⟩, .pointer (some ⟨p, 0, none⟩), .int .i64 1] 91)) w3.heap.size CL p 1 g 41 := ⟨Blk.new _ _ _, HP.out.alloc _, HV.out.alloc _⟩
  have HCM := Lib.hid hcm
  have HBW := Lib.hid (HB3.out.alloc HB3.out.size (.cells #[.string ⟨CL.toArray⟩, .pointer (some ⟨p, 0, none⟩), .int .i64 1] 91))
  clear hcm
  refine (val_41 _ p g d _ (HT.out.below HBW.out) (by have := HCM.out; rw [HCL.out] at this ⊢; exact this) HD.out HKK.out).mono ?_
  rintro e w5 ⟨rfl, hb5⟩
  have HF := Lib.hid (show CmpK w5 w3.heap.size CL p 1 g 41 from HCM.out.below hb5)
  have HBF := Lib.hid (HBW.out.trans (hb5.mono HBW.out.size))
  clear hb5
  go_wp2_with fail
  go_ret3
  exact ⟨w3.heap.size, p, g, rfl, by have := HF.out; rw [HCL.out] at this; exact this, HBF.out⟩

set_option maxHeartbeats 2000000 in
set_option maxRecDepth 100000 in
theorem read_273 (A : Option Addr) (c : Nat) (d : List UInt8) (rs : List UInt8) (w : World) (ht : Tab K w) (h : RB w w.heap.size A (rs.length + 4) c (([145, 2] ++ d) ++ rs)) (hd : d.length = 2) (hK : Lib.beNat d < K) :
    Calls Tryz.prog 74 #[.slice A (rs.length + 4) c] w (OutC 273 (([145, 2] ++ d)) 2 (4) w) := by
  have hcap := h.cap
  have hmax : c ≤ 9223372036854775807 := h.max
  have hcne : ¬ c = 2 := by omega
  have HRV := Lib.hid (readvar_273 A (rs.length + 4) c (d ++ rs) w h)
  have HB := Lib.hid h
  have HT := Lib.hid ht
  obtain ⟨CL, hCL⟩ : ∃ CL : List UInt8, CL = ([145, 2] ++ d) := ⟨_, rfl⟩
  have htk : (([145, 2] ++ d) ++ rs).take (4) = CL := by rw [hCL]; exact List.take_left' (by simp [hd])
  have HTK := Lib.hid htk
  have HCL := Lib.hid hCL
  have HD := Lib.hid hd
  have HKK := Lib.hid hK
  clear hd hK
  clear h ht htk hCL
  go_enter Tryz.func74, Tryz.ntmps74
  go_wp2_with fail
  refine HRV.out.mono ?_
  rintro e w' ⟨rfl, rfl⟩
  go_wp2_with fail
  refine (pcode_273 _).mono ?_
  rintro e w1 ⟨g1, rfl, _, _, hb1⟩
  have HB1 := Lib.hid hb1
  clear hb1
  go_wp2_with fail
  rw [run_storeCells_new w1 99 #[.string ⟨#[]⟩, .int .i64 0, .slice none 0 0, .int .i64 0, .bool false, .nilIface] (pcells 273 g1) rfl (pcells_one _ _)]
  have hk := Blk.new w1 99 (pcells 273 g1)
  have k1 : (w1.alloc (.cells (pcells 273 g1) 99)).cell? ⟨w1.heap.size, 1, none⟩ = some (.int .i64 273) := hk.cell 1
  have HK := Lib.hid hk
  clear hk
  go_wp2_with fail
  clear k1
  refine (ptr_273 _).mono ?_
  rintro e w3 ⟨p, g, rfl, _, _, _, hp, hv, hb3⟩
  have k3 : w3.cell? ⟨w1.heap.size, 3, none⟩ = some (.int .i64 16) := ((HK.out.below hb3 HK.out.lt).cell 3)
  have HP := Lib.hid hp
  have HV := Lib.hid hv
  have HB3 := Lib.hid ((HB1.out.alloc HB1.out.size (.cells (pcells 273 g1) 99)).trans (hb3.mono (Nat.le_trans HB1.out.size (by simp))))
  clear hp hv hb3
  have hR := HB.out.below HB3.out
  have cvt := run_convert_RB (hR.take (k := 4) (by omega)) 26 5 Tryz.underlying26 Tryz.underlying5 9 Tryz.underlying9
  rw [HTK.out] at cvt
  clear hR
  go_wp2_with fail
  have hcm : CmpK (w3.alloc (.cells #[.string ⟨CL.toArray⟩, .pointer (some ⟨p, 0, none⟩), .int .i64 2] 91)) w3.heap.size CL p 2 g 273 := ⟨Blk.new _ _ _, HP.out.alloc _, HV.out.alloc _⟩
  have HCM := Lib.hid hcm
  have HBW := Lib.hid (HB3.out.alloc HB3.out.size (.cells #[.string ⟨CL.toArray⟩, .pointer (some ⟨p, 0, none⟩), .int .i64 2] 91))
  clear hcm
  refine (val_273 _ p g d _ (HT.out.below HBW.out) (by have := HCM.out; rw [HCL.out] at this ⊢; exact this) HD.out HKK.out).mono ?_
  rintro e w5 ⟨rfl, hb5⟩
  have HF := Lib.hid (show CmpK w5 w3.heap.size CL p 2 g 273 from HCM.out.below hb5)
  have HBF := Lib.hid (HBW.out.trans (hb5.mono HBW.out.size))
  clear hb5
  go_wp2_with fail
  go_ret3
  exact ⟨w3.heap.size, p, g, rfl, by have := HF.out; rw [HCL.out] at this; exact this, HBF.out⟩

set_option maxHeartbeats 2000000 in
set_option maxRecDepth 100000 in
theorem read_290 (A : Option Addr) (c : Nat) (rs : List UInt8) (w : World) (ht : Tab K w) (h : RB w w.heap.size A (rs.length + 2) c ([162, 2] ++ rs)) :
    Calls Tryz.prog 74 #[.slice A (rs.length + 2) c] w (OutC 290 ([162, 2]) 2 (2) w) := by
  have hcap := h.cap
  have hmax : c ≤ 9223372036854775807 := h.max
  have HRV := Lib.hid (readvar_290 A (rs.length + 2) c rs w h)
  have HB := Lib.hid h
  have HT := Lib.hid ht
  obtain ⟨CL, hCL⟩ : ∃ CL : List UInt8, CL = [162, 2] := ⟨_, rfl⟩
  have htk : ([162, 2] ++ rs).take (2) = CL := by rw [hCL]; exact List.take_left' (rfl)
  have HTK := Lib.hid htk
  have HCL := Lib.hid hCL
  clear h ht htk hCL
  go_enter Tryz.func74, Tryz.ntmps74
  go_wp2_with fail
  refine HRV.out.mono ?_
  rintro e w' ⟨rfl, rfl⟩
  go_wp2_with fail
  refine (pcode_290 _).mono ?_
  rintro e w1 ⟨g1, rfl, _, _, hb1⟩
  have HB1 := Lib.hid hb1
  clear hb1
  go_wp2_with fail
  rw [run_storeCells_new w1 99 #[.string ⟨#[]⟩, .int .i64 0, .slice none 0 0, .int .i64 0, .bool false, .nilIface] (pcells 290 g1) rfl (pcells_one _ _)]
  have hk := Blk.new w1 99 (pcells 290 g1)
  have k1 : (w1.alloc (.cells (pcells 290 g1) 99)).cell? ⟨w1.heap.size, 1, none⟩ = some (.int .i64 290) := hk.cell 1
  have HK := Lib.hid hk
  clear hk
  go_wp2_with fail
  clear k1
  refine (ptr_290 _).mono ?_
  rintro e w3 ⟨p, g, rfl, _, _, _, hp, hv, hb3⟩
  have k3 : w3.cell? ⟨w1.heap.size, 3, none⟩ = some (.int .i64 0) := ((HK.out.below hb3 HK.out.lt).cell 3)
  have HP := Lib.hid hp
  have HV := Lib.hid hv
  have HB3 := Lib.hid ((HB1.out.alloc HB1.out.size (.cells (pcells 290 g1) 99)).trans (hb3.mono (Nat.le_trans HB1.out.size (by simp))))
  clear hp hv hb3
  have hR := HB.out.below HB3.out
  have cvt := run_convert_RB (hR.take (k := 2) (by omega)) 26 5 Tryz.underlying26 Tryz.underlying5 9 Tryz.underlying9
  rw [HTK.out] at cvt
  clear hR
  go_wp2_with fail
  have hcm : CmpK (w3.alloc (.cells #[.string ⟨CL.toArray⟩, .pointer (some ⟨p, 0, none⟩), .int .i64 2] 91)) w3.heap.size CL p 2 g 290 := ⟨Blk.new _ _ _, HP.out.alloc _, HV.out.alloc _⟩
  have HCM := Lib.hid hcm
  have HBW := Lib.hid (HB3.out.alloc HB3.out.size (.cells #[.string ⟨CL.toArray⟩, .pointer (some ⟨p, 0, none⟩), .int .i64 2] 91))
  clear hcm
  refine (val_290 _ p g _ (HT.out.below HBW.out) (by have := HCM.out; rw [HCL.out] at this ⊢; exact this)).mono ?_
  rintro e w5 ⟨rfl, hb5⟩
  have HF := Lib.hid (show CmpK w5 w3.heap.size CL p 2 g 290 from HCM.out.below hb5)
  have HBF := Lib.hid (HBW.out.trans (hb5.mono HBW.out.size))
  clear hb5
  go_wp2_with fail
  go_ret3
  exact ⟨w3.heap.size, p, g, rfl, by have := HF.out; rw [HCL.out] at this; exact this, HBF.out⟩

set_option maxHeartbeats 2000000 in
set_option maxRecDepth 100000 in
theorem read_461 (A : Option Addr) (c : Nat) (rs : List UInt8) (w : World) (ht : Tab K w) (h : RB w w.heap.size A (rs.length + 2) c ([205, 3] ++ rs)) :
    Calls Tryz.prog 74 #[.slice A (rs.length + 2) c] w (OutC 461 ([205, 3]) 2 (2) w) := by
  have hcap := h.cap
  have hmax : c ≤ 9223372036854775807 := h.max
  have HRV := Lib.hid (readvar_461 A (rs.length + 2) c rs w h)
  have HB := Lib.hid h
  have HT := Lib.hid ht
  obtain ⟨CL, hCL⟩ : ∃ CL : List UInt8, CL = [205, 3] := ⟨_, rfl⟩
  have htk : ([205, 3] ++ rs).take (2) = CL := by rw [hCL]; exact List.take_left' (rfl)
  have HTK := Lib.hid htk
  have HCL := Lib.hid hCL
  clear h ht htk hCL
  go_enter Tryz.func74, Tryz.ntmps74
  go_wp2_with fail
  refine HRV.out.mono ?_
  rintro e w' ⟨rfl, rfl⟩
  go_wp2_with fail
  refine (pcode_461 _).mono ?_
  rintro e w1 ⟨g1, rfl, _, _, hb1⟩
  have HB1 := Lib.hid hb1
  clear hb1
  go_wp2_with fail
  rw [run_storeCells_new w1 99 #[.string ⟨#[]⟩, .int .i64 0, .slice none 0 0, .int .i64 0, .bool false, .nilIface] (pcells 461 g1) rfl (pcells_one _ _)]
  have hk := Blk.new w1 99 (pcells 461 g1)
  have k1 : (w1.alloc (.cells (pcells 461 g1) 99)).cell? ⟨w1.heap.size, 1, none⟩ = some (.int .i64 461) := hk.cell 1
  have HK := Lib.hid hk
  clear hk
  go_wp2_with fail
  clear k1
  refine (ptr_461 _).mono ?_
  rintro e w3 ⟨p, g, rfl, _, _, _, hp, hv, hb3⟩
  have k3 : w3.cell? ⟨w1.heap.size, 3, none⟩ = some (.int .i64 0) := ((HK.out.below hb3 HK.out.lt).cell 3)
  have HP := Lib.hid hp
  have HV := Lib.hid hv
  have HB3 := Lib.hid ((HB1.out.alloc HB1.out.size (.cells (pcells 461 g1) 99)).trans (hb3.mono (Nat.le_trans HB1.out.size (by simp))))
  clear hp hv hb3
  have hR := HB.out.below HB3.out
  have cvt := run_convert_RB (hR.take (k := 2) (by omega)) 26 5 Tryz.underlying26 Tryz.underlying5 9 Tryz.underlying9
  rw [HTK.out] at cvt
  clear hR
  go_wp2_with fail
  have hcm : CmpK (w3.alloc (.cells #[.string ⟨CL.toArray⟩, .pointer (some ⟨p, 0, none⟩), .int .i64 2] 91)) w3.heap.size CL p 2 g 461 := ⟨Blk.new _ _ _, HP.out.alloc _, HV.out.alloc _⟩
  have HCM := Lib.hid hcm
  have HBW := Lib.hid (HB3.out.alloc HB3.out.size (.cells #[.string ⟨CL.toArray⟩, .pointer (some ⟨p, 0, none⟩), .int .i64 2] 91))
  clear hcm
  refine (val_461 _ p g _ (HT.out.below HBW.out) (by have := HCM.out; rw [HCL.out] at this ⊢; exact this)).mono ?_
  rintro e w5 ⟨rfl, hb5⟩
  have HF := Lib.hid (show CmpK w5 w3.heap.size CL p 2 g 461 from HCM.out.below hb5)
  have HBF := Lib.hid (HBW.out.trans (hb5.mono HBW.out.size))
  clear hb5
  go_wp2_with fail
  go_ret3
  exact ⟨w3.heap.size, p, g, rfl, by have := HF.out; rw [HCL.out] at this; exact this, HBF.out⟩

set_option maxHeartbeats 2000000 in
set_option maxRecDepth 100000 in
theorem read_477 (A : Option Addr) (c : Nat) (rs : List UInt8) (w : World) (ht : Tab K w) (h : RB w w.heap.size A (rs.length + 2) c ([221, 3] ++ rs)) :
    Calls Tryz.prog 74 #[.slice A (rs.length + 2) c] w (OutC 477 ([221, 3]) 2 (2) w) := by
  have hcap := h.cap
  have hmax : c ≤ 9223372036854775807 := h.max
  have HRV := Lib.hid (readvar_477 A (rs.length + 2) c rs w h)
  have HB := Lib.hid h
  have HT := Lib.hid ht
  obtain ⟨CL, hCL⟩ : ∃ CL : List UInt8, CL = [221, 3] := ⟨_, rfl⟩
  have htk : ([221, 3] ++ rs).take (2) = CL := by rw [hCL]; exact List.take_left' (rfl)
  have HTK := Lib.hid htk
  have HCL := Lib.hid hCL
  clear h ht htk hCL
  go_enter Tryz.func74, Tryz.ntmps74
  go_wp2_with fail
  refine HRV.out.mono ?_
  rintro e w' ⟨rfl, rfl⟩
  go_wp2_with fail
  refine (pcode_477 _).mono ?_
  rintro e w1 ⟨g1, rfl, _, _, hb1⟩
  have HB1 := Lib.hid hb1
  clear hb1
  go_wp2_with fail
  rw [run_storeCells_new w1 99 #[.string ⟨#[]⟩, .int .i64 0, .slice none 0 0, .int .i64 0, .bool false, .nilIface] (pcells 477 g1) rfl (pcells_one _ _)]
  have hk := Blk.new w1 99 (pcells 477 g1)
  have k1 : (w1.alloc (.cells (pcells 477 g1) 99)).cell? ⟨w1.heap.size, 1, none⟩ = some (.int .i64 477) := hk.cell 1
  have HK := Lib.hid hk
  clear hk
  go_wp2_with fail
  clear k1
  refine (ptr_477 _).mono ?_
  rintro e w3 ⟨p, g, rfl, _, _, _, hp, hv, hb3⟩
  have k3 : w3.cell? ⟨w1.heap.size, 3, none⟩ = some (.int .i64 0) := ((HK.out.below hb3 HK.out.lt).cell 3)
  have HP := Lib.hid hp
  have HV := Lib.hid hv
  have HB3 := Lib.hid ((HB1.out.alloc HB1.out.size (.cells (pcells 477 g1) 99)).trans (hb3.mono (Nat.le_trans HB1.out.size (by simp))))
  clear hp hv hb3
  have hR := HB.out.below HB3.out
  have cvt := run_convert_RB (hR.take (k := 2) (by omega)) 26 5 Tryz.underlying26 Tryz.underlying5 9 Tryz.underlying9
  rw [HTK.out] at cvt
  clear hR
  go_wp2_with fail
  have hcm : CmpK (w3.alloc (.cells #[.string ⟨CL.toArray⟩, .pointer (some ⟨p, 0, none⟩), .int .i64 2] 91)) w3.heap.size CL p 2 g 477 := ⟨Blk.new _ _ _, HP.out.alloc _, HV.out.alloc _⟩
  have HCM := Lib.hid hcm
  have HBW := Lib.hid (HB3.out.alloc HB3.out.size (.cells #[.string ⟨CL.toArray⟩, .pointer (some ⟨p, 0, none⟩), .int .i64 2] 91))
  clear hcm
  refine (val_477 _ p g _ (HT.out.below HBW.out) (by have := HCM.out; rw [HCL.out] at this ⊢; exact this)).mono ?_
  rintro e w5 ⟨rfl, hb5⟩
  have HF := Lib.hid (show CmpK w5 w3.heap.size CL p 2 g 477 from HCM.out.below hb5)
  have HBF := Lib.hid (HBW.out.trans (hb5.mono HBW.out.size))
  clear hb5
  go_wp2_with fail
  go_ret3
  exact ⟨w3.heap.size, p, g, rfl, by have := HF.out; rw [HCL.out] at this; exact this, HBF.out⟩

set_option maxHeartbeats 2000000 in
set_option maxRecDepth 100000 in
theorem read_421 (A : Option Addr) (c : Nat) (x y bb : UInt8) (v : Nat) (d : List UInt8) (rs : List UInt8) (w : World) (ht : Tab K w) (h : RB w w.heap.size A (rs.length + d.length + 5) c (([165, 3] ++ ([bb] ++ (x :: y :: d))) ++ rs)) (hbb : bb.toNat = d.length + 2) (hx : x.toNat = v) (hy : y.toNat = d.length) (hd : d.length ≤ 42) (hv : v = 0 ∨ v = 18 ∧ d.length = 32) :
    Calls Tryz.prog 74 #[.slice A (rs.length + d.length + 5) c] w (OutC 421 (([165, 3] ++ ([bb] ++ (x :: y :: d)))) 3 (d.length + 5) w) := by
  have hcap := h.cap
  have hmax : c ≤ 9223372036854775807 := h.max
  have hcne : ¬ c = 2 := by omega
  have HRV := Lib.hid (readvar_421 A (rs.length + (d.length + 5)) c _ w h)
  have HB := Lib.hid h
  have HT := Lib.hid ht
  obtain ⟨CL, hCL⟩ : ∃ CL : List UInt8, CL = ([165, 3] ++ ([bb] ++ (x :: y :: d))) := ⟨_, rfl⟩
  have htk : (([165, 3] ++ ([bb] ++ (x :: y :: d))) ++ rs).take (d.length + 5) = CL := by rw [hCL]; exact List.take_left' (by simp)
  have HTK := Lib.hid htk
  have HCL := Lib.hid hCL
  have HD2 := Lib.hid (h.drop (k := 2) (by omega))
  have HBB := Lib.hid hbb
  have HX := Lib.hid hx
  have HY := Lib.hid hy
  have HVV := Lib.hid hv
  clear h ht htk hCL hbb hx hy hv
  go_enter Tryz.func74, Tryz.ntmps74
  go_wp2_with fail
  refine HRV.out.mono ?_
  rintro e w' ⟨rfl, rfl⟩
  go_wp2_with fail
  refine (pcode_421 _).mono ?_
  rintro e w1 ⟨g1, rfl, _, _, hb1⟩
  have HB1 := Lib.hid hb1
  clear hb1
  go_wp2_with fail
  rw [run_storeCells_new w1 99 #[.string ⟨#[]⟩, .int .i64 0, .slice none 0 0, .int .i64 0, .bool false, .nilIface] (pcells 421 g1) rfl (pcells_one _ _)]
  have hk := Blk.new w1 99 (pcells 421 g1)
  have k1 : (w1.alloc (.cells (pcells 421 g1) 99)).cell? ⟨w1.heap.size, 1, none⟩ = some (.int .i64 421) := hk.cell 1
  have HK := Lib.hid hk
  clear hk
  go_wp2_with fail
  clear k1
  refine (ptr_421 _).mono ?_
  rintro e w3 ⟨p, g, rfl, _, _, _, hp, hv, hb3⟩
  have k3 : w3.cell? ⟨w1.heap.size, 3, none⟩ = some (.int .i64 (-1)) := ((HK.out.below hb3 HK.out.lt).cell 3)
  have HP := Lib.hid hp
  have HV := Lib.hid hv
  have HB3 := Lib.hid ((HB1.out.alloc HB1.out.size (.cells (pcells 421 g1) 99)).trans (hb3.mono (Nat.le_trans HB1.out.size (by simp))))
  clear hp hv hb3
  have hR := HB.out.below HB3.out
  have cvt := run_convert_RB (hR.take (k := d.length + 5) (by omega)) 26 5 Tryz.underlying26 Tryz.underlying5 9 Tryz.underlying9
  rw [HTK.out] at cvt
  rw [show d.length + 5 = 3 + (d.length + 2) by omega] at cvt
  clear hR
  go_wp2_with fail
  have hd2 := HD2.out.below HB3.out
  rw [if_neg hcne] at hd2
  have hrv := readvar_one _ _ _ bb _ _ (hd2.more HB3.out.size) (by have := HBB.out; omega)
  rw [HBB.out] at hrv
  have HRW := Lib.hid hrv
  clear hd2 hrv
  refine HRW.out.mono ?_
  rintro e w' ⟨rfl, rfl⟩
  go_wp2_with fail
  have hcm : CmpK (w3.alloc (.cells #[.string ⟨CL.toArray⟩, .pointer (some ⟨p, 0, none⟩), .int .i64 3] 91)) w3.heap.size CL p 3 g 421 := ⟨Blk.new _ _ _, HP.out.alloc _, HV.out.alloc _⟩
  have HCM := Lib.hid hcm
  have HBW := Lib.hid (HB3.out.alloc HB3.out.size (.cells #[.string ⟨CL.toArray⟩, .pointer (some ⟨p, 0, none⟩), .int .i64 3] 91))
  clear hcm
  refine (val_421 _ p g x y bb v d _ (HT.out.below HBW.out) (by have := HCM.out; rw [HCL.out] at this ⊢; exact this) HBB.out HX.out HY.out hd HVV.out).mono ?_
  rintro e w5 ⟨rfl, hb5⟩
  have HF := Lib.hid (show CmpK w5 w3.heap.size CL p 3 g 421 from HCM.out.below hb5)
  have HBF := Lib.hid (HBW.out.trans (hb5.mono HBW.out.size))
  clear hb5
  go_wp2_with fail
  go_ret3
  exact ⟨w3.heap.size, p, g, by rw [show ((d.length + 5 : Nat) : Int) = 3 + ((d.length : Int) + 2) by omega]; rfl, by have := HF.out; rw [HCL.out] at this; exact this, HBF.out⟩
end Go.Proofs.YthpcfnegfdcbjaaGreatDoor
