/- base32: bytes into letters: what is done behind the rounds of five bytes, at 3 left. (printed by a program) -/
import Derived.Test.YtghddiboggdhcaaGreatDoorVi2
set_option maxRecDepth 1000000
set_option maxHeartbeats 8000000
namespace Go.Proofs.YtghddiboggdhcaaGreatDoor
open Go.RowKit
attribute [local go_sem ↓] Go.wp_at_zero Go.wp_at_succ
theorem tail32_3 (al : List UInt8) (hal : al.length = 32) (B b N p q L2 c1 : Nat) (ad : Addr) (xs : Array Value) (d2 : List UInt8) (w wr : World) (hx : EncX al 289 32 xs 32) (hw : EncW B b N p 244 xs w wr) (hB : B ≤ b) (hp : p ≠ b) (h : RB w B (some ad) 3 c1 d2) (hN8 : 8 * q + 8 ≤ N) (_hL8 : 8 ≤ L2)
    (u6 u7 u11 u12 u13 u14 u15 u16 u17 u18 u19 u20 u21 u22 u23 u24 u25 u26 u27 u28 u29 u30 u31 u32 u33 u34 u35 u36 u37 u38 u39 u40 u41 u42 u43 u44 u45 u46 u47 u48 u49 u50 u51 u52 u53 u54 u55 u56 u57 u58 u59 u60 u61 u62 u63 u64 u65 u66 u67 u68 u69 u70 u71 u72 u73 u74 u75 u76 u77 u78 u79 u80 u81 u82 u83 u84 u85 u86 u87 u88 u89 u90 u91 u92 u93 u94 u95 u96 u97 u98 u99 u100 u101 u102 u103 u104 u105 u106 u107 u108 u109 u110 u111 u112 u113 u114 u115 u116 u117 u118 u119 u120 u121 u122 u123 u124 u125 u126 u127 u128 u129 u130 u131 u132 u133 u134 u135 : Value) :
    Code.wp Tryz.prog tail32 (bodyPost Tryz.prog Tryz.f222 fun e w' => e = .returned (.tuple #[]) ∧ EncW B b N p 244 xs w w') ⟨#[.pointer (some ⟨p, 0, none⟩), .slice (some ⟨b, 8 * q, none⟩) 8 L2, .slice (some ad) 3 c1, undef, undef, undef, u6, u7, undef, undef, undef, u11, u12, u13, u14, u15, u16, u17, u18, u19, u20, u21, u22, u23, u24, u25, u26, u27, u28, u29, u30, u31, u32, u33, u34, u35, u36, u37, u38, u39, u40, u41, u42, u43, u44, u45, u46, u47, u48, u49, u50, u51, u52, u53, u54, u55, u56, u57, u58, u59, u60, u61, u62, u63, u64, u65, u66, u67, u68, u69, u70, u71, u72, u73, u74, u75, u76, u77, u78, u79, u80, u81, u82, u83, u84, u85, u86, u87, u88, u89, u90, u91, u92, u93, u94, u95, u96, u97, u98, u99, u100, u101, u102, u103, u104, u105, u106, u107, u108, u109, u110, u111, u112, u113, u114, u115, u116, u117, u118, u119, u120, u121, u122, u123, u124, u125, u126, u127, u128, u129, u130, u131, u132, u133, u134, u135, undef, undef, undef, undef, undef, undef, undef, undef, undef, undef, undef, undef, undef, undef, undef, undef, undef, undef, undef, undef, undef, undef, undef, undef, undef, undef, undef, undef, undef, undef, undef, undef, undef, undef, undef, undef, undef, undef, undef, undef, undef, undef, undef, undef, undef, undef, undef, undef, undef, undef, undef, undef, undef, undef, undef, undef, undef, undef, undef, undef, undef, undef, undef, undef, undef, undef, undef, undef, undef, undef, undef, undef, undef, undef, undef, undef, undef, undef, undef, undef, undef, undef, undef, undef, undef, undef, undef, undef, undef, undef, undef, undef, undef, undef, undef, undef, undef, undef, undef, undef, undef, undef, undef, undef, undef, undef, undef, undef, undef, undef, undef, undef, undef, undef, undef, undef, undef, undef, undef, undef, undef, undef, undef, undef, undef, undef, undef, undef, undef, undef, undef, undef, undef], []⟩ wr := by
  obtain ⟨U, hU⟩ := hx.letters
  have HU := Lib.hid hU
  have HX := Lib.hid hx
  have HW1 := Lib.hid hw
  have HRw := Lib.hid h
  have hm31 := fun X => (mk31 X).1
  have hl31 : ∀ X, ((mk_ .u32 31 X : Nat) : Int) < 32 := fun X => by have := (mk31 X).2; omega
  clear h hx hw hU
  conv => arg 2; whnf
  go_upto_block 2 with fail
  go_cut [8] (fun v wc => EncW B b N p 244 xs w wc)
  case first =>
    obtain ⟨ad3, E1, _, c2⟩ := (HRw.out.below HW1.out.bel).at_ (k := 2) (by omega) (by rw [HRw.out.len]; omega)
    cases E1
    generalize (d2[2]'_).toNat = x2 at c2
    have d2 : wr.cell? ⟨ad.block, ad.off + 2, none⟩ = some (.int .u8 x2) := by have := c2; rwa [show ad.add 2 = ⟨ad.block, ad.off + 2, none⟩ by simp [Addr.add]] at this
    clear c2
    go_upto_region 26 with fail
    go_cut [8] (fun v wc => ∃ X : Int, v = .int .u32 X ∧ EncW B b N p 244 xs w wc)
    case first =>
      go_wp2_with fail
      try (go_quiet (fail); go_wp2_with fail)
      go_meet
      first | exact ⟨_, rfl, HW1.out⟩ | exact ⟨_, rfl, HW1.out.drewN _⟩
    case' rest =>
      obtain ⟨X3, rfl, hv⟩ := hcut
      have HV3 := Lib.hid hv
      clear hv d2
      have cX3 : ∀ X, wc.cell? ⟨p, mk_ .u32 31 X, none⟩ = some (.int .u8 (U (mk_ .u32 31 X)).toNat) := fun X => (HV3.out.blk.cell _).trans (HU.out _ (by rw [hal]; exact (mk31 X).2))
      obtain ⟨z4, hz4⟩ := HV3.out.buf.at_ (8 * q + 4) (by omega)
      have cF4 := HV3.out.buf.frozen (8 * q + 4)
      go_upto_region 28 with fail
      refine wp_gen (EncW B b N p 244 xs w) ((HV3.out.put hB hp (8 * q + 4) _)) ?_
      clear cX3 hz4 cF4
      intro y3 hy
      have HY3 := Lib.hid hy
      clear hy
      as_aux_lemma =>
        obtain ⟨ad2, E1, _, c1⟩ := (HRw.out.below HY3.out.bel).at_ (k := 1) (by omega) (by rw [HRw.out.len]; omega)
        cases E1
        generalize (d2[1]'_).toNat = x1 at c1
        have d1 : y3.cell? ⟨ad.block, ad.off + 1, none⟩ = some (.int .u8 x1) := by have := c1; rwa [show ad.add 1 = ⟨ad.block, ad.off + 1, none⟩ by simp [Addr.add]] at this
        clear c1
        go_upto_region 28 with fail
        go_cut [8] (fun v wc => ∃ X : Int, v = .int .u32 X ∧ EncW B b N p 244 xs w wc)
        case first =>
          go_wp2_with fail
          try (go_quiet (fail); go_wp2_with fail)
          go_meet
          first | exact ⟨_, rfl, HY3.out⟩ | exact ⟨_, rfl, HY3.out.drewN _⟩
        case' rest =>
          obtain ⟨X2, rfl, hv⟩ := hcut
          have HV2 := Lib.hid hv
          clear hv d1
          have cX2 : ∀ X, wc.cell? ⟨p, mk_ .u32 31 X, none⟩ = some (.int .u8 (U (mk_ .u32 31 X)).toNat) := fun X => (HV2.out.blk.cell _).trans (HU.out _ (by rw [hal]; exact (mk31 X).2))
          obtain ⟨z3, hz3⟩ := HV2.out.buf.at_ (8 * q + 3) (by omega)
          have cF3 := HV2.out.buf.frozen (8 * q + 3)
          obtain ⟨z2, hz2⟩ := HV2.out.buf.at_ (8 * q + 2) (by omega)
          have cF2 := HV2.out.buf.frozen (8 * q + 2)
          go_upto_region 31 with fail
          refine wp_gen (EncW B b N p 244 xs w) (((HV2.out.put hB hp (8 * q + 3) _).put hB hp (8 * q + 2) _)) ?_
          clear cX2 hz3 cF3 hz2 cF2
          intro y2 hy
          have HY2 := Lib.hid hy
          clear hy
          as_aux_lemma =>
            obtain ⟨ad1, E1, _, c0⟩ := (HRw.out.below HY2.out.bel).at_ (k := 0) (by omega) (by rw [HRw.out.len]; omega)
            cases E1
            generalize (d2[0]'_).toNat = x0 at c0
            have d0 : y2.cell? ad = some (.int .u8 x0) := by have := c0; rwa [show ad.add 0 = ad by simp [Addr.add]] at this
            clear c0
            go_upto_region 31 with fail
            go_cut [8] (fun v wc => ∃ X : Int, v = .int .u32 X ∧ EncW B b N p 244 xs w wc)
            case first =>
              go_wp2_with fail
              try (go_quiet (fail); go_wp2_with fail)
              go_meet
              first | exact ⟨_, rfl, HY2.out⟩ | exact ⟨_, rfl, HY2.out.drewN _⟩
            case' rest =>
              obtain ⟨X1, rfl, hv⟩ := hcut
              have HV1 := Lib.hid hv
              clear hv d0
              have cX1 : ∀ X, wc.cell? ⟨p, mk_ .u32 31 X, none⟩ = some (.int .u8 (U (mk_ .u32 31 X)).toNat) := fun X => (HV1.out.blk.cell _).trans (HU.out _ (by rw [hal]; exact (mk31 X).2))
              obtain ⟨z1, hz1⟩ := HV1.out.buf.at_ (8 * q + 1) (by omega)
              have cF1 := HV1.out.buf.frozen (8 * q + 1)
              obtain ⟨z0, hz0⟩ := HV1.out.buf.at_ (8 * q) (by omega)
              have cF0 := HV1.out.buf.frozen (8 * q)
              go_wp2_with fail
              go_meet
              exact ((HV1.out.put hB hp (8 * q + 1) _).put hB hp (8 * q) _)
  case' rest =>
    have HV := Lib.hid hcut
    have cP2 : wc.cell? ⟨p, 288, none⟩ = some (.int .i32 61) := (HV.out.blk.cell _).trans HX.out.pad
    clear hcut
    go_wp2_with fail
    go_loopw [10] (fun i wr => ∃ k : Nat, k ≤ 8 ∧ i = .int .i64 k ∧ EncW B b N p 244 xs w wr) (fun i _ => 8 - (intOf i).toNat)
    case atStart => exact ⟨5, by omega, rfl, HV.out⟩
    case round =>
      obtain ⟨k, hk, rfl, hy⟩ := hrel
      have HY := Lib.hid hy
      clear hy
      by_cases hlt : k < 8
      · obtain ⟨z, hz⟩ := HY.out.buf.at_ (8 * q + k) (by omega)
        have cF := HY.out.buf.frozen (8 * q + k)
        have cP3 := (HY.out.blk.cell 288).trans HX.out.pad
        go_wp2_with fail
        exact ⟨⟨k + 1, by omega, by go_num, HY.out.put hB hp (8 * q + k) 61⟩, by simp [intOf]; omega⟩
      · obtain rfl : k = 8 := by omega
        go_wp2_with fail
        go_end0
        exact ⟨rfl, HY.out⟩
end Go.Proofs.YtghddiboggdhcaaGreatDoor
