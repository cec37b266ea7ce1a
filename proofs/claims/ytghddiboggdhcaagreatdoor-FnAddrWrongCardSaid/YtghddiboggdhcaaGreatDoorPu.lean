/- base32: bytes into letters: the rounds of five bytes, and the whole. No condition beyond. -/
import Derived.Test.YtghddiboggdhcaaGreatDoorVi2
import Derived.Test.YtghddiboggdhcaaGreatDoorVi3
import Derived.Test.YtghddiboggdhcaaGreatDoorVi4
import Derived.Defers
import Derived.Recover
import Derived.WalkSpells
import Derived.Room.AppendFits
import Derived.Lib.SlBytesConst
set_option maxRecDepth 100000
set_option maxHeartbeats 8000000
namespace Go.Proofs.YtghddiboggdhcaaGreatDoor
open Go.RowKit
attribute [local go_sem ↓] Go.wp_at_zero Go.wp_at_succ
theorem enc32_any (al : List UInt8) (hal : al.length = 32) (B b N p : Nat) (xs : Array Value) (A : Option Addr) (n c : Nat) (d : List UInt8) (w : World) (hx : EncX al 289 32 xs 32) (hw : EncW B b N p 244 xs w w) (hB : B ≤ b) (hp : p ≠ b) (h : RB w B A n c d) (hn : n ≤ 100000) (hN : N = (n + 4) / 5 * 8) (C : Nat) (hC : N ≤ C) (_hCm : C ≤ 1000000) :
    Calls Tryz.prog 222 #[.pointer (some ⟨p, 0, none⟩), .slice (some ⟨b, 0, none⟩) N C, .slice A n c] w fun e w' => e = .returned (.tuple #[]) ∧ EncW B b N p 244 xs w w' := by
  have HX := Lib.hid hx
  have HW := Lib.hid hw
  have HR := Lib.hid h
  have HM := Lib.hid (fun X => (mk31 X).1)
  have hm31 := fun X => (mk31 X).1
  have hl31 : ∀ X, ((mk_ .u32 31 X : Nat) : Int) < 32 := fun X => by have := (mk31 X).2; omega
  obtain ⟨U, hU⟩ := hx.letters
  have HU := Lib.hid hU
  have HN := Lib.hid hN
  clear h hx hw hU hN
  go_enter Tryz.func222, Tryz.ntmps222
  by_cases h0 : n = 0
  · subst h0
    go_wp2_with fail
    refine bodyPost_ret (results_none rfl _ _ _) rfl ?_
    exact ⟨rfl, HW.out⟩
  · have e0 : ((n : Int) == 0) = false := by simp; omega
    have HLA := Lib.hid (load_head w p 244 109 32 xs HW.out.blk (by rw [HX.out.size]; decide) (by kernel_rfl) (by kernel_rfl))
    go_upto_block 0 with (refine step_load rfl (.tmp 16) 109 rfl _ _ rfl HLA.out ?_)
    generalize (xs.toList.take 32).toArray = ys
    try go_simp
    go_cut [1, 2] (fun dv sv wc => ∃ (q m L L2 : Nat) (A1 D1 : Option Addr) (c1 : Nat), n = 5 * q + m ∧ m < 5 ∧ dv = .slice D1 L L2 ∧ (0 < m → D1 = some ⟨b, 8 * q, none⟩) ∧ N = 8 * q + L ∧ C = 8 * q + L2 ∧ sv = .slice A1 m c1 ∧ RB w B A1 m c1 (d.drop (5 * q)) ∧ EncW B b N p 244 xs w wc)
    case first =>
      go_wp2_with fail
      go_loopw [1, 2] (fun dv sv wr => ∃ (q m L L2 : Nat) (A1 D1 : Option Addr) (c1 : Nat), n = 5 * q + m ∧ dv = .slice D1 L L2 ∧ (0 < m → D1 = some ⟨b, 8 * q, none⟩) ∧ N = 8 * q + L ∧ C = 8 * q + L2 ∧ sv = .slice A1 m c1 ∧ RB w B A1 m c1 (d.drop (5 * q)) ∧ EncW B b N p 244 xs w wr) (fun _ sv _ => match sv with | .slice _ m _ => m | _ => 0)
      case atStart => exact ⟨0, n, N, C, A, _, c, by omega, rfl, fun _ => rfl, by omega, by omega, rfl, HR.out, HW.out⟩
      case round =>
        obtain ⟨q, m, L, L2, A1, D1, c1, hnq, rfl, hD, hL, hL2, rfl, hr, hw⟩ := hrel
        have HQ := Lib.hid (And.intro hnq (And.intro hL (And.intro hL2 HN.out)))
        have HRw := Lib.hid hr
        have HR1 := Lib.hid (hr.below hw.bel)
        have HW1 := Lib.hid hw
        clear hr hw HLA
        by_cases h5 : 5 ≤ m
        · have e5 : decide ((5 : Int) ≤ (m : Int)) = true := by simp; omega
          obtain ⟨ad, rfl, _, c0⟩ := HR1.out.at_ (k := 0) (by omega) (by rw [HR1.out.len]; omega)
          obtain ⟨_, E1, _, c1'⟩ := HR1.out.at_ (k := 1) (by omega) (by rw [HR1.out.len]; omega)
          cases E1
          obtain ⟨_, E1, _, c2⟩ := HR1.out.at_ (k := 2) (by omega) (by rw [HR1.out.len]; omega)
          cases E1
          obtain ⟨_, E1, _, c3⟩ := HR1.out.at_ (k := 3) (by omega) (by rw [HR1.out.len]; omega)
          cases E1
          obtain ⟨_, E1, _, c4⟩ := HR1.out.at_ (k := 4) (by omega) (by rw [HR1.out.len]; omega)
          cases E1
          have b0 : (0 : Int) < (m : Int) := by omega
          have b1 : (1 : Int) < (m : Int) := by omega
          have b2 : (2 : Int) < (m : Int) := by omega
          have b3 : (3 : Int) < (m : Int) := by omega
          have b4 : (4 : Int) < (m : Int) := by omega
          generalize ((d.drop (5 * q))[0]'_).toNat = x0 at c0
          generalize ((d.drop (5 * q))[1]'_).toNat = x1 at c1'
          generalize ((d.drop (5 * q))[2]'_).toNat = x2 at c2
          generalize ((d.drop (5 * q))[3]'_).toNat = x3 at c3
          generalize ((d.drop (5 * q))[4]'_).toNat = x4 at c4
          have d0 : wr.cell? ad = some (.int .u8 x0) := by have := c0; rwa [show ad.add 0 = ad by simp [Addr.add]] at this
          have d1 : wr.cell? ⟨ad.block, ad.off + 1, none⟩ = some (.int .u8 x1) := by have := c1'; rwa [show ad.add 1 = ⟨ad.block, ad.off + 1, none⟩ by simp [Addr.add]] at this
          have d2 : wr.cell? ⟨ad.block, ad.off + 2, none⟩ = some (.int .u8 x2) := by have := c2; rwa [show ad.add 2 = ⟨ad.block, ad.off + 2, none⟩ by simp [Addr.add]] at this
          have d3 : wr.cell? ⟨ad.block, ad.off + 3, none⟩ = some (.int .u8 x3) := by have := c3; rwa [show ad.add 3 = ⟨ad.block, ad.off + 3, none⟩ by simp [Addr.add]] at this
          have d4 : wr.cell? ⟨ad.block, ad.off + 4, none⟩ = some (.int .u8 x4) := by have := c4; rwa [show ad.add 4 = ⟨ad.block, ad.off + 4, none⟩ by simp [Addr.add]] at this
          clear c0 c1' c2 c3 c4
          have l7 : 8 ≤ L ∧ L ≤ L2 := by
            have h1 := HQ.out.2.2.2
            have h2 := HQ.out.1
            rw [HQ.out.2.1, HQ.out.1] at h1
            omega
          obtain rfl := hD (by omega)
          clear hnq hL hL2 hD
          have g0 : (0 : Int) < (L : Int) := by omega
          have g1 : (1 : Int) < (L : Int) := by omega
          have g2 : (2 : Int) < (L : Int) := by omega
          have g3 : (3 : Int) < (L : Int) := by omega
          have g4 : (4 : Int) < (L : Int) := by omega
          have g5 : (5 : Int) < (L : Int) := by omega
          have g6 : (6 : Int) < (L : Int) := by omega
          have g7 : (7 : Int) < (L : Int) := by omega
          go_upto_region 3 with fail
          go_cut [6] (fun v wc => ∃ X : Int, v = .int .u32 X ∧ EncW B b N p 244 xs w wc)
          case first =>
            go_quiet (fail)
            go_wp2_with fail
            go_meet
            exact ⟨_, rfl, HW1.out.drewN _⟩
          case' rest =>
            obtain ⟨X, rfl, hv⟩ := hcut
            have HV := Lib.hid hv
            have HRV := Lib.hid (HRw.out.below hv.bel)
            clear d0 d1 d2 d3 d4 hv
            obtain ⟨ad2, E2, _, c4⟩ := HRV.out.at_ (k := 4) (by omega) (by rw [HRV.out.len]; omega)
            cases E2
            generalize ((d.drop (5 * q))[4]'_).toNat = x5 at c4
            have d4 : wc.cell? ⟨ad.block, ad.off + 4, none⟩ = some (.int .u8 x5) := by have := c4; rwa [show ad.add 4 = ⟨ad.block, ad.off + 4, none⟩ by simp [Addr.add]] at this
            clear c4
            have cX : ∀ X, wc.cell? ⟨p, mk_ .u32 31 X, none⟩ = some (.int .u8 (U (mk_ .u32 31 X)).toNat) := fun X => (HV.out.blk.cell _).trans (HU.out _ (by rw [hal]; exact (mk31 X).2))
            obtain ⟨z0, hz0⟩ := HV.out.buf.at_ (8 * q) (by have := HQ.out.2.1; omega)
            have cF0 := HV.out.buf.frozen (8 * q)
            obtain ⟨z1, hz1⟩ := HV.out.buf.at_ (8 * q + 1) (by have := HQ.out.2.1; omega)
            have cF1 := HV.out.buf.frozen (8 * q + 1)
            obtain ⟨z2, hz2⟩ := HV.out.buf.at_ (8 * q + 2) (by have := HQ.out.2.1; omega)
            have cF2 := HV.out.buf.frozen (8 * q + 2)
            obtain ⟨z3, hz3⟩ := HV.out.buf.at_ (8 * q + 3) (by have := HQ.out.2.1; omega)
            have cF3 := HV.out.buf.frozen (8 * q + 3)
            obtain ⟨z4, hz4⟩ := HV.out.buf.at_ (8 * q + 4) (by have := HQ.out.2.1; omega)
            have cF4 := HV.out.buf.frozen (8 * q + 4)
            obtain ⟨z5, hz5⟩ := HV.out.buf.at_ (8 * q + 5) (by have := HQ.out.2.1; omega)
            have cF5 := HV.out.buf.frozen (8 * q + 5)
            obtain ⟨z6, hz6⟩ := HV.out.buf.at_ (8 * q + 6) (by have := HQ.out.2.1; omega)
            have cF6 := HV.out.buf.frozen (8 * q + 6)
            obtain ⟨z7, hz7⟩ := HV.out.buf.at_ (8 * q + 7) (by have := HQ.out.2.1; omega)
            have cF7 := HV.out.buf.frozen (8 * q + 7)
            go_wp2_with fail
            refine ⟨⟨q + 1, m - 5, L - 8, L2 - 8, _, _, c1 - 5, by have := HQ.out.1; omega, rfl, ?_, by have := HQ.out.2.1; omega, by have := HQ.out.2.2.1; omega, rfl, ?_, (((((((HV.out.put hB hp (8 * q) _).put hB hp (8 * q + 1) _).put hB hp (8 * q + 2) _).put hB hp (8 * q + 3) _).put hB hp (8 * q + 4) _).put hB hp (8 * q + 5) _).put hB hp (8 * q + 6) _).put hB hp (8 * q + 7) _⟩, by simp; omega⟩
            · intro hm
              have : L2 ≠ 8 := by have h1 := HQ.out.2.2.2; have h2 := HQ.out.1; rw [HQ.out.2.1, HQ.out.1] at h1; omega
              rw [if_neg this]
              congr 2
            · have hd5 := HRw.out.drop (k := 5) (by omega)
              rw [List.drop_drop] at hd5
              simpa [Addr.add, Nat.mul_add] using hd5
        · have e5 : decide ((5 : Int) ≤ (m : Int)) = false := by simp; omega
          clear hnq hL hL2
          go_wp2_with fail
          go_meet
          exact ⟨q, m, L, L2, A1, D1, c1, HQ.out.1, by omega, rfl, hD, HQ.out.2.1, HQ.out.2.2.1, rfl, HRw.out, HW1.out⟩
    case' rest =>
      rename_i Q0 K0 hK0
      refine hK0 _ _ ?_
      clear hK0
      obtain ⟨q, m, L, L2, A1, D1, c1, hnq, hm5, rfl, hD, hL, hL2, rfl, hr, hw⟩ := hcut
      by_cases hm0 : m = 0
      · subst hm0
        have HW1 := Lib.hid hw
        clear hD hnq hL hL2 hr hw
        go_wp2_with fail
        refine bodyPost_ret (results_none rfl _ _ _) rfl ?_
        exact ⟨rfl, HW1.out⟩
      · obtain rfl := hD (by omega)
        have h1 := HN.out
        obtain rfl : L = 8 := by omega
        obtain ⟨ad, rfl, _, _⟩ := hr.at_ (k := 0) (by omega) (by rw [hr.len]; omega)
        rcases (by omega : m = 1 ∨ m = 2 ∨ m = 3 ∨ m = 4) with rfl | rfl | rfl | rfl
        · exact tail32_1 al hal B b N p q L2 c1 ad xs _ w _ HX.out hw hB hp hr (by omega) (by omega) _ _ _ _ _ _ _ _ _ _ _ _ _ _ _ _ _ _ _ _ _ _ _ _ _ _ _ _ _ _ _ _ _ _ _ _ _ _ _ _ _ _ _ _ _ _ _ _ _ _ _ _ _ _ _ _ _ _ _ _ _ _ _ _ _ _ _ _ _ _ _ _ _ _ _ _ _ _ _ _ _ _ _ _ _ _ _ _ _ _ _ _ _ _ _ _ _ _ _ _ _ _ _ _ _ _ _ _ _ _ _ _ _ _ _ _ _ _ _ _ _ _ _ _ _ _ _
        · exact tail32_2 al hal B b N p q L2 c1 ad xs _ w _ HX.out hw hB hp hr (by omega) (by omega) _ _ _ _ _ _ _ _ _ _ _ _ _ _ _ _ _ _ _ _ _ _ _ _ _ _ _ _ _ _ _ _ _ _ _ _ _ _ _ _ _ _ _ _ _ _ _ _ _ _ _ _ _ _ _ _ _ _ _ _ _ _ _ _ _ _ _ _ _ _ _ _ _ _ _ _ _ _ _ _ _ _ _ _ _ _ _ _ _ _ _ _ _ _ _ _ _ _ _ _ _ _ _ _ _ _ _ _ _ _ _ _ _ _ _ _ _ _ _ _ _ _ _ _ _ _ _
        · exact tail32_3 al hal B b N p q L2 c1 ad xs _ w _ HX.out hw hB hp hr (by omega) (by omega) _ _ _ _ _ _ _ _ _ _ _ _ _ _ _ _ _ _ _ _ _ _ _ _ _ _ _ _ _ _ _ _ _ _ _ _ _ _ _ _ _ _ _ _ _ _ _ _ _ _ _ _ _ _ _ _ _ _ _ _ _ _ _ _ _ _ _ _ _ _ _ _ _ _ _ _ _ _ _ _ _ _ _ _ _ _ _ _ _ _ _ _ _ _ _ _ _ _ _ _ _ _ _ _ _ _ _ _ _ _ _ _ _ _ _ _ _ _ _ _ _ _ _ _ _ _ _
        · exact tail32_4 al hal B b N p q L2 c1 ad xs _ w _ HX.out hw hB hp hr (by omega) (by omega) _ _ _ _ _ _ _ _ _ _ _ _ _ _ _ _ _ _ _ _ _ _ _ _ _ _ _ _ _ _ _ _ _ _ _ _ _ _ _ _ _ _ _ _ _ _ _ _ _ _ _ _ _ _ _ _ _ _ _ _ _ _ _ _ _ _ _ _ _ _ _ _ _ _ _ _ _ _ _ _ _ _ _ _ _ _ _ _ _ _ _ _ _ _ _ _ _ _ _ _ _ _ _ _ _ _ _ _ _ _ _ _ _ _ _ _ _ _ _ _ _ _ _ _ _ _ _
end Go.Proofs.YtghddiboggdhcaaGreatDoor
/- NewMultiaddrBytes at the bytes of an address: the deferred call finds no panic. -/
namespace Go.Proofs.YtghddiboggdhcaaGreatDoor
open Go.RowKit
variable {K : Nat}
theorem PR.far {w : World} {cs : List (Hop × Nat)} {g : Nat} {t : TypeId} {ds : Array Value} (h : PR w cs) (hk : Blk w g t ds) (hne : 77 ≠ t) (i : Nat) (u : Value) : PR (w.setCell ⟨g, i, none⟩ u) cs := fun x hx => by
  obtain ⟨g', hp⟩ := h x hx
  exact ⟨g', hp.far (hp.ne_ hk hne) u⟩
theorem catch_idle (p : Addr) (w : World) :
    CallsD Tryz.prog 37 #[.pointer (some p)] .returning w fun e u' w' => e = .returned (.tuple #[]) ∧ u' = .returning ∧ w' = w := by
  have q0 : ∀ w : World, (binOp .neq 20 .nilIface .nilIface).run Tryz.prog w = .ok (.bool false) w := fun _ => by kernel_rfl
  refine callsD_of_wpS Tryz.func37 rfl fun c₀ cs hu => ?_
  apply wpS_seq
  apply wpS_region
  simp [wpOpsS, go_sem, recoverD, hu, Tryz.ntmps37, Exit.thenS]
  apply wpS_seq
  apply wpS_region
  simp [wpOpsS, go_sem, q0, Exit.thenS]
  refine wpS_cond (t := false) (by simp [Act.eval, Array.replicate]) ?_
  simp only [Bool.false_eq_true, if_false]
  refine wpS_of_wp (wp_skip ?_)
  cases c₀
  simp_all [bodyPostS, results, Tryz.results37]
def OutMA (hs : List Hop) (w : World) (e : Ending) (w' : World) : Prop :=
  ∃ v cs, e = .returned (.tuple #[v, .nilIface]) ∧ cs.map (·.1) = hs ∧ PR w' cs ∧ w'.ownsRow w.heap.size 81 3 v cs.length (compCells cs) ∧ Below w.heap.size w w'
theorem newma_any (A : Option Addr) (n c : Nat) (hs : List Hop) (w : World) (ht : Tab K w) (hok : ∀ x ∈ hs, HopOk K x.kd x.l) (h : RB w w.heap.size A n c (addrBytes hs)) (hn : hs.length ≤ 100) (hne : hs ≠ []) :
    Calls Tryz.prog 24 #[.slice A n c] w (OutMA hs w) := by
  have hmf : ∀ (fn : Fn) (first cap : Array Value) (w : World), (Instr.makeFunc fn first cap).run Tryz.prog w = .ok (.func fn first cap) w := fun _ _ _ _ => rfl
  obtain ⟨w1, hw1⟩ : ∃ w1, w1 = w.alloc (.cells #[.nilIface] 52) := ⟨_, rfl⟩
  have hb1 : Below w.heap.size w w1 := by rw [hw1]; exact (Below.refl _ w).alloc (Nat.le_refl _) _
  have hk1 : Blk w1 w.heap.size 52 #[.nilIface] := by rw [hw1]; exact Blk.new _ _ _
  have HC := Lib.hid (readma_any A n c hs w1 (ht.below hb1) hok ((h.below hb1).more hb1.size) hn hne)
  have hlen := h.len
  have HL := Lib.hid hlen
  have HB1 := Lib.hid hb1
  have HK1 := Lib.hid hk1
  have HW1 := Lib.hid hw1
  have hs0 : 0 < hs.length := by rcases hs with _ | ⟨x, hs⟩; exact absurd rfl hne; simp
  clear h ht hok hne hb1 hk1 hw1 hlen
  go_enter_defers Tryz.func24, Tryz.ntmps24
  go_wp2_with fail
  rw [← HW1.out]
  refine HC.out.mono ?_
  rintro e w3 ⟨v, cs, rfl, hcs, hpr, hown, hb3⟩
  rw [HL.out]
  obtain ⟨A3, c3, rfl⟩ := own_slice hown
  have hk3 := HK1.out.below hb3 HK1.out.lt
  have c0 : w3.cell? ⟨w.heap.size, 0, none⟩ = some .nilIface := hk3.cell 0
  have f0 := hk3.frozen 0
  have hcl : 0 < cs.length := by have := congrArg List.length hcs; rw [List.length_map] at this; omega
  have hb4 : w.heap.size < w1.heap.size := HK1.out.lt
  have HO := Lib.hid hown
  have HP := Lib.hid hpr
  have HCS := Lib.hid hcs
  have HB := Lib.hid (HB1.out.trans (hb3.mono HB1.out.size))
  have HK3 := Lib.hid hk3
  clear hown hpr hcs hb3 hk3
  go_wp2_with fail
  have hcf : ((w3.setCell ⟨w.heap.size, 0, none⟩ .nilIface).setCell ⟨w.heap.size, 0, none⟩ .nilIface).cell? ⟨w.heap.size, 0, none⟩ = some .nilIface := ((HK3.out.set_ 0 .nilIface).set_ 0 .nilIface).cell 0
  have hpf := (HP.out.far HK3.out (by decide) 0 .nilIface).far (HK3.out.set_ 0 .nilIface) (by decide) 0 .nilIface
  have hof := ownsRow_setCell_below (ownsRow_setCell_below HO.out (a := ⟨w.heap.size, 0, none⟩) hb4 .nilIface) (a := ⟨w.heap.size, 0, none⟩) hb4 .nilIface
  have hbf := (HB.out.setCell (p := ⟨w.heap.size, 0, none⟩) (Nat.le_refl _) .nilIface).setCell (p := ⟨w.heap.size, 0, none⟩) (Nat.le_refl _) .nilIface
  refine leaves_cons (f := 37) (args := #[.pointer (some ⟨w.heap.size, 0, none⟩)]) (by simp) (by simp [go_sem]) ?_
  refine (catch_idle ⟨w.heap.size, 0, none⟩ _).mono ?_
  rintro e u' w'' ⟨rfl, rfl, rfl⟩
  have hfin : OutMA hs w (.returned (.tuple #[.slice A3 cs.length c3, .nilIface])) ((w3.setCell ⟨w.heap.size, 0, none⟩ .nilIface).setCell ⟨w.heap.size, 0, none⟩ .nilIface) := ⟨_, cs, rfl, HCS.out, hpf, own_base hof (Nat.le_of_lt hb4), hbf⟩
  simp [Leaves, settle, results, Tryz.results24, go_sem, hcf]
  exact hfin
end Go.Proofs.YtghddiboggdhcaaGreatDoor
/- A list of components: its copy, its last one. -/
namespace Go.Proofs.YtghddiboggdhcaaGreatDoor
open Go.RowKit
attribute [local go_sem ↓] Go.wp_at_zero Go.wp_at_succ
theorem run_copy_new {P : Program} (w : World) (dT sT ty elem : TypeId) (n c sc size : Nat) (a : Addr) (old cs : Array Value) (i : TypeInfo) (hu : P.underlying dT = some (.slice elem)) (hi : P.info? elem = some i) (hz : i.size = size)
    (ho : old.size = cs.size) (hn : cs.size = n * size) (hsrc : ∀ j v, cs.toList[j]? = some v → (w.alloc (.cells old elem)).cell? (a.add j) = some v) (h1 : cs.all (·.oneCell') = true) :
    (Builtin.copy_ #[dT, sT] ty #[.slice (some ⟨w.heap.size, 0, none⟩) n c, .slice (some a) n sc]).run P (w.alloc (.cells old elem)) = .ok (.int .i64 n) (w.alloc (.cells cs elem)) := by
  have hl := run_loadCells_list (P := P) (w.alloc (.cells old elem)) a cs.toList hsrc
  rw [Array.length_toList, hn] at hl
  have hst := run_storeCells_new (P := P) w elem old cs ho h1
  have hm : Nat.min n n = n := Nat.min_self n
  simp [Builtin.copy_, run_underlying hu, Builtin.lenOf, Builtin.firstCells, sizeOf, typeInfo, hi, hz, hm, hl, hst, goInt]
theorem compCells_one (cs : List (Hop × Nat)) : ∀ u ∈ compCells cs, u.oneCell' = true := by
  intro u hu
  simp only [compCells, List.mem_flatMap] at hu
  obtain ⟨x, _, hx⟩ := hu
  simp at hx
  rcases hx with rfl | rfl | rfl <;> rfl
theorem copyma_any (g c m : Nat) (cs : List (Hop × Nat)) (w : World) (hm : cs.length = m) (hm0 : 0 < m) (hm1 : m ≤ 1000) (hg : g < w.heap.size) (hc : ∀ j u, (compCells cs)[j]? = some u → w.cell? ⟨g, j, none⟩ = some u) :
    Calls Tryz.prog 40 #[.slice (some ⟨g, 0, none⟩) m c] w fun e w' => ∃ b, e = .returned (.slice (some ⟨b, 0, none⟩) m m) ∧ Blk w' b 81 (compCells cs).toArray ∧ w.heap.size ≤ b ∧ Below w.heap.size w w' := by
  obtain ⟨i0, hi0, hz0, hz1, hz2⟩ := info_parts comp_info2
  have hlc := compCells_length cs
  have q : ∀ (w : World) (a : Option Addr) (n c n' c' : Nat), (binOp .eql 44 (.slice a n c) (.slice none n' c')).run Tryz.prog w = .ok (.bool a.isNone) w := fun w a n c n' c' => Lib.run_eql_slice_nil w _ _ a n c n' c' Tryz.underlying44
  have hmk := fun W : World => run_make_rowN (P := Tryz.prog) 44 81 i0 _ Tryz.underlying44 hi0 hz0 .i64 .i64 m m (Nat.le_refl _) (by rw [hz2]; omega) (by omega) W
  rw [hz1] at hmk
  obtain ⟨zs, hzs⟩ : ∃ zs, zs = madeCells (Value.agg #[.string ⟨#[]⟩, .pointer none, .int .i64 0]).cells (m * 3) := ⟨_, rfl⟩
  rw [← hzs] at hmk
  have hcp := fun ty => run_copy_new (P := Tryz.prog) w 44 44 ty 81 m m c 3 ⟨g, 0, none⟩ zs (compCells cs).toArray i0 Tryz.underlying44 hi0 hz1 (by rw [hzs, size_madeCells]; simp [hlc, hm]) (by simp [hlc, hm]) (fun j u hu => by
    have hadd : (⟨g, 0, none⟩ : Addr).add j = ⟨g, j, none⟩ := by unfold Addr.add; split <;> simp_all
    rw [hadd, World.cell?_alloc_lt w _ _ hg]
    exact hc j u (by simpa using hu)) (by rw [Array.all_eq_true_iff_forall_mem]; intro u hu; exact compCells_one cs u (by simpa using hu))
  have HK := Lib.hid (Blk.new w 81 (compCells cs).toArray)
  have HB := Lib.hid ((Below.refl _ w).alloc (Nat.le_refl _) (.cells (compCells cs).toArray 81))
  obtain ⟨X, hX⟩ : ∃ X, X = (compCells cs).toArray := ⟨_, rfl⟩
  rw [← hX] at hcp HK HB ⊢
  clear hX hzs hc hi0 hz0 hz1 hz2 hlc hm
  go_enter Tryz.func40, Tryz.ntmps40
  go_wp2_with fail
  go_ret
  exact ⟨w.heap.size, rfl, HK.out, Nat.le_refl _, HB.out⟩
structure C3 (w : World) (q : Nat) (x : Hop × Nat) : Prop where
  c0 : w.cell? ⟨q, 0, none⟩ = some (.string ⟨x.1.bytes.toArray⟩)
  c1 : w.cell? ⟨q, 1, none⟩ = some (.pointer (some ⟨x.2, 0, none⟩))
  c2 : w.cell? ⟨q, 2, none⟩ = some (.int .i64 (vsOf x.1.kd))
theorem C3.below {w w' : World} {q : Nat} {x : Hop × Nat} (h : C3 w q x) (hb : Below w.heap.size w w') : C3 w' q x :=
  ⟨(hb.cell (World.block_lt_of_cell? _ _ h.c0)).trans h.c0, (hb.cell (World.block_lt_of_cell? _ _ h.c1)).trans h.c1, (hb.cell (World.block_lt_of_cell? _ _ h.c2)).trans h.c2⟩
structure MS (w : World) (g n c : Nat) (cs : List (Hop × Nat)) : Prop where
  len : cs.length = n
  cell : ∀ j u, (compCells cs)[j]? = some u → w.cell? ⟨g, j, none⟩ = some u
  lt : g < w.heap.size
  cap : n ≤ c
  max : c ≤ maxLen
theorem MS.below {w w' : World} {g n c : Nat} {cs : List (Hop × Nat)} (h : MS w g n c cs) (hb : Below w.heap.size w w') : MS w' g n c cs :=
  ⟨h.len, fun j u hu => (hb.cell h.lt).trans (h.cell j u hu), Nat.lt_of_lt_of_le h.lt hb.size, h.cap, h.max⟩
theorem MS.of_own {w : World} {base : Nat} {v : Value} {cs : List (Hop × Nat)} (h : w.ownsRow base 81 3 v cs.length (compCells cs)) (hn : 0 < cs.length) : ∃ g c, v = .slice (some ⟨g, 0, none⟩) cs.length c ∧ MS w g cs.length c cs := by
  obtain ⟨g, c, rfl, hg, hlt⟩ := h.form hn
  have hr := h.2
  rcases hr with ⟨hv, _⟩ | ⟨g', cap, cur, hv, _, _, hnc, hmx, _⟩
  · cases hv
  · injection hv with h1 h2 h3
    subst h3
    exact ⟨g, c, rfl, rfl, fun j u hu => by
      have := h.cells (g := g) rfl j u hu
      have hadd : (⟨g, 0, none⟩ : Addr).add j = ⟨g, j, none⟩ := by unfold Addr.add; split <;> simp_all
      rwa [hadd] at this, hlt, hnc, hmx⟩
theorem compCells_at (cs : List (Hop × Nat)) (x : Hop × Nat) (j : Nat) (hj : j < 3) : (compCells (cs ++ [x]))[cs.length * 3 + j]? = ([.string ⟨x.1.bytes.toArray⟩, .pointer (some ⟨x.2, 0, none⟩), .int .i64 (vsOf x.1.kd)] : List Value)[j]? := by
  rw [compCells_snoc, List.getElem?_append_right (by rw [compCells_length]; omega), compCells_length, Nat.add_sub_cancel_left]
theorem MS.init {w : World} {g n c : Nat} {cs : List (Hop × Nat)} {x : Hop × Nat} (h : MS w g n c (cs ++ [x])) : ∀ j u, (compCells cs)[j]? = some u → w.cell? ⟨g, j, none⟩ = some u := fun j u hu => by
  refine h.cell j u ?_
  rw [compCells_snoc, List.getElem?_append_left (List.getElem?_eq_some_iff.1 hu).1]
  exact hu
def OutSL (cs : List (Hop × Nat)) (x : Hop × Nat) (w : World) (e : Ending) (w' : World) : Prop :=
  ∃ T q, e = .returned (.tuple #[T, .pointer (some ⟨q, 0, none⟩)]) ∧ C3 w' q x ∧ ((cs = [] ∧ T = .slice none 0 0) ∨ (0 < cs.length ∧ ∃ b, T = .slice (some ⟨b, 0, none⟩) cs.length cs.length ∧ MS w' b cs.length cs.length cs)) ∧ Below w.heap.size w w'
theorem splitlast_one (g c : Nat) (x : Hop × Nat) (w : World) (h : MS w g 1 c ([] ++ [x])) : Calls Tryz.prog 25 #[.slice (some ⟨g, 0, none⟩) 1 c] w (OutSL [] x w) := by
  have h3 : C3 w g x := ⟨h.cell 0 _ (compCells_at [] x 0 (by decide)), h.cell 1 _ (compCells_at [] x 1 (by decide)), h.cell 2 _ (compCells_at [] x 2 (by decide))⟩
  have H3 := Lib.hid h3
  have hcap := h.cap
  clear h h3
  go_enter Tryz.func25, Tryz.ntmps25
  go_wp2_with fail
  go_quiet (fail)
  go_wp2_with fail
  go_ret2
  exact ⟨_, g, rfl, ⟨H3.out.c0, H3.out.c1, H3.out.c2⟩, Or.inl ⟨rfl, rfl⟩, below_drewN (Below.refl _ _) _⟩
theorem splitlast_more (g c : Nat) (cs : List (Hop × Nat)) (x : Hop × Nat) (w : World) (hn : 0 < cs.length) (hn1 : cs.length ≤ 1000) (h : MS w g (cs.length + 1) c (cs ++ [x])) : Calls Tryz.prog 25 #[.slice (some ⟨g, 0, none⟩) (cs.length + 1) c] w (OutSL cs x w) := by
  have c0 := h.cell (cs.length * 3 + 0) _ (compCells_at cs x 0 (by decide))
  have c1 := h.cell (cs.length * 3 + 1) _ (compCells_at cs x 1 (by decide))
  have c2 := h.cell (cs.length * 3 + 2) _ (compCells_at cs x 2 (by decide))
  rw [Nat.add_zero] at c0
  have hcap := h.cap
  have hmax : c ≤ 9223372036854775807 := h.max
  have HM := Lib.hid h.init
  have HG := Lib.hid h.lt
  have hz : IntKind.i64.wrap ((cs.length : Int) + 1 - 1) = (cs.length : Int) := by rw [show (cs.length : Int) + 1 - 1 = cs.length by omega]; exact IntWalk.i64_in _ (by omega)
  clear h
  go_enter Tryz.func25, Tryz.ntmps25
  have hb1 : Below w.heap.size w (w.alloc (.cells #[.string ⟨x.1.bytes.toArray⟩, .pointer (some ⟨x.2, 0, none⟩), .int .i64 (vsOf x.1.kd)] 81)) := (Below.refl _ w).alloc (Nat.le_refl _) _
  have hk1 := Blk.new w 81 #[.string ⟨x.1.bytes.toArray⟩, .pointer (some ⟨x.2, 0, none⟩), .int .i64 (vsOf x.1.kd)]
  have HC := Lib.hid (copyma_any g c cs.length cs _ rfl hn hn1 (Nat.lt_of_lt_of_le HG.out hb1.size) (fun j u hu => (hb1.cell (p := ⟨g, j, none⟩) HG.out).trans (HM.out j u hu)))
  have HB1 := Lib.hid hb1
  have HK1 := Lib.hid hk1
  clear hb1 hk1
  go_wp2_with fail
  refine HC.out.mono ?_
  rintro e w2 ⟨b, rfl, hk, _, hb2⟩
  have h3 := HK1.out.below hb2 HK1.out.lt
  have H3 := Lib.hid (show C3 w2 w.heap.size x from ⟨h3.cell 0, h3.cell 1, h3.cell 2⟩)
  have HMS := Lib.hid (show MS w2 b cs.length cs.length cs from ⟨rfl, fun j u hu => by rw [hk.cell j]; simpa using hu, hk.lt, Nat.le_refl _, by unfold maxLen; omega⟩)
  have HB2 := Lib.hid (HB1.out.trans (hb2.mono HB1.out.size))
  clear hk hb2 h3
  go_wp2_with fail
  go_ret2
  exact ⟨_, w.heap.size, rfl, H3.out, Or.inr ⟨hn, b, rfl, HMS.out⟩, HB2.out⟩
theorem rawvalue_c3 (q : Nat) (x : Hop × Nat) (w : World) (h : C3 w q x) (hv : vsOf x.1.kd ≤ x.1.bytes.length) (hl : x.1.bytes.length ≤ 100000) :
    Calls Tryz.prog 27 #[.pointer (some ⟨q, 0, none⟩)] w (OutB (x.1.bytes.drop (vsOf x.1.kd)) w) := by
  have c0 := h.c0
  have c2 := h.c2
  generalize x.1.bytes = l at *
  generalize vsOf x.1.kd = vs at *
  have hsz := size_toArray l
  have kx := extract_drop l vs
  have hL1 : (l.drop vs).length ≤ 1000000 := by simp; omega
  obtain ⟨L, hL⟩ : ∃ L, L = l.drop vs := ⟨_, rfl⟩
  rw [← hL] at kx hL1 ⊢
  have k0 : (0 : Int) ≤ (vs : Int) := by omega
  have k1 : (vs : Int) ≤ (l.length : Int) := by omega
  obtain ⟨cc, w1, hcv, hr, hb, _⟩ := conv_list w.drew L hL1
  have HR := Lib.hid hr
  have HB := Lib.hid (below_drew_left hb)
  clear h hL hr hb
  go_enter Tryz.func27, Tryz.ntmps27
  go_wp2_with fail
  go_still_tail 9, (by kernel_rfl)
  change wpList _ _ _ _ _ w.drew
  go_wp2_with fail
  go_ret
  exact ⟨_, cc, rfl, HR.out, HB.out⟩
theorem tc_form (k : Nat) : (protoOf k).tc = .nilIface ∨ ∃ t v, (protoOf k).tc = .iface t v := by
  unfold protoOf; split <;> first | exact Or.inl rfl | exact Or.inr ⟨_, _, rfl⟩
def OutPV (k : Nat) (w : World) (e : Ending) (w' : World) : Prop := ∃ v0 v2 v3 v4 v5, e = .returned (.agg #[v0, .int .i64 k, v2, v3, v4, v5]) ∧ Below w.heap.size w w'
theorem protocol_any (q p k g : Nat) (w : World) (h : w.cell? ⟨q, 1, none⟩ = some (.pointer (some ⟨p, 0, none⟩))) (hp : Blk w p 77 (pcells k g)) :
    Calls Tryz.prog 26 #[.pointer (some ⟨q, 0, none⟩)] w (OutPV k w) := by
  obtain ⟨S, hS⟩ : ∃ S : ByteArray, S = ⟨(protoOf k).name.toArray⟩ := ⟨_, rfl⟩
  obtain ⟨m, hm⟩ : ∃ m, m = (protoOf k).vc.length := ⟨_, rfl⟩
  obtain ⟨z, hz⟩ : ∃ z, z = (protoOf k).size := ⟨_, rfl⟩
  have p0 : w.cell? ⟨p, 0, none⟩ = some (.string S) := by rw [hS]; exact hp.cell 0
  have p1 : w.cell? ⟨p, 1, none⟩ = some (.int .i64 k) := hp.cell 1
  have p2 : w.cell? ⟨p, 2, none⟩ = some (.slice (some ⟨g, 0, none⟩) m m) := by rw [hm]; exact hp.cell 2
  have p3 : w.cell? ⟨p, 3, none⟩ = some (.int .i64 z) := by rw [hz]; exact hp.cell 3
  have p4 : w.cell? ⟨p, 4, none⟩ = some (.bool false) := hp.cell 4
  have p5 : w.cell? ⟨p, 5, none⟩ = some (protoOf k).tc := hp.cell 5
  have h1 := tc_form k
  generalize (protoOf k).tc = tc at p5 h1
  have hpw := hp.lt
  have hqw := World.block_lt_of_cell? _ _ h
  clear hS hm hz hp
  rcases h1 with rfl | ⟨t, v, rfl⟩
  all_goals
    go_enter Tryz.func26, Tryz.ntmps26
    go_wp2_with fail
    exact bodyPost_ret (results_cell_row rfl _ _ w.heap.size 77 _ (0, 0) _ rfl (Blk.new w _ _) Tryz.underlying77 rfl (proto_size.trans rfl)) rfl ⟨_, _, _, _, _, rfl, (Below.refl _ w).alloc (Nat.le_refl _) _⟩
end Go.Proofs.YtghddiboggdhcaaGreatDoor
/- impl.addrOf, impl.AddrRight, peer.SplitAddr at the bytes of an address. -/
namespace Go.Proofs.YtghddiboggdhcaaGreatDoor
open Go.RowKit
variable {K : Nat}
attribute [local go_sem ↓] Go.wp_at_zero Go.wp_at_succ
def OutAO (hs : List Hop) (w : World) (e : Ending) (w' : World) : Prop :=
  ∃ g c cs, e = .returned (.tuple #[.slice (some ⟨g, 0, none⟩) cs.length c, .bool true]) ∧ cs.map (·.1) = hs ∧ PR w' cs ∧ MS w' g cs.length c cs ∧ Below w.heap.size w w'
theorem addrof_impl (A : Option Addr) (n c : Nat) (hs : List Hop) (w : World) (ht : Tab K w) (hok : ∀ x ∈ hs, HopOk K x.kd x.l) (h : RB w w.heap.size A n c (addrBytes hs)) (hn : hs.length ≤ 100) (hne : hs ≠ []) :
    Calls Tryz.prog 13 #[.slice A n c] w (OutAO hs w) := by
  have hs0 : 0 < hs.length := by rcases hs with _ | ⟨x, hs⟩; exact absurd rfl hne; simp
  have hle := addrBytes_le hs
  have hnn : n ≤ 140737488355328 := by rw [← h.len]; omega
  have HC := Lib.hid (clone_any A n c _ w h hnn)
  have HT := Lib.hid ht
  have HOK := Lib.hid hok
  have HN := Lib.hid hne
  clear h ht hok hne hle hnn
  have q0 : ∀ w : World, (binOp .eql 52 .nilIface .nilIface).run Tryz.prog w = .ok (.bool true) w := fun _ => by kernel_rfl
  go_enter Tryz.func13, Tryz.ntmps13
  go_wp2_with fail
  refine HC.out.mono ?_
  rintro e w1 ⟨A1, c1, rfl, hr1, hb1⟩
  have HR1 := Lib.hid hr1
  have HB1 := Lib.hid hb1
  clear hr1 hb1
  go_wp2_with fail
  refine (newma_any A1 _ c1 hs w1 (HT.out.below HB1.out) HOK.out HR1.out hn HN.out).mono ?_
  rintro e w2 ⟨v, cs, rfl, hcs, hpr, hown, hb2⟩
  have hcl : 0 < cs.length := by have := congrArg List.length hcs; rw [List.length_map] at this; omega
  obtain ⟨g, c2, rfl, hms⟩ := MS.of_own hown hcl
  have HCS := Lib.hid hcs
  have HPR := Lib.hid hpr
  have HMS := Lib.hid hms
  have HB := Lib.hid (HB1.out.trans (hb2.mono HB1.out.size))
  clear hcs hpr hms hown hb2
  go_wp2_with fail
  go_ret2
  exact ⟨g, c2, cs, rfl, HCS.out, HPR.out, HMS.out, HB.out⟩
theorem splitlast_any (g c : Nat) (cs : List (Hop × Nat)) (x : Hop × Nat) (w : World) (hn1 : cs.length ≤ 1000) (h : MS w g (cs.length + 1) c (cs ++ [x])) : Calls Tryz.prog 25 #[.slice (some ⟨g, 0, none⟩) (cs.length + 1) c] w (OutSL cs x w) := by
  rcases cs with _ | ⟨y, cs⟩
  · exact splitlast_one g c x w h
  · exact splitlast_more g c (y :: cs) x w (by simp) hn1 h
theorem codeOf_421 (kd : Nat) : codeOf kd = 421 ↔ kd % 8 = 6 := by
  have h8 : kd % 8 = 0 ∨ kd % 8 = 1 ∨ kd % 8 = 2 ∨ kd % 8 = 3 ∨ kd % 8 = 4 ∨ kd % 8 = 5 ∨ kd % 8 = 6 ∨ kd % 8 = 7 := by omega
  unfold codeOf
  rcases h8 with e | e | e | e | e | e | e | e <;> simp [e]
theorem vs_le (kd : Nat) (l : List UInt8) : vsOf kd ≤ (hopBytes kd l).length := by
  have h8 : kd % 8 = 0 ∨ kd % 8 = 1 ∨ kd % 8 = 2 ∨ kd % 8 = 3 ∨ kd % 8 = 4 ∨ kd % 8 = 5 ∨ kd % 8 = 6 ∨ kd % 8 = 7 := by omega
  unfold vsOf hopBytes
  rcases h8 with e | e | e | e | e | e | e | e <;> simp [e]
theorem drop_id (kd : Nat) (l : List UInt8) (h : kd % 8 = 6) : (hopBytes kd l).drop (vsOf kd) = idOf l := by
  unfold vsOf hopBytes
  simp [h]
theorem field_code (v0 v1 v2 v3 v4 v5 : Value) (w : World) : (Instr.field 77 (.agg #[v0, v1, v2, v3, v4, v5]) 1).run Tryz.prog w = .ok v1 w := by kernel_rfl
def OutPS (cs : List (Hop × Nat)) (x : Hop × Nat) (w : World) (e : Ending) (w' : World) : Prop :=
  ∃ T, e = .returned (.tuple #[T, .string ⟨(idOf x.1.l).toArray⟩]) ∧ ((cs = [] ∧ T = .slice none 0 0) ∨ (0 < cs.length ∧ ∃ b, T = .slice (some ⟨b, 0, none⟩) cs.length cs.length ∧ MS w' b cs.length cs.length cs)) ∧ Below w.heap.size w w'
theorem splitaddr_id (g c : Nat) (cs : List (Hop × Nat)) (x : Hop × Nat) (w : World) (hn1 : cs.length ≤ 1000) (hk : x.1.kd % 8 = 6) (hp : PR w (cs ++ [x])) (h : MS w g (cs.length + 1) c (cs ++ [x])) : Calls Tryz.prog 14 #[.slice (some ⟨g, 0, none⟩) (cs.length + 1) c] w (OutPS cs x w) := by
  have q : ∀ (w : World) (a : Option Addr) (n c n' c' : Nat), (binOp .eql 44 (.slice a n c) (.slice none n' c')).run Tryz.prog w = .ok (.bool a.isNone) w := fun w a n c n' c' => Lib.run_eql_slice_nil w _ _ a n c n' c' Tryz.underlying44
  obtain ⟨gp, hgp⟩ := hp x (by simp)
  have HP := Lib.hid hgp
  have hfc := fun v0 v1 v2 v3 v4 v5 => field_code v0 v1 v2 v3 v4 v5
  have hcode : codeOf x.1.kd = 421 := (codeOf_421 _).2 hk
  rw [hcode] at HP
  have HC := Lib.hid (splitlast_any g c cs x w hn1 h)
  have HK := Lib.hid hk
  clear hp h hcode hk hgp
  go_enter Tryz.func14, Tryz.ntmps14
  go_wp2_with fail
  refine HC.out.mono ?_
  rintro e w1 ⟨T, q1, rfl, h3, hT, hb⟩
  have HB := Lib.hid hb
  have HT := Lib.hid hT
  have H3 := Lib.hid h3
  clear h3 hb hT
  go_wp2_with fail
  refine (protocol_any q1 x.2 421 gp w1 H3.out.c1 (HP.out.below HB.out HP.out.lt)).mono ?_
  rintro e w2 ⟨v0, v2, v3, v4, v5, rfl, hb2⟩
  have H3' := Lib.hid (H3.out.below hb2)
  have HT' := Lib.hid (HT.out.imp id (fun ⟨h0, b, e1, hm⟩ => ⟨h0, b, e1, hm.below hb2⟩) : (cs = [] ∧ T = Value.slice none 0 0) ∨ (0 < cs.length ∧ ∃ b, T = .slice (some ⟨b, 0, none⟩) cs.length cs.length ∧ MS w2 b cs.length cs.length cs))
  have HB' := Lib.hid (HB.out.trans (hb2.mono HB.out.size))
  clear hb2
  go_wp2_with fail
  refine (rawvalue_c3 q1 x w2 H3'.out (vs_le _ _) (by have := (hopBytes_le x.1.kd x.1.l).2; unfold Hop.bytes; omega)).mono ?_
  rintro e w3 ⟨A3, c3, rfl, hr3, hb3⟩
  have hd : x.1.bytes.drop (vsOf x.1.kd) = idOf x.1.l := drop_id _ _ HK.out
  rw [hd] at hr3 ⊢
  have hcv := run_convert_RB hr3 22 5 Tryz.underlying22 Tryz.underlying5 47 Tryz.underlying47
  have HT3 := Lib.hid (HT'.out.imp id (fun ⟨h0, b, e1, hm⟩ => ⟨h0, b, e1, hm.below hb3⟩) : (cs = [] ∧ T = Value.slice none 0 0) ∨ (0 < cs.length ∧ ∃ b, T = .slice (some ⟨b, 0, none⟩) cs.length cs.length ∧ MS w3 b cs.length cs.length cs))
  have HB3 := Lib.hid (HB'.out.trans (hb3.mono HB'.out.size))
  clear hr3 hb3 hd
  go_wp2_with fail
  go_ret2
  exact ⟨T, rfl, HT3.out, HB3.out⟩
theorem splitaddr_other (g c : Nat) (cs : List (Hop × Nat)) (x : Hop × Nat) (w : World) (hn1 : cs.length ≤ 1000) (hk : x.1.kd % 8 ≠ 6) (hp : PR w (cs ++ [x])) (h : MS w g (cs.length + 1) c (cs ++ [x])) : Calls Tryz.prog 14 #[.slice (some ⟨g, 0, none⟩) (cs.length + 1) c] w fun e w' => e = .returned (.tuple #[.slice (some ⟨g, 0, none⟩) (cs.length + 1) c, .string ⟨#[]⟩]) ∧ Below w.heap.size w w' := by
  have q : ∀ (w : World) (a : Option Addr) (n c n' c' : Nat), (binOp .eql 44 (.slice a n c) (.slice none n' c')).run Tryz.prog w = .ok (.bool a.isNone) w := fun w a n c n' c' => Lib.run_eql_slice_nil w _ _ a n c n' c' Tryz.underlying44
  obtain ⟨gp, hgp⟩ := hp x (by simp)
  have HP := Lib.hid hgp
  have hfc := fun v0 v1 v2 v3 v4 v5 => field_code v0 v1 v2 v3 v4 v5
  obtain ⟨K, hK⟩ : ∃ K, K = codeOf x.1.kd := ⟨_, rfl⟩
  have hne : ((K : Int) != 421) = true := by
    have : K ≠ 421 := by rw [hK]; exact fun e => hk ((codeOf_421 _).1 e)
    simp; omega
  rw [← hK] at HP
  have HC := Lib.hid (splitlast_any g c cs x w hn1 h)
  clear hp h hgp hK
  go_enter Tryz.func14, Tryz.ntmps14
  go_wp2_with fail
  refine HC.out.mono ?_
  rintro e w1 ⟨T, q1, rfl, h3, _, hb⟩
  have HB := Lib.hid hb
  have H3 := Lib.hid h3
  clear h3 hb
  go_wp2_with fail
  refine (protocol_any q1 x.2 K gp w1 H3.out.c1 (HP.out.below HB.out HP.out.lt)).mono ?_
  rintro e w2 ⟨v0, v2, v3, v4, v5, rfl, hb2⟩
  have HB' := Lib.hid (HB.out.trans (hb2.mono HB.out.size))
  clear hb2
  go_wp2_with fail
  go_ret2
  exact ⟨rfl, HB'.out⟩
end Go.Proofs.YtghddiboggdhcaaGreatDoor
/- Multiaddr.Bytes: the bytes of components, one after the other. -/
namespace Go.Proofs.YtghddiboggdhcaaGreatDoor
open Go.RowKit
open Go.Lib (strCells strCells_length strCells_oneCell)
theorem strCells_bv (l : List UInt8) : strCells ⟨l.toArray⟩ = bv l := by simp [strCells, bv]
theorem run_append_room_string2 {P : Program} (w : World) (t u ty e eb : TypeId) (i : TypeInfo) (ht : P.underlying t = some (.slice e)) (hu : P.underlying u = some .string) (hi : P.info? e = some i) (hs1 : i.size = 1)
    (g sLen sCap : Nat) (cur : Array Value) (hg : w.heap[g]? = some (.cells cur eb (0, 0))) (s : ByteArray)
    (hroom : sLen + s.size ≤ sCap) (hfit : sLen + s.size ≤ cur.size) :
    (Builtin.append_ #[t, u] ty #[.slice (some ⟨g, 0, none⟩) sLen sCap, .string s]).run P w =
      .ok (.slice (some ⟨g, 0, none⟩) (sLen + s.size) sCap) (w.setRow g (cur.toList.take sLen ++ strCells s ++ cur.toList.drop (sLen + s.size)).toArray) := by
  have hf := Lib.run_firstCells_string (P := P) w 1 s
  have hst := run_storeCells_at P g sLen eb (strCells s) 0 cur w hg (by simpa [strCells_length] using hfit) (strCells_oneCell s)
  simp only [Nat.add_zero, strCells_length] at hst
  simp [Builtin.append_, run_underlying ht, run_underlying hu, sizeOf, typeInfo, hi, hs1, Builtin.lenOf, hroom, hf, Addr.add_lit, hst]
theorem run_append_fits_string2 {P : Program} (w : World) (base : Nat) (t u ty e eb : TypeId) (i : TypeInfo) (ht : P.underlying t = some (.slice e)) (hu : P.underlying u = some .string) (hi : P.info? e = some i)
    (hsize : i.size = 1)
    (p : Option Addr) (n cap : Nat) (xs : List Value) (hown : w.ownsRow base eb 1 (.slice p n cap) n xs) (s : ByteArray) (h1 : 0 < cap) (hroom : n + s.size ≤ cap) :
    ∃ w', (Builtin.append_ #[t, u] ty #[.slice p n cap, .string s]).run P w = .ok (.slice p (n + s.size) cap) w' ∧ w'.ownsRow base eb 1 (.slice p (n + s.size) cap) (n + s.size) (xs ++ strCells s) ∧ w.grownBy w' (Value.ownBlock (.slice p n cap)) := by
  have hxl : xs.length = n := by simpa using hown.1
  have hlen : (xs ++ strCells s).length = (n + s.size) * 1 := by rw [List.length_append, hxl, strCells_length, Nat.mul_one]
  rcases hown.2 with ⟨hv, _⟩ | ⟨g, cap', cur, hv, hbg, hg, hnc, hcm, hcs, htake⟩
  · cases hv
    omega
  · cases hv
    have hcs' : cur.size = cap := by simpa using hcs
    have hr := run_append_room_string2 (P := P) w t u ty e eb i ht hu hi hsize g n cap cur hg s hroom (by omega)
    refine ⟨_, hr, ⟨hlen, .inr ⟨g, cap, _, rfl, hbg, setRow_heap w g cur _ eb _ hg, hroom, hcm, ?_, ?_⟩⟩, ⟨rfl, rfl, rfl, by simp, fun k _ hk => setRow_other w g k _ (fun e => hk (by simp [Value.ownBlock, e]))⟩⟩
    · simp only [List.size_toArray, List.length_append, List.length_take, List.length_drop, Array.length_toList, strCells_length]
      omega
    · have ht' : cur.toList.take n = xs := by simpa using htake
      rw [ht', ← hlen]
      exact List.take_left
theorem step_append_string {P : Program} {w : World} {ops : Array Oper} {rest : List Oper} {o : Oper} {a : Act} {Q : Exit → Act → World → Prop} (hgd : o.guard = none) (sl x : Operand) (t u : TypeId)
    (ho : o.op = .call { callee := .builtin .append, args := #[sl, x], argTypes := #[t, u] })
    (base : Nat) (e eb : TypeId) (i : TypeInfo) (ht : P.underlying t = some (.slice e)) (hu : P.underlying u = some .string) (hi : P.info? e = some i)
    (hsize : i.size = 1)
    (p : Option Addr) (n cap : Nat) (xs : List Value) (hs : a.eval sl = .slice p n cap) (hown : w.ownsRow base eb 1 (.slice p n cap) n xs) (s : ByteArray) (hx : a.eval x = .string s) (h1 : 0 < cap) (hroom : n + s.size ≤ cap)
    (h : ∀ w', w'.ownsRow base eb 1 (.slice p (n + s.size) cap) (n + s.size) (xs ++ strCells s) → w.grownBy w' (Value.ownBlock (.slice p n cap)) → wpList P ops Q rest (a.put o.dst (.slice p (n + s.size) cap)) w') : wpList P ops Q (o :: rest) a w := by
  refine wpList_plain hgd fun K hK => ?_
  obtain ⟨w', hr, h2, h3⟩ := run_append_fits_string2 (P := P) w base t u o.type e eb i ht hu hi hsize p n cap xs hown s h1 hroom
  unfold Oper.wp execOp
  simp only [ho, resolve, invoke, builtin, Sem.run_bind, Sem.run_pure, Result.andThen_ok, List.map_toArray, List.map_cons, List.map_nil, hs, hx, hr]
  exact hK _ _ (h w' h2 h3)
theorem compCells_get (cs : List (Hop × Nat)) (k : Nat) (hk : k < cs.length) (j : Nat) (hj : j < 3) : (compCells cs)[k * 3 + j]? = ([.string ⟨(cs[k]).1.bytes.toArray⟩, .pointer (some ⟨(cs[k]).2, 0, none⟩), .int .i64 (vsOf (cs[k]).1.kd)] : List Value)[j]? := by
  have e : cs = cs.take k ++ [cs[k]] ++ cs.drop (k + 1) := by simp
  have hl : (cs.take k).length = k := by rw [List.length_take]; omega
  have h1 := compCells_at (cs.take k) (cs[k]) j hj
  rw [hl] at h1
  rw [← h1]
  conv => lhs; rw [e]
  have e2 : compCells (cs.take k ++ [cs[k]] ++ cs.drop (k + 1)) = compCells (cs.take k ++ [cs[k]]) ++ compCells (cs.drop (k + 1)) := by unfold compCells; rw [List.flatMap_append]
  rw [e2, List.getElem?_append_left]
  rw [compCells_length, List.length_append, hl]
  simp
  omega
def compBytes (cs : List (Hop × Nat)) : List UInt8 := addrBytes (cs.map (·.1))
theorem compBytes_take (cs : List (Hop × Nat)) (k : Nat) (h : k < cs.length) : compBytes (cs.take (k + 1)) = compBytes (cs.take k) ++ (cs[k]).1.bytes := by
  unfold compBytes
  rw [List.map_take, List.map_take, addrBytes_take _ k (by simpa using h)]
  simp
theorem compBytes_le (cs : List (Hop × Nat)) : (compBytes cs).length ≤ 50 * cs.length := by
  have := addrBytes_le (cs.map (·.1))
  rwa [List.length_map] at this
theorem compBytes_take_le (cs : List (Hop × Nat)) (k : Nat) : (compBytes (cs.take k)).length ≤ (compBytes cs).length := by
  conv => rhs; rw [← List.take_append_drop k cs]
  unfold compBytes addrBytes
  rw [List.map_append, List.flatMap_append, List.length_append]
  omega
theorem bytes_any (g n c : Nat) (cs : List (Hop × Nat)) (w : World) (h : MS w g n c cs) (hn : n ≤ 1000) :
    Calls Tryz.prog 15 #[.slice (some ⟨g, 0, none⟩) n c] w (OutB (compBytes cs) w) := by
  obtain ⟨i0, hi0, hz0, hz1, hz2⟩ := info_parts u8_info
  have HM := Lib.hid h
  have HL := Lib.hid h.len
  have hlen : cs.length ≤ 1000 := by rw [h.len]; exact hn
  clear h
  go_enter Tryz.func15, Tryz.ntmps15
  go_wp2_with fail
  go_loopw [3, 12] (fun s i wr => ∃ k : Nat, k ≤ n ∧ i = .int .i64 k ∧ s = .int .i64 (compBytes (cs.take k)).length ∧ Below w.heap.size w wr) (fun _ i _ => n - (intOf i).toNat)
  case atStart => exact ⟨0, by omega, rfl, rfl, Below.refl _ _⟩
  case round =>
    obtain ⟨k, hk, rfl, rfl, hb⟩ := hrel
    have HB := Lib.hid hb
    clear hb
    by_cases hlt : k < n
    · have hlt' : k < cs.length := by rw [HL.out]; exact hlt
      have hm := HM.out.below HB.out
      have c0 := hm.cell (k * 3 + 0) _ (compCells_get cs k hlt' 0 (by decide))
      have c1 := hm.cell (k * 3 + 1) _ (compCells_get cs k hlt' 1 (by decide))
      have c2 := hm.cell (k * 3 + 2) _ (compCells_get cs k hlt' 2 (by decide))
      rw [Nat.add_zero] at c0
      have htk := compBytes_take cs k hlt'
      have hle := compBytes_le (cs.take k)
      have hle2 := (hopBytes_le (cs[k]).1.kd (cs[k]).1.l).2
      have hltk : (cs.take k).length ≤ 1000 := by rw [List.length_take]; omega
      have hts : (compBytes (cs.take (k + 1))).length = (compBytes (cs.take k)).length + (cs[k]).1.bytes.length := by rw [htk, List.length_append]
      have hsz := size_toArray (cs[k]).1.bytes
      generalize hX : (cs[k]).1.bytes = X at *
      have hX2 : X.length ≤ 100 := by rw [← hX]; unfold Hop.bytes; omega
      have HTS := Lib.hid hts
      generalize (compBytes (cs.take k)).length = S0 at *
      have hS0 : S0 ≤ 50000 := by omega
      clear hts htk hle hle2 hm hX
      go_wp2_with fail
      exact ⟨⟨k + 1, by omega, by go_num, by rw [HTS.out]; go_num, HB.out.alloc HB.out.size _⟩, by simp [intOf]; omega⟩
    · obtain rfl : n = k := by omega
      have htk : cs.take n = cs := by rw [← HL.out]; exact List.take_length
      rw [htk]
      clear htk
      obtain ⟨S, hS⟩ : ∃ S, S = (compBytes cs).length := ⟨_, rfl⟩
      have hS1 : S ≤ 50000 := by have := compBytes_le cs; omega
      rw [← hS]
      have hmk : ∀ W : World, (Instr.makeSlice 22 (.int .i64 0) (.int .i64 (S : Int))).run Tryz.prog W = .ok (.slice (some ⟨W.heap.size, 0, none⟩) 0 S) (W.alloc (.cells (madeCells (Value.int .u8 0).cells (S * 1)) 5)) := fun W => by
        have := run_make_rowN (P := Tryz.prog) 22 5 i0 (.int .u8 0) Tryz.underlying22 hi0 hz0 .i64 .i64 0 S (Nat.zero_le _) (by rw [hz2]; omega) (by omega) W
        rwa [hz1] at this
      have HS := Lib.hid hS
      clear hS
      by_cases hlt128 : S < 128
      · have hd0 : decide ((S : Int) < 128) = true := by simp; omega
        have hn0 : 0 < 128 := by decide
        have hob : ∀ X : Array Value, X.size = 128 → (wr.alloc (.cells X 82)).ownsRow w.heap.size 82 1 (.slice (some ⟨wr.heap.size, 0, none⟩) 0 128) 0 [] := fun X hX => ⟨rfl, .inr ⟨_, _, _, rfl, HB.out.size, heap_alloc_new _ _, by omega, by unfold maxLen; omega, by omega, rfl⟩⟩
        have HOB := Lib.hid hob
        clear hob
        go_wp2_with fail
        go_loopw [6, 29] (fun v i wq => ∃ k : Nat, k ≤ n ∧ i = .int .i64 k ∧ v = .slice (some ⟨wr.heap.size, 0, none⟩) (compBytes (cs.take k)).length 128 ∧ wq.ownsRow w.heap.size 82 1 v (compBytes (cs.take k)).length (bv (compBytes (cs.take k))) ∧ Below w.heap.size w wq) (fun _ i _ => n - (intOf i).toNat)
        case atStart => exact ⟨0, by omega, rfl, rfl, HOB.out _ (by rfl), HB.out.alloc HB.out.size _⟩
        case round =>
          obtain ⟨k, hk, rfl, rfl, hown, hb⟩ := hrel
          have HO := Lib.hid hown
          have HB := Lib.hid hb
          clear hb hown
          by_cases hlt : k < n
          · have hlt' : k < cs.length := by rw [HL.out]; exact hlt
            have hm := HM.out.below HB.out
            have c0 := hm.cell (k * 3 + 0) _ (compCells_get cs k hlt' 0 (by decide))
            have c1 := hm.cell (k * 3 + 1) _ (compCells_get cs k hlt' 1 (by decide))
            have c2 := hm.cell (k * 3 + 2) _ (compCells_get cs k hlt' 2 (by decide))
            rw [Nat.add_zero] at c0
            have htk := compBytes_take cs k hlt'
            have hle := compBytes_take_le cs (k + 1)
            have hts : (compBytes (cs.take (k + 1))).length = (compBytes (cs.take k)).length + (cs[k]).1.bytes.length := by rw [htk, List.length_append]
            rw [hts, ← HS.out] at hle
            have hsz := size_toArray (cs[k]).1.bytes
            generalize hX : (cs[k]).1.bytes = X at *
            have HTK := Lib.hid htk
            have HTS := Lib.hid hts
            have HLE := Lib.hid hle
            have hbw : Below w.heap.size w (wr.alloc (.cells #[.string ⟨X.toArray⟩, .pointer (some ⟨(cs[k]).2, 0, none⟩), .int .i64 (vsOf (cs[k]).1.kd)] 81)) := HB.out.alloc HB.out.size _
            have HBW := Lib.hid hbw
            have HOO := Lib.hid (own_below HO.out ((Below.refl _ wr).alloc (Nat.le_refl _) (.cells #[.string ⟨X.toArray⟩, .pointer (some ⟨(cs[k]).2, 0, none⟩), .int .i64 (vsOf (cs[k]).1.kd)] 81)))
            clear hts htk hle hm hX hbw
            go_wp2_with (at_builtin; refine step_append_string rfl (.tmp 33) (.tmp 35) _ _ rfl w.heap.size 5 82 i0 Tryz.underlying22 Tryz.underlying9 hi0 hz1 _ _ _ _ rfl HOO.out _ rfl ?c1 ?c2 ?_)
            case c1 => omega
            case c2 => have := HLE.out; omega
            intro w' hown hgrow
            rw [strCells_bv, ← bv_append, ← HTK.out, ← HTS.out] at hown
            have HOF := Lib.hid hown
            have HBF := Lib.hid (HBW.out.grown hgrow HBW.out.size (fun g hg => (HOO.out.lt g hg).1))
            have hts' := HTS.out
            rw [← hts']
            clear hown hgrow hts'
            go_wp2_with fail
            go_roundw
            case rel => exact ⟨k + 1, by omega, by go_num, rfl, HOF.out, HBF.out⟩
            case measure => simp [intOf]; omega
          · obtain rfl : k = n := by omega
            have htk : cs.take k = cs := by rw [← HL.out]; exact List.take_length
            rw [htk] at HO ⊢
            clear htk
            go_wp2_with fail
            go_ret
            exact OutB.of_own HO.out HB.out
      · have hd0 : decide ((S : Int) < 128) = false := by simp; omega
        have hn0 : 0 < S := by omega
        have hob : ∀ X : Array Value, X.size = S → (wr.alloc (.cells X 5)).ownsRow w.heap.size 5 1 (.slice (some ⟨wr.heap.size, 0, none⟩) 0 S) 0 [] := fun X hX => ⟨rfl, .inr ⟨_, _, _, rfl, HB.out.size, heap_alloc_new _ _, by omega, by unfold maxLen; omega, by omega, rfl⟩⟩
        have HOB := Lib.hid hob
        clear hob
        go_wp2_with fail
        go_loopw [6, 29] (fun v i wq => ∃ k : Nat, k ≤ n ∧ i = .int .i64 k ∧ v = .slice (some ⟨wr.heap.size, 0, none⟩) (compBytes (cs.take k)).length S ∧ wq.ownsRow w.heap.size 5 1 v (compBytes (cs.take k)).length (bv (compBytes (cs.take k))) ∧ Below w.heap.size w wq) (fun _ i _ => n - (intOf i).toNat)
        case atStart => exact ⟨0, by omega, rfl, rfl, HOB.out _ (by rw [size_madeCells]), HB.out.alloc HB.out.size _⟩
        case round =>
          obtain ⟨k, hk, rfl, rfl, hown, hb⟩ := hrel
          have HO := Lib.hid hown
          have HB := Lib.hid hb
          clear hb hown
          by_cases hlt : k < n
          · have hlt' : k < cs.length := by rw [HL.out]; exact hlt
            have hm := HM.out.below HB.out
            have c0 := hm.cell (k * 3 + 0) _ (compCells_get cs k hlt' 0 (by decide))
            have c1 := hm.cell (k * 3 + 1) _ (compCells_get cs k hlt' 1 (by decide))
            have c2 := hm.cell (k * 3 + 2) _ (compCells_get cs k hlt' 2 (by decide))
            rw [Nat.add_zero] at c0
            have htk := compBytes_take cs k hlt'
            have hle := compBytes_take_le cs (k + 1)
            have hts : (compBytes (cs.take (k + 1))).length = (compBytes (cs.take k)).length + (cs[k]).1.bytes.length := by rw [htk, List.length_append]
            rw [hts, ← HS.out] at hle
            have hsz := size_toArray (cs[k]).1.bytes
            generalize hX : (cs[k]).1.bytes = X at *
            have HTK := Lib.hid htk
            have HTS := Lib.hid hts
            have HLE := Lib.hid hle
            have hbw : Below w.heap.size w (wr.alloc (.cells #[.string ⟨X.toArray⟩, .pointer (some ⟨(cs[k]).2, 0, none⟩), .int .i64 (vsOf (cs[k]).1.kd)] 81)) := HB.out.alloc HB.out.size _
            have HBW := Lib.hid hbw
            have HOO := Lib.hid (own_below HO.out ((Below.refl _ wr).alloc (Nat.le_refl _) (.cells #[.string ⟨X.toArray⟩, .pointer (some ⟨(cs[k]).2, 0, none⟩), .int .i64 (vsOf (cs[k]).1.kd)] 81)))
            clear hts htk hle hm hX hbw
            go_wp2_with (at_builtin; refine step_append_string rfl (.tmp 33) (.tmp 35) _ _ rfl w.heap.size 5 5 i0 Tryz.underlying22 Tryz.underlying9 hi0 hz1 _ _ _ _ rfl HOO.out _ rfl ?c1 ?c2 ?_)
            case c1 => omega
            case c2 => have := HLE.out; omega
            intro w' hown hgrow
            rw [strCells_bv, ← bv_append, ← HTK.out, ← HTS.out] at hown
            have HOF := Lib.hid hown
            have HBF := Lib.hid (HBW.out.grown hgrow HBW.out.size (fun g hg => (HOO.out.lt g hg).1))
            have hts' := HTS.out
            rw [← hts']
            clear hown hgrow hts'
            go_wp2_with fail
            go_roundw
            case rel => exact ⟨k + 1, by omega, by go_num, rfl, HOF.out, HBF.out⟩
            case measure => simp [intOf]; omega
          · obtain rfl : k = n := by omega
            have htk : cs.take k = cs := by rw [← HL.out]; exact List.take_length
            rw [htk] at HO ⊢
            clear htk
            go_wp2_with fail
            go_ret
            exact OutB.of_own HO.out HB.out
end Go.Proofs.YtghddiboggdhcaaGreatDoor
/- impl.AddrSplit at the bytes of an address. -/
namespace Go.Proofs.YtghddiboggdhcaaGreatDoor
open Go.RowKit
variable {K : Nat}
attribute [local go_sem ↓] Go.wp_at_zero Go.wp_at_succ
def OutBBT (t u : List UInt8) (w : World) (e : Ending) (w' : World) : Prop :=
  ∃ A c B d, e = .returned (.tuple #[.slice A t.length c, .slice B u.length d, .bool true]) ∧ RB w' w'.heap.size A t.length c t ∧ RB w' w'.heap.size B u.length d u ∧ Below w.heap.size w w'
theorem conv_id (w : World) (L : List UInt8) (h : L.length ≤ 1000000) : ∃ c w', (convert 47 22 (.string ⟨L.toArray⟩)).run Tryz.prog w = .ok (.slice (some ⟨w.heap.size, 0, none⟩) L.length c) w' ∧
    RB w' w'.heap.size (some ⟨w.heap.size, 0, none⟩) L.length c L ∧ Below w.heap.size w w' ∧ w.heap.size < w'.heap.size := by
  refine ⟨_, _, ?_, RB.of_bytesWorld w 5 L (by unfold maxLen; omega), below_bytesWorld _ _ _, by rw [Lib.bytesWorld_size]; omega⟩
  have := Lib.run_convert_string_bytes (P := Tryz.prog) w 47 22 5 ⟨L.toArray⟩ Tryz.underlying47 Tryz.underlying22 Tryz.underlying5
  simpa [ByteArray.size] using this
theorem idOf_le (l : List UInt8) : (idOf l).length ≤ 44 := by
  obtain ⟨x, y, v, d, hid, _, _, hd, _⟩ := id_form l
  rw [hid]
  simp
  omega
theorem isplit_id (A : Option Addr) (n c : Nat) (hs : List Hop) (h : Hop) (w : World) (ht : Tab K w) (hok : ∀ x ∈ hs ++ [h], HopOk K x.kd x.l) (hr : RB w w.heap.size A n c (addrBytes (hs ++ [h]))) (hn : hs.length ≤ 99) (hk : h.kd % 8 = 6) :
    Calls Tryz.prog 5 #[.slice A n c] w (OutBBT (addrBytes hs) (idOf h.l) w) := by
  have q : ∀ (w : World) (a : Option Addr) (n c n' c' : Nat), (binOp .neq 44 (.slice a n c) (.slice none n' c')).run Tryz.prog w = .ok (.bool (!a.isNone)) w := fun w a n c n' c' => run_neq_slice_nil_any w _ _ a n c n' c' Tryz.underlying44
  have HC := Lib.hid (addrof_impl A n c (hs ++ [h]) w ht hok hr (by simp; omega) (by simp))
  have HK := Lib.hid hk
  clear ht hok hr hk
  go_enter Tryz.func5, Tryz.ntmps5
  go_wp2_with fail
  refine HC.out.mono ?_
  rintro e w1 ⟨g, c1, cs1, rfl, hcs, hpr, hms, hb⟩
  have hl1 : cs1.length = hs.length + 1 := by have := congrArg List.length hcs; simpa using this
  obtain ⟨cs, x, rfl⟩ : ∃ cs x, cs1 = cs ++ [x] := ⟨cs1.dropLast, cs1.getLast (by intro e; simp [e] at hl1), (List.dropLast_concat_getLast _).symm⟩
  rw [List.map_append, List.map_cons, List.map_nil] at hcs
  obtain ⟨hcs, hx⟩ := List.append_inj' hcs rfl
  have hx : x.1 = h := by simpa using hx
  have hl : cs.length = hs.length := by rw [← hcs, List.length_map]
  rw [List.length_append, List.length_singleton] at hms ⊢
  have HP := Lib.hid (splitaddr_id g c1 cs x w1 (by omega) (by rw [hx]; exact HK.out) hpr hms)
  have HB := Lib.hid hb
  have HCS := Lib.hid hcs
  have HX := Lib.hid hx
  have HL := Lib.hid hl
  have hidl := idOf_le h.l
  clear hpr hms hcs hx hb hl1 hl
  go_wp2_with fail
  refine HP.out.mono ?_
  rintro e w2 ⟨T, rfl, hT, hb2⟩
  rw [HX.out]
  have HB2 := Lib.hid (HB.out.trans (hb2.mono HB.out.size))
  obtain ⟨L, hL⟩ : ∃ L, L = idOf h.l := ⟨_, rfl⟩
  rw [← hL] at hidl ⊢
  have HLq := Lib.hid hL
  clear hb2 hL
  rcases hT with ⟨rfl, rfl⟩ | ⟨hpos, b, rfl, hm2⟩
  · have h0 : hs = [] := by rw [← HCS.out]; rfl
    subst h0
    obtain ⟨c5, w5, hcv, hr5, hb5, _⟩ := conv_id w2 L (by omega)
    have HR5 := Lib.hid hr5
    have HB5 := Lib.hid (HB2.out.trans (hb5.mono HB2.out.size))
    clear hr5 hb5
    go_wp2_with fail
    go_ret3
    obtain rfl := HLq.out
    exact ⟨none, 0, _, c5, rfl, RB.nil_ _ _, HR5.out, HB5.out⟩
  · have hcl : cs.length ≤ 1000 := by rw [HL.out]; omega
    have HBY := Lib.hid (bytes_any b cs.length cs.length cs w2 hm2 hcl)
    have hcb : compBytes cs = addrBytes hs := by unfold compBytes; rw [HCS.out]
    rw [hcb] at HBY
    have hab := addrBytes_le hs
    obtain ⟨M, hM⟩ : ∃ M, M = addrBytes hs := ⟨_, rfl⟩
    rw [← hM] at HBY hab ⊢
    have HMq := Lib.hid hM
    clear hm2 hcb hM
    go_wp2_with fail
    refine HBY.out.mono ?_
    rintro e w3 ⟨A3, c3, rfl, hr3, hb3⟩
    have HC3 := Lib.hid (clone_any A3 _ c3 M w3 hr3 (by omega))
    have HB3 := Lib.hid (HB2.out.trans (hb3.mono HB2.out.size))
    clear hr3 hb3
    go_wp2_with fail
    refine HC3.out.mono ?_
    rintro e w4 ⟨A4, c4, rfl, hr4, hb4⟩
    obtain ⟨c5, w5, hcv, hr5, hb5, _⟩ := conv_id w4 L (by omega)
    have HR5 := Lib.hid hr5
    have HR4 := Lib.hid (hr4.next hb5)
    have HB5 := Lib.hid ((HB3.out.trans (hb4.mono HB3.out.size)).trans (hb5.mono (Nat.le_trans HB3.out.size hb4.size)))
    clear hr5 hb5 hr4 hb4
    go_wp2_with fail
    go_ret3
    obtain rfl := HLq.out
    obtain rfl := HMq.out
    exact ⟨A4, c4, _, c5, rfl, HR4.out, HR5.out, HB5.out⟩
end Go.Proofs.YtghddiboggdhcaaGreatDoor
/- The guards of the laws: the sizes, and the short addresses. -/
namespace Go.Proofs.YtghddiboggdhcaaGreatDoor
open Go.RowKit
attribute [local go_sem ↓] Go.wp_at_zero Go.wp_at_succ
end Go.Proofs.YtghddiboggdhcaaGreatDoor
/- laws.addrAwake. -/
namespace Go.Proofs.YtghddiboggdhcaaGreatDoor
open Go.RowKit
variable {K : Nat}
attribute [local go_sem ↓] Go.wp_at_zero Go.wp_at_succ
def awakeHops (g : Nat) : List Hop := [⟨0, some ⟨g, 0, none⟩, 4, 4, [10, 0, 0, 1]⟩, ⟨1, some ⟨g + 1, 0, none⟩, 2, 2, [0, 80]⟩]
def awakeLast (g : Nat) : Hop := ⟨6, some ⟨g + 1 + 1, 0, none⟩, 1, 1, [107]⟩
def awakeCells (g : Nat) : Array Value := #[.int .u8 0, .slice (some ⟨g, 0, none⟩) 4 4, .int .u8 1, .slice (some ⟨g + 1, 0, none⟩) 2 2, .int .u8 6, .slice (some ⟨g + 1 + 1, 0, none⟩) 1 1]
theorem awake_bytes (g : Nat) : addrBytes (awakeHops g) = [4, 10, 0, 0, 1, 6, 0, 80] := by rfl
theorem awake_id (g : Nat) : idOf (awakeLast g).l = [0, 1, 107] := by rfl
theorem RB.of_fr {w : World} {g : Nat} {t : TypeId} {fr : Nat × Nat} {vc : List UInt8} (h : w.heap[g]? = some (.cells (bv vc).toArray t fr)) (hm : vc.length ≤ maxLen) : RB w w.heap.size (some ⟨g, 0, none⟩) vc.length vc.length vc := by
  have hlt : g < w.heap.size := by
    rcases Nat.lt_or_ge g w.heap.size with h' | h'
    · exact h'
    · rw [Array.getElem?_eq_none h'] at h; cases h
  refine ⟨⟨by simp [bv], fun _ => ⟨_, rfl, hlt, fun j u hu => ?_⟩⟩, Nat.le_refl _, hm⟩
  have hadd : (⟨g, 0, none⟩ : Addr).add j = ⟨g, j, none⟩ := by unfold Addr.add; split <;> simp_all
  rw [hadd, cell_of_row w g j _ t fr h]
  simpa using hu
theorem alloc_at {w : World} {g : Nat} (h : w.heap.size = g) (o : Obj) : (w.alloc o).heap[g]? = some o := by subst h; exact heap_alloc_new _ _
theorem awake_hs {W : World} {g : Nat} (b0 : Blk W g 5 (bv [10, 0, 0, 1]).toArray) (b1 : Blk W (g + 1) 5 (bv [0, 80]).toArray) (b2 : W.heap[g + 1 + 1]? = some (.cells (bv [107]).toArray 5 (1, 2))) (b3 : Blk W (g + 1 + 1 + 1) 39 (awakeCells g)) :
    HS W W.heap.size (some ⟨g + 1 + 1 + 1, 0, none⟩) 3 3 (awakeHops g ++ [awakeLast g]) := by
  refine ⟨rfl, by decide, by decide, fun i hi => ⟨_, rfl, b3.lt, ?_⟩⟩
  have hi3 : i = 0 ∨ i = 1 ∨ i = 2 := by simp [awakeHops, awakeLast] at hi; omega
  rcases hi3 with rfl | rfl | rfl
  · exact ⟨b3.cell 0, b3.cell 1, RB.of_blk b0 (by decide)⟩
  · exact ⟨b3.cell 2, b3.cell 3, RB.of_blk b1 (by decide)⟩
  · exact ⟨b3.cell 4, b3.cell 5, RB.of_fr b2 (by decide)⟩
theorem awake_ok (g : Nat) (hK : 100 ≤ K) : ∀ x ∈ awakeHops g ++ [awakeLast g], HopOk K x.kd x.l := by
  intro x hx
  simp only [awakeHops, awakeLast, List.cons_append, List.nil_append, List.mem_cons, List.not_mem_nil, or_false] at hx
  rcases hx with rfl | rfl | rfl
  · refine Or.inr ⟨fun _ b hb => Nat.lt_of_lt_of_le ?_ hK, fun h => by simp at h, by simp⟩
    have hb2 : b ∈ ([10, 0, 0, 1] : List UInt8) := hb
    simp at hb2
    rcases hb2 with rfl | rfl | rfl <;> decide
  · exact Or.inr ⟨fun h => by simp at h, fun _ => Nat.lt_of_lt_of_le (by decide : Lib.beNat (filled [0, 80] 2) < 100) hK, by simp⟩
  · exact HopOk.id rfl
theorem awake (w : World) (hK : 100 ≤ K) (ht : Tab K w) : Calls Tryz.prog 4 #[] w fun e w' => e = .returned (.bool true) ∧ Below w.heap.size w w' := by
  have HT := Lib.hid ht
  have HOK := Lib.hid (awake_ok (K := K) w.heap.size hK)
  have hcv : (convert 22 22 (.slice (some ⟨w.heap.size + 1 + 1, 0, none⟩) 1 1)).run Tryz.prog (((w.alloc (.cells #[.int .u8 10, .int .u8 0, .int .u8 0, .int .u8 1] 5)).alloc (.cells #[.int .u8 0, .int .u8 80] 5)).alloc (.cells #[.int .u8 107] 5)) = .ok (.slice (some ⟨w.heap.size + 1 + 1, 0, none⟩) 1 1) (((w.alloc (.cells #[.int .u8 10, .int .u8 0, .int .u8 0, .int .u8 1] 5)).alloc (.cells #[.int .u8 0, .int .u8 80] 5)).alloc (.cells #[.int .u8 107] 5 (1, 2))) := by
    have e : ((w.alloc (.cells #[.int .u8 10, .int .u8 0, .int .u8 0, .int .u8 1] 5)).alloc (.cells #[.int .u8 0, .int .u8 80] 5)).heap.size = w.heap.size + 1 + 1 := by simp
    have := Lib.run_convert_bytes_const (P := Tryz.prog) ((w.alloc (.cells #[.int .u8 10, .int .u8 0, .int .u8 0, .int .u8 1] 5)).alloc (.cells #[.int .u8 0, .int .u8 80] 5)) 22 5 #[.int .u8 107] 1 1 Tryz.underlying22 Tryz.underlying5
    rw [e] at this
    exact this
  clear ht hK
  go_enter Tryz.func4, Tryz.ntmps4
  go_wp2_with fail
  obtain ⟨W, hW⟩ : ∃ W, W = (((w.alloc (.cells (bv [10, 0, 0, 1]).toArray 5)).alloc (.cells (bv [0, 80]).toArray 5)).alloc (.cells (bv [107]).toArray 5 (1, 2))).alloc (.cells (awakeCells w.heap.size) 39) := ⟨_, rfl⟩
  have hbW : Below w.heap.size w W := by rw [hW]; exact ((((Below.refl _ w).alloc (Nat.le_refl _) _).alloc (by simp) _).alloc (by simp; omega) _).alloc (by simp; omega) _
  have hHS : HS W W.heap.size (some ⟨w.heap.size + 1 + 1 + 1, 0, none⟩) 3 3 (awakeHops w.heap.size ++ [awakeLast w.heap.size]) := by
    rw [hW]
    exact awake_hs ((((Blk.new w _ _).alloc _).alloc _).alloc _) (((Blk.new_ (by simp) _ _).alloc _).alloc _) ((Below.heap_alloc _ _ _ (by simp)).trans (alloc_at (by simp) _)) (Blk.new_ (by simp) _ _)
  have HBW := Lib.hid hbW
  have HA := Lib.hid (addrof_any _ 3 3 _ W hHS (by decide) (fun i hi => by
    have hi3 : i = 0 ∨ i = 1 ∨ i = 2 := by simp [awakeHops, awakeLast] at hi; omega
    rcases hi3 with rfl | rfl | rfl <;> simp [awakeHops, awakeLast]))
  change Calls _ _ _ ((((w.alloc (.cells (bv [10, 0, 0, 1]).toArray 5)).alloc (.cells (bv [0, 80]).toArray 5)).alloc (.cells (bv [107]).toArray 5 (1, 2))).alloc (.cells (awakeCells w.heap.size) 39)) _
  rw [← hW]
  clear hW hbW hHS
  refine HA.out.mono ?_
  rintro e w1 ⟨v, rfl, ho, hb1⟩
  obtain ⟨A1, c1, rfl⟩ := own_slice ho
  have hr1 := RB.of_own ho
  have hb1' := HBW.out.trans (hb1.mono HBW.out.size)
  have HS1 := Lib.hid (isplit_id A1 _ c1 (awakeHops w.heap.size) (awakeLast w.heap.size) w1 (HT.out.below hb1') HOK.out hr1 (by simp [awakeHops]) rfl)
  rw [awake_bytes, awake_id] at HS1
  have HB1 := Lib.hid hb1'
  clear ho hr1 hb1 hb1'
  go_wp2_with fail
  refine HS1.out.mono ?_
  rintro e w2 ⟨A2, c2, A3, c3, rfl, hr2, hr3, hb2⟩
  have HB2 := Lib.hid (HB1.out.trans (hb2.mono HB1.out.size))
  have HR2 := Lib.hid hr2
  have HR3 := Lib.hid hr3
  clear hr2 hr3 hb2
  have hn := RB.of_blk (Blk.new w2 5 (bv [4, 10, 0, 0, 1, 6, 0, 80]).toArray) (by decide)
  have HE1 := Lib.hid (equal_any A2 _ _ c2 _ _ _ _ _ (HR2.out.alloc (.cells (bv [4, 10, 0, 0, 1, 6, 0, 80]).toArray 5)) hn)
  have HBX := Lib.hid (HB2.out.alloc HB2.out.size (.cells (bv [4, 10, 0, 0, 1, 6, 0, 80]).toArray 5))
  clear hn
  go_wp2_with fail
  refine HE1.out.mono ?_
  rintro e w3 ⟨rfl, rfl⟩
  have hr3 := HR3.out.alloc (.cells (bv [4, 10, 0, 0, 1, 6, 0, 80]).toArray 5)
  obtain ⟨w3, hw3⟩ : ∃ w3, w3 = w2.alloc (.cells (bv [4, 10, 0, 0, 1, 6, 0, 80]).toArray 5) := ⟨_, rfl⟩
  rw [← hw3] at hr3 HBX ⊢
  have HE2 := Lib.hid (equal_any A3 _ _ c3 _ _ _ _ _ (hr3.alloc (.cells (bv [0, 1, 107]).toArray 5)) (RB.of_blk (Blk.new w3 5 (bv [0, 1, 107]).toArray) (by decide)))
  have HBY := Lib.hid (HBX.out.alloc HBX.out.size (.cells (bv [0, 1, 107]).toArray 5))
  clear hw3 hr3 HE1
  go_wp2_with fail
  refine HE2.out.mono ?_
  rintro e w4 ⟨rfl, rfl⟩
  go_wp2_with fail
  go_ret
  exact ⟨rfl, HBY.out⟩
end Go.Proofs.YtghddiboggdhcaaGreatDoor
