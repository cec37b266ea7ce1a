/- SHA-256 as the reference has it: a block. -/
import Derived.Test.YtghddiboggdhcaaGreatDoorXg
set_option maxRecDepth 100000
set_option maxHeartbeats 2000000
namespace Go.Proofs.YtghddiboggdhcaaGreatDoor
open Go.RowKit
attribute [local go_sem] held_drew held_drewN held_same
theorem len8 {h : List Int} (hh : h.length = 8) : h = [h.getD 0 0, h.getD 1 0, h.getD 2 0, h.getD 3 0, h.getD 4 0, h.getD 5 0, h.getD 6 0, h.getD 7 0] := by
  match h, hh with
  | [_, _, _, _, _, _, _, _], _ => rfl
theorem c32_8 {h : List Int} (hh : h.length = 8) : c32 h = #[.int .u32 (h.getD 0 0), .int .u32 (h.getD 1 0), .int .u32 (h.getD 2 0), .int .u32 (h.getD 3 0), .int .u32 (h.getD 4 0), .int .u32 (h.getD 5 0), .int .u32 (h.getD 6 0), .int .u32 (h.getD 7 0)] := by
  match h, hh with
  | [_, _, _, _, _, _, _, _], _ => rfl
theorem set8 {h : List Int} (hh : h.length = 8) (a b c d e f g i : Int) : (((((((h.set 0 a).set 1 b).set 2 c).set 3 d).set 4 e).set 5 f).set 6 g).set 7 i = [a, b, c, d, e, f, g, i] := by
  match h, hh with
  | [_, _, _, _, _, _, _, _], _ => rfl
def vone (K W v4 v5 v6 v7 : Int) : Int :=
  v7 + bits BinOp.xor IntKind.u32 (bits BinOp.xor IntKind.u32 (tn v4 6) (tn v4 11)) (tn v4 25) + bits BinOp.xor IntKind.u32 (bits BinOp.and IntKind.u32 v4 v5) (bits BinOp.and IntKind.u32 (bits BinOp.xor IntKind.u32 IntKind.u32.max v4) v6) + K + W
def vtwo (v0 v1 v2 : Int) : Int :=
  bits BinOp.xor IntKind.u32 (bits BinOp.xor IntKind.u32 (tn v0 2) (tn v0 13)) (tn v0 22) + bits BinOp.xor IntKind.u32 (bits BinOp.xor IntKind.u32 (bits BinOp.and IntKind.u32 v0 v1) (bits BinOp.and IntKind.u32 v0 v2)) (bits BinOp.and IntKind.u32 v1 v2)
def vstep (K W : Int) (v : List Int) : List Int :=
  [(vone K W (v.getD 4 0) (v.getD 5 0) (v.getD 6 0) (v.getD 7 0) + vtwo (v.getD 0 0) (v.getD 1 0) (v.getD 2 0)) % 4294967296, v.getD 0 0, v.getD 1 0, v.getD 2 0,
   (v.getD 3 0 + vone K W (v.getD 4 0) (v.getD 5 0) (v.getD 6 0) (v.getD 7 0)) % 4294967296, v.getD 4 0, v.getD 5 0, v.getD 6 0]
def V3 (l : List UInt8) (h : List Int) : Nat → List Int
  | 0 => h
  | k + 1 => vstep (keysL.getD k 0) ((W2 l 48).getD k 0) (V3 l h k)
theorem V3_length (l : List UInt8) {h : List Int} (hh : h.length = 8) : ∀ k, (V3 l h k).length = 8
  | 0 => hh
  | _ + 1 => rfl
def H4 (v h : List Int) : Nat → List Int
  | 0 => h
  | k + 1 => (H4 v h k).set k (((H4 v h k).getD k 0 + v.getD k 0) % 4294967296)
theorem H4_length (v h : List Int) : ∀ k, (H4 v h k).length = h.length
  | 0 => rfl
  | k + 1 => by simp [H4, H4_length v h k]
def blk (l : List UInt8) (h : List Int) : List Int := H4 (V3 l h 64) h 8
theorem keysL_length : keysL.length = 64 := by decide
theorem block_any (hs : List Int) (a : Addr) (n c : Nat) (l : List UInt8) (w : World) (hh : hs.length = 8) (hb : RB w w.heap.size (some a) n c l) (hn : n = 64) :
    Calls Tryz.prog 60 #[.agg (c32 hs), .slice (some a) n c] w fun e w' => e = .returned (.agg (c32 (blk l hs))) ∧ Below w.heap.size w w' := by
  have HB := Lib.hid hb
  subst hn
  have HH := Lib.hid hh
  clear hb hh
  go_enter Tryz.func60, Tryz.ntmps60
  go_wp2_with fail
  go_loopw [6] (fun i wr => ∃ k : Nat, k ≤ 16 ∧ i = .int .i64 k ∧ Below w.heap.size w wr ∧ Blk wr (w.heap.size + 1 + 1) 132 (c32 (W1 l k)) ∧ Blk wr (w.heap.size + 1) 122 (c32 [0, 0, 0, 0, 0, 0, 0, 0]) ∧ Blk wr w.heap.size 122 (c32 hs)) (fun i _ => 16 - (intOf i).toNat)
  case atStart =>
    exact ⟨0, by omega, rfl, by go_grown, Blk.new_ (by simp) _ _, (Blk.new_ (by simp) _ _).alloc _, ((Blk.new_ rfl _ _).alloc _).alloc _⟩
  case round =>
    obtain ⟨k, hk, rfl, hb, hW, hR, hP⟩ := hrel
    have HB2 := Lib.hid hb
    have HW := Lib.hid hW
    have HR := Lib.hid hR
    have HP := Lib.hid hP
    have hrd := HB.out.below hb
    clear hb hW hR hP
    by_cases hlt : k < 16
    · /-FAST-/
      have e0 := hrd.byte (4 * k) (by omega) (4 * (k : Int)) (by omega)
      have e1 := hrd.byte (4 * k + 1) (by omega) (4 * (k : Int) + 1) (by omega)
      have e2 := hrd.byte (4 * k + 2) (by omega) (4 * (k : Int) + 2) (by omega)
      have e3 := hrd.byte (4 * k + 3) (by omega) (4 * (k : Int) + 3) (by omega)
      clear hrd
      have q0 : IntKind.i64.wrap (4 * (k : Int)) = 4 * (k : Int) := IntWalk.i64_in _ (by omega)
      have q1 : IntKind.i64.wrap (4 * (k : Int) + 1) = 4 * (k : Int) + 1 := IntWalk.i64_in _ (by omega)
      have q2 : IntKind.i64.wrap (4 * (k : Int) + 2) = 4 * (k : Int) + 2 := IntWalk.i64_in _ (by omega)
      have q3 : IntKind.i64.wrap (4 * (k : Int) + 3) = 4 * (k : Int) + 3 := IntWalk.i64_in _ (by omega)
      have r0 : 0 ≤ 4 * (k : Int) ∧ 4 * (k : Int) < 64 := by omega
      have r1 : 0 ≤ 4 * (k : Int) + 1 ∧ 4 * (k : Int) + 1 < 64 := by omega
      have r2 : 0 ≤ 4 * (k : Int) + 2 ∧ 4 * (k : Int) + 2 < 64 := by omega
      have r3 : 0 ≤ 4 * (k : Int) + 3 ∧ 4 * (k : Int) + 3 < 64 := by omega
      have r4 : 0 ≤ (k : Int) ∧ (k : Int) < 64 := by omega
      have x0 : wr.cell? ⟨w.heap.size + 1 + 1, k, none⟩ = some (.int .u32 ((W1 l k).getD k 0)) := (HW.out.cell k).trans (c32_get _ _ (by rw [W1_length]; omega))
      have x1 : wr.frozen? ⟨w.heap.size + 1 + 1, k, none⟩ = false := HW.out.frozen k
      go_wp2_with fail
      go_still_tail 35, (by kernel_rfl)
      change wpList _ _ _ _ _ wr.drew
      go_wp2_with fail
      go_roundw
      case rel =>
        refine ⟨k + 1, by omega, by go_num, (HB2.out.setCell (by simp; omega) _).drew, ?_, (HR.out.far (by simp) _).drew, (HP.out.far (by simp; omega) _).drew⟩
        have := HW.out.set_ k (.int .u32 (word l k))
        rw [c32_set] at this
        exact this.drew
      case measure => simp [intOf]; omega /-END-/
    · obtain rfl : k = 16 := by omega
      clear hrd
      rw [show (((16 : Nat) : Int)) = 16 from rfl]
      go_wp2_with fail
      go_loopw [7] (fun i wr => ∃ k : Nat, 16 ≤ k ∧ k ≤ 64 ∧ i = .int .i64 k ∧ Below w.heap.size w wr ∧ Blk wr (w.heap.size + 1 + 1) 132 (c32 (W2 l (k - 16))) ∧ Blk wr (w.heap.size + 1) 122 (c32 [0, 0, 0, 0, 0, 0, 0, 0]) ∧ Blk wr w.heap.size 122 (c32 hs)) (fun i _ => 64 - (intOf i).toNat)
      case atStart => exact ⟨16, by omega, by omega, rfl, HB2.out, HW.out, HR.out, HP.out⟩
      case round =>
        obtain ⟨k, hk16, hk, rfl, hb, hW, hR, hP⟩ := hrel
        clear HB2 HW HR HP
        have HB2 := Lib.hid hb
        have HW := Lib.hid hW
        have HR := Lib.hid hR
        have HP := Lib.hid hP
        clear hb hW hR hP
        by_cases hlt : k < 64
        · /-FAST-/
          have g : ∀ z : Int, 0 ≤ z → z < 64 → wr.cell? ⟨w.heap.size + 1 + 1, z.toNat, none⟩ = some (.int .u32 ((W2 l (k - 16)).getD z.toNat 0)) := fun z h0 h1 => (HW.out.cell z.toNat).trans (c32_get _ _ (by rw [W2_length]; omega))
          obtain ⟨v1, hv1, f1⟩ : ∃ v, Hid (v = (W2 l (k - 16)).getD (k - 15) 0) ∧ wr.cell? ⟨w.heap.size + 1 + 1, ((k : Int) - 15).toNat, none⟩ = some (.int .u32 v) := ⟨_, rfl, by have := g ((k : Int) - 15) (by omega) (by omega); rwa [show ((k : Int) - 15).toNat = k - 15 by omega] at this ⊢⟩
          obtain ⟨v2, hv2, f2⟩ : ∃ v, Hid (v = (W2 l (k - 16)).getD (k - 2) 0) ∧ wr.cell? ⟨w.heap.size + 1 + 1, ((k : Int) - 2).toNat, none⟩ = some (.int .u32 v) := ⟨_, rfl, by have := g ((k : Int) - 2) (by omega) (by omega); rwa [show ((k : Int) - 2).toNat = k - 2 by omega] at this ⊢⟩
          obtain ⟨v3, hv3, f3⟩ : ∃ v, Hid (v = (W2 l (k - 16)).getD (k - 16) 0) ∧ wr.cell? ⟨w.heap.size + 1 + 1, ((k : Int) - 16).toNat, none⟩ = some (.int .u32 v) := ⟨_, rfl, by have := g ((k : Int) - 16) (by omega) (by omega); rwa [show ((k : Int) - 16).toNat = k - 16 by omega] at this ⊢⟩
          obtain ⟨v4, hv4, f4⟩ : ∃ v, Hid (v = (W2 l (k - 16)).getD (k - 7) 0) ∧ wr.cell? ⟨w.heap.size + 1 + 1, ((k : Int) - 7).toNat, none⟩ = some (.int .u32 v) := ⟨_, rfl, by have := g ((k : Int) - 7) (by omega) (by omega); rwa [show ((k : Int) - 7).toNat = k - 7 by omega] at this ⊢⟩
          have q1 : IntKind.i64.wrap ((k : Int) - 15) = (k : Int) - 15 := IntWalk.i64_in _ (by omega)
          have q2 : IntKind.i64.wrap ((k : Int) - 2) = (k : Int) - 2 := IntWalk.i64_in _ (by omega)
          have q3 : IntKind.i64.wrap ((k : Int) - 16) = (k : Int) - 16 := IntWalk.i64_in _ (by omega)
          have q4 : IntKind.i64.wrap ((k : Int) - 7) = (k : Int) - 7 := IntWalk.i64_in _ (by omega)
          have r1 : 0 ≤ (k : Int) - 15 ∧ (k : Int) - 15 < 64 := by omega
          have r2 : 0 ≤ (k : Int) - 2 ∧ (k : Int) - 2 < 64 := by omega
          have r3 : 0 ≤ (k : Int) - 16 ∧ (k : Int) - 16 < 64 := by omega
          have r4 : 0 ≤ (k : Int) - 7 ∧ (k : Int) - 7 < 64 := by omega
          have r5 : 0 ≤ (k : Int) ∧ (k : Int) < 64 := by omega
          have s1 : (15 : Int) ≤ k := by omega
          have s2 : (2 : Int) ≤ k := by omega
          have s3 : (16 : Int) ≤ k := by omega
          have s4 : (7 : Int) ≤ k := by omega
          have x0 : wr.cell? ⟨w.heap.size + 1 + 1, k, none⟩ = some (held wr ⟨w.heap.size + 1 + 1, k, none⟩) := held_there ((HW.out.cell k).trans (c32_get _ _ (by rw [W2_length]; omega)))
          have x1 : wr.frozen? ⟨w.heap.size + 1 + 1, k, none⟩ = false := HW.out.frozen k
          have n1 : ¬ k = ((k : Int) - 16).toNat := by omega
          have n2 : ¬ k = ((k : Int) - 7).toNat := by omega
          clear g
          go_wp2_with fail
          go_quiet (fail)
          go_wp2_with fail
          go_region_held3 (fun w' => w'.cell? ⟨w.heap.size + 1 + 1, ((k : Int) - 16).toNat, none⟩ = some (.int .u32 v3) ∧ w'.cell? ⟨w.heap.size + 1 + 1, ((k : Int) - 7).toNat, none⟩ = some (.int .u32 v4) ∧ w'.cell? ⟨w.heap.size + 1 + 1, k, none⟩ = some (held w' ⟨w.heap.size + 1 + 1, k, none⟩) ∧ w'.frozen? ⟨w.heap.size + 1 + 1, k, none⟩ = false) (refine ⟨?_, ?_, ?_, ?_⟩ <;> first | (go_simp; done) | go_keep)
            (first | (go_at_call 66; refine (turn_int _ _ _ (by omega) (by omega)).mono ?_; rintro e w' ⟨rfl, q, rfl⟩))
          go_wp2_with fail
          go_roundw
          case rel =>
            refine ⟨k + 1, by omega, by omega, by go_num, (below_drewN HB2.out _).setCell (by simp; omega) _, ?_, (HR.out.drewN _).far (by simp) _, (HP.out.drewN _).far (by simp; omega) _⟩
            have hst := fun N : Nat => (HW.out.drewN N).set_ k (.int .u32 (wmix v3 v4 v1 v2))
            simp only [c32_set] at hst
            have e : W2 l (k + 1 - 16) = (W2 l (k - 16)).set k (wmix v3 v4 v1 v2) := by
              rw [show k + 1 - 16 = (k - 16) + 1 by omega]
              show (W2 l (k - 16)).set (16 + (k - 16)) (wstep (W2 l (k - 16)) (16 + (k - 16))) = _
              rw [show 16 + (k - 16) = k by omega, wstep, ← hv1.out, ← hv2.out, ← hv3.out, ← hv4.out]
            rw [e]
            exact hst _
          case measure => simp [intOf]; omega /-END-/
        · obtain rfl : k = 64 := by omega
          rw [show (((64 : Nat) : Int)) = 64 from rfl]
          clear HB
          have sz64 : (Tryz.prog.info? 132).map (·.size) = some (c32 keysL).size := by rw [c32_size]; exact size_u32x64
          have sz8 : (Tryz.prog.info? 122).map (·.size) = some (c32 hs).size := by rw [c32_size, HH.out]; exact size_u32x8
          go_wp2_with (first
            | (go_at_call 67; refine (keys_any _).mono ?_; rintro e w' ⟨rfl, hk⟩; have HQ := HP.out.below hk HP.out.lt; have A0 := HQ.lt; have g8 : ∀ i, i < 8 → w'.cell? ⟨w.heap.size, i, none⟩ = some (.int .u32 (hs.getD i 0)) := (fun i hi => (HQ.cell i).trans (c32_get _ _ (by rw [HH.out]; exact hi))); have g0 := g8 0 (by decide); have g1 := g8 1 (by decide); have g2 := g8 2 (by decide); have g3 := g8 3 (by decide); have g4 := g8 4 (by decide); have g5 := g8 5 (by decide); have g6 := g8 6 (by decide); have g7 := g8 7 (by decide); clear g8)
            | (rw [run_storeCells_new w' 132 _ (c32 keysL) (by rw [c32_size]; rfl) (c32_one _)]))
          have HB3 := Lib.hid (HB2.out.trans (hk.mono HB2.out.size))
          have HW3 := Lib.hid (HW.out.below hk HW.out.lt)
          have HR3 := Lib.hid (HR.out.below hk HR.out.lt)
          have HP3 := Lib.hid HQ
          have AW := HW.out.lt
          have AK := hk.size
          clear hk HQ HW HR HP HB2
          go_loopw [12] (fun i wr => ∃ k : Nat, k ≤ 64 ∧ i = .int .i64 k ∧ Below w.heap.size w wr ∧ Blk wr (w'.heap.size + 1) 122 (c32 (V3 l hs k)) ∧ Blk wr w'.heap.size 132 (c32 keysL) ∧ Blk wr (w.heap.size + 1 + 1) 132 (c32 (W2 l 48)) ∧ Blk wr (w.heap.size + 1) 122 (c32 [0, 0, 0, 0, 0, 0, 0, 0]) ∧ Blk wr w.heap.size 122 (c32 hs)) (fun i _ => 64 - (intOf i).toNat)
          case atStart =>
            refine ⟨0, by omega, rfl, (HB3.out.alloc (by omega) _).alloc (by simp; omega) _, ?_, (Blk.new_ rfl _ _).alloc _, (HW3.out.alloc _).alloc _, (HR3.out.alloc _).alloc _, (HP3.out.alloc _).alloc _⟩
            show Blk _ _ _ (c32 hs)
            rw [c32_8 HH.out]
            exact Blk.new_ (by simp) _ _
          case round =>
            obtain ⟨k, hk, rfl, hb, hV, hK, hW, hR, hP⟩ := hrel
            clear HB3 HW3 HR3 HP3
            have HB2 := Lib.hid hb
            have HV := Lib.hid hV
            have HK := Lib.hid hK
            have HW := Lib.hid hW
            have HR := Lib.hid hR
            have HP := Lib.hid hP
            clear hb hV hK hW hR hP g0 g1 g2 g3 g4 g5 g6 g7
            by_cases hlt : k < 64
            · /-FAST-/
              have g : ∀ i, i < 8 → ∃ v, Hid (v = (V3 l hs k).getD i 0) ∧ wr.cell? ⟨w'.heap.size + 1, i, none⟩ = some (.int .u32 v) := fun i hi => ⟨_, rfl, (HV.out.cell i).trans (c32_get _ _ (by rw [V3_length l HH.out]; exact hi))⟩
              obtain ⟨v0, hv0, f0⟩ := g 0 (by decide)
              obtain ⟨v1, hv1, f1⟩ := g 1 (by decide)
              obtain ⟨v2, hv2, f2⟩ := g 2 (by decide)
              obtain ⟨v3, hv3, f3⟩ := g 3 (by decide)
              obtain ⟨v4, hv4, f4⟩ := g 4 (by decide)
              obtain ⟨v5, hv5, f5⟩ := g 5 (by decide)
              obtain ⟨v6, hv6, f6⟩ := g 6 (by decide)
              obtain ⟨v7, hv7, f7⟩ := g 7 (by decide)
              obtain ⟨x1, hx1, j1⟩ : ∃ v, Hid (v = keysL.getD k 0) ∧ wr.cell? ⟨w'.heap.size, k, none⟩ = some (.int .u32 v) := ⟨_, rfl, (HK.out.cell k).trans (c32_get _ _ (by rw [keysL_length]; omega))⟩
              obtain ⟨x2, hx2, j2⟩ : ∃ v, Hid (v = (W2 l 48).getD k 0) ∧ wr.cell? ⟨w.heap.size + 1 + 1, k, none⟩ = some (.int .u32 v) := ⟨_, rfl, (HW.out.cell k).trans (c32_get _ _ (by rw [W2_length]; omega))⟩
              have z := HV.out.frozen
              have z0 := z 0
              have z1 := z 1
              have z2 := z 2
              have z3 := z 3
              have z4 := z 4
              have z5 := z 5
              have z6 := z 6
              have z7 := z 7
              have r5 : 0 ≤ (k : Int) ∧ (k : Int) < 64 := by omega
              clear g z
              go_wp2_with fail
              go_quiet (fail)
              go_wp2_with fail
              go_quiet (first | (go_at_call 66; first | exact quiet_add (turn_int _ _ _ (by omega) (by omega)) | exact Calls.quiet_of (turn_int _ _ _ (by omega) (by omega))))
              go_wp2_with fail
              go_quiet (first | (go_at_call 66; first | exact quiet_add (turn_int _ _ _ (by omega) (by omega)) | exact Calls.quiet_of (turn_int _ _ _ (by omega) (by omega))))
              go_wp2_with fail
              go_roundw
              case rel =>
                refine ⟨k + 1, by omega, by go_num, ?_, ?_, ?_, ?_, ?_, ?_⟩
                · exact ((((((((below_drewN HB2.out _).setCell (by simp; omega) _).setCell (by simp; omega) _).setCell (by simp; omega) _).setCell (by simp; omega) _).setCell (by simp; omega) _).setCell (by simp; omega) _).setCell (by simp; omega) _).setCell (by simp; omega) _
                · have hst := fun N a0 a1 a2 a3 a4 a5 a6 a7 => ((((((((HV.out.drewN N).set_ 0 (.int .u32 a0)).set_ 1 (.int .u32 a1)).set_ 2 (.int .u32 a2)).set_ 3 (.int .u32 a3)).set_ 4 (.int .u32 a4)).set_ 5 (.int .u32 a5)).set_ 6 (.int .u32 a6)).set_ 7 (.int .u32 a7)
                  simp only [c32_set, set8 (V3_length l HH.out k)] at hst
                  have e : V3 l hs (k + 1) = [(vone x1 x2 v4 v5 v6 v7 + vtwo v0 v1 v2) % 4294967296, v0, v1, v2, (v3 + vone x1 x2 v4 v5 v6 v7) % 4294967296, v4, v5, v6] := by
                    show vstep _ _ _ = _
                    rw [vstep, ← hv0.out, ← hv1.out, ← hv2.out, ← hv3.out, ← hv4.out, ← hv5.out, ← hv6.out, ← hv7.out, ← hx1.out, ← hx2.out]
                  rw [e]
                  exact hst _ _ _ _ _ _ _ _ _
                · exact ((((((((HK.out.drewN _).far (by simp) _).far (by simp) _).far (by simp) _).far (by simp) _).far (by simp) _).far (by simp) _).far (by simp) _).far (by simp) _
                · exact ((((((((HW.out.drewN _).far (by simp; omega) _).far (by simp; omega) _).far (by simp; omega) _).far (by simp; omega) _).far (by simp; omega) _).far (by simp; omega) _).far (by simp; omega) _).far (by simp; omega) _
                · exact ((((((((HR.out.drewN _).far (by simp; omega) _).far (by simp; omega) _).far (by simp; omega) _).far (by simp; omega) _).far (by simp; omega) _).far (by simp; omega) _).far (by simp; omega) _).far (by simp; omega) _
                · exact ((((((((HP.out.drewN _).far (by simp; omega) _).far (by simp; omega) _).far (by simp; omega) _).far (by simp; omega) _).far (by simp; omega) _).far (by simp; omega) _).far (by simp; omega) _).far (by simp; omega) _
              case measure => simp [intOf]; omega /-END-/
            · obtain rfl : k = 64 := by omega
              rw [show (((64 : Nat) : Int)) = 64 from rfl]
              clear HK HW
              go_wp2_with fail
              go_loopw [17] (fun i wr => ∃ k : Nat, k ≤ 8 ∧ i = .int .i64 k ∧ Below w.heap.size w wr ∧ Blk wr (w'.heap.size + 1) 122 (c32 (V3 l hs 64)) ∧ Blk wr (w.heap.size + 1) 122 (c32 [0, 0, 0, 0, 0, 0, 0, 0]) ∧ Blk wr w.heap.size 122 (c32 (H4 (V3 l hs 64) hs k))) (fun i _ => 8 - (intOf i).toNat)
              case atStart => exact ⟨0, by omega, rfl, HB2.out, HV.out, HR.out, HP.out⟩
              case round =>
                obtain ⟨k, hk, rfl, hb, hV, hR, hP⟩ := hrel
                clear HB2 HV HR HP
                have HB2 := Lib.hid hb
                have HV := Lib.hid hV
                have HR := Lib.hid hR
                have HP := Lib.hid hP
                clear hb hV hR hP
                by_cases hlt : k < 8
                · obtain ⟨v0, hv0, f0⟩ : ∃ v, Hid (v = (V3 l hs 64).getD k 0) ∧ wr.cell? ⟨w'.heap.size + 1, k, none⟩ = some (.int .u32 v) := ⟨_, rfl, (HV.out.cell k).trans (c32_get _ _ (by rw [V3_length l HH.out]; omega))⟩
                  obtain ⟨v1, hv1, f1⟩ : ∃ v, Hid (v = (H4 (V3 l hs 64) hs k).getD k 0) ∧ wr.cell? ⟨w.heap.size, k, none⟩ = some (.int .u32 v) := ⟨_, rfl, (HP.out.cell k).trans (c32_get _ _ (by rw [H4_length, HH.out]; omega))⟩
                  have z0 := HP.out.frozen k
                  have r5 : 0 ≤ (k : Int) ∧ (k : Int) < 8 := by omega
                  go_wp2_with fail
                  go_still_tail 8, (by kernel_rfl)
                  change wpList _ _ _ _ _ wr.drew
                  go_wp2_with fail
                  go_roundw
                  case rel =>
                    refine ⟨k + 1, by omega, by go_num, HB2.out.drew.setCell (by simp) _, (HV.out.drew).far (by simp; omega) _, (HR.out.drew).far (by simp) _, ?_⟩
                    have hst := HP.out.drew.set_ k (.int .u32 ((v1 + v0) % 4294967296))
                    rw [c32_set] at hst
                    have e : H4 (V3 l hs 64) hs (k + 1) = (H4 (V3 l hs 64) hs k).set k ((v1 + v0) % 4294967296) := by
                      rw [hv0.out, hv1.out]; rfl
                    rw [e]
                    exact hst
                  case measure => simp [intOf]; omega
                · obtain rfl : k = 8 := by omega
                  rw [show (((8 : Nat) : Int)) = 8 from rfl]
                  clear HV
                  have g8 : ∀ i, i < 8 → wr.cell? ⟨w.heap.size, i, none⟩ = some (.int .u32 ((blk l hs).getD i 0)) := (fun i hi => (HP.out.cell i).trans (c32_get _ _ (by rw [H4_length, HH.out]; exact hi)))
                  have g0 := g8 0 (by decide)
                  have g1 := g8 1 (by decide)
                  have g2 := g8 2 (by decide)
                  have g3 := g8 3 (by decide)
                  have g4 := g8 4 (by decide)
                  have g5 := g8 5 (by decide)
                  have g6 := g8 6 (by decide)
                  have g7 := g8 7 (by decide)
                  have z := HR.out.frozen
                  have z0 := z 0
                  have z1 := z 1
                  have z2 := z 2
                  have z3 := z 3
                  have z4 := z 4
                  have z5 := z 5
                  have z6 := z 6
                  have z7 := z 7
                  have y := HR.out.cell
                  have y0 : wr.cell? ⟨w.heap.size + 1, 0, none⟩ = some (.int .u32 0) := y 0
                  have y1 : wr.cell? ⟨w.heap.size + 1, 1, none⟩ = some (.int .u32 0) := y 1
                  have y2 : wr.cell? ⟨w.heap.size + 1, 2, none⟩ = some (.int .u32 0) := y 2
                  have y3 : wr.cell? ⟨w.heap.size + 1, 3, none⟩ = some (.int .u32 0) := y 3
                  have y4 : wr.cell? ⟨w.heap.size + 1, 4, none⟩ = some (.int .u32 0) := y 4
                  have y5 : wr.cell? ⟨w.heap.size + 1, 5, none⟩ = some (.int .u32 0) := y 5
                  have y6 : wr.cell? ⟨w.heap.size + 1, 6, none⟩ = some (.int .u32 0) := y 6
                  have y7 : wr.cell? ⟨w.heap.size + 1, 7, none⟩ = some (.int .u32 0) := y 7
                  clear g8 z y
                  go_wp2_with fail
                  have hst := ((((((((HR.out.set_ 0 (.int .u32 ((blk l hs).getD 0 0))).set_ 1 (.int .u32 ((blk l hs).getD 1 0))).set_ 2 (.int .u32 ((blk l hs).getD 2 0))).set_ 3 (.int .u32 ((blk l hs).getD 3 0))).set_ 4 (.int .u32 ((blk l hs).getD 4 0))).set_ 5 (.int .u32 ((blk l hs).getD 5 0))).set_ 6 (.int .u32 ((blk l hs).getD 6 0))).set_ 7 (.int .u32 ((blk l hs).getD 7 0)))
                  have hl : (blk l hs).length = 8 := by rw [blk, H4_length, HH.out]
                  simp only [c32_set, set8 (h := [0, 0, 0, 0, 0, 0, 0, 0]) rfl] at hst
                  rw [← len8 hl] at hst
                  exact bodyPost_ret (results_cell_row rfl _ _ (w.heap.size + 1) 122 (c32 (blk l hs)) (0, 0) _ rfl hst Tryz.underlying122 rfl (by rw [c32_size, hl]; exact size_u32x8)) rfl
                    ⟨rfl, ((((((((HB2.out.setCell (by simp) _).setCell (by simp) _).setCell (by simp) _).setCell (by simp) _).setCell (by simp) _).setCell (by simp) _).setCell (by simp) _).setCell (by simp) _)⟩
end Go.Proofs.YtghddiboggdhcaaGreatDoor
