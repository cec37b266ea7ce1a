/- spec.ShaSum: what it returns. -/
import Derived.Test.YtghddiboggdhcaaGreatDoorXh
set_option maxRecDepth 100000
set_option maxHeartbeats 2000000
namespace Go.Proofs.YtghddiboggdhcaaGreatDoor
open Go.RowKit
attribute [local go_sem] held_drew held_drewN held_same
theorem World.size_alloc (w : World) (o : Obj) : (w.alloc o).heap.size = w.heap.size + 1 := by simp
theorem own_made_at (w : World) (g : Nat) (hg : w.heap.size = g) (e : TypeId) (size : Nat) {base : Nat} (hb : base ≤ g) : (w.alloc (.cells #[] e)).ownsRow base e size (.slice (some ⟨g, 0, none⟩) 0 0) 0 [] := by
  subst hg
  exact World.ownsRow_made w #[] 0 hb (Nat.zero_le _) (by simp)
def lenOf : Value → Nat | .slice _ m _ => m | _ => 0
def padN (n : Nat) : Nat := (119 - n % 64) % 64
def lenB (m : Nat) : Nat → List UInt8
  | 0 => []
  | j + 1 => lenB m j ++ [UInt8.ofNat (m * 8 / 2 ^ (8 * (7 - j)))]
def padded (l : List UInt8) : List UInt8 := l ++ [128] ++ List.replicate (padN l.length) 0 ++ lenB l.length 8
def shaInit : List Int := [1779033703, 3144134277, 1013904242, 2773480762, 1359893119, 2600822924, 528734635, 1541459225]
def shaW (all : List UInt8) : Nat → List Int
  | 0 => shaInit
  | k + 1 => blk ((all.drop (64 * k)).take 64) (shaW all k)
theorem blk_length (l : List UInt8) (h : List Int) : (blk l h).length = h.length := H4_length _ _ _
theorem shaW_length (all : List UInt8) : ∀ k, (shaW all k).length = 8
  | 0 => rfl
  | k + 1 => by rw [shaW, blk_length, shaW_length all k]
def shaOut (h : List Int) : Nat → List UInt8
  | 0 => List.replicate 32 0
  | k + 1 => (shaOut h k).set k (UInt8.ofNat (h.getD (k / 4) 0 / 2 ^ (24 - 8 * (k % 4)) % 256).toNat)
theorem shaOut_length (h : List Int) : ∀ k, (shaOut h k).length = 32
  | 0 => by simp [shaOut]
  | k + 1 => by simp [shaOut, shaOut_length h k]
theorem size_u8x32 : (Tryz.prog.info? 109).map (·.size) = some 32 := by kernel_rfl
theorem bv_set {l : List UInt8} {k : Nat} {b : UInt8} {x : Int} (hx : x = b.toNat) : (bv l).set k (.int .u8 x) = bv (l.set k b) := by
  subst hx
  simp [bv, List.map_set]
def shaSum (l : List UInt8) : List UInt8 := shaOut (shaW (padded l) ((padded l).length / 64)) 32
theorem sum_any (A : Option Addr) (n c : Nat) (l : List UInt8) (w : World) (hb : RB w w.heap.size A n c l) (hn : n ≤ 1000000) :
    Calls Tryz.prog 52 #[.slice A n c] w fun e w' => e = .returned (.agg (bv (shaSum l)).toArray) ∧ Below w.heap.size w w' := by
  obtain ⟨i0, hi0, hz0, hz1, hz2⟩ := info_parts u8_info
  have HB := Lib.hid hb
  have HL := Lib.hid hb.len
  clear hb
  go_enter Tryz.func52, Tryz.ntmps52
  go_wp2_with (at_builtin; go_loud (refine wpList_append_any _ rfl (.tmp 10) (.tmp 11) _ rfl (w.heap.size + 1) 5 i0 _ 1 1 Tryz.underlying22 hi0 hz0 hz1 hz2 rfl (by decide) _ _ _ rfl (own_made_at _ (w.heap.size + 1) (World.size_alloc _ _) _ _ (Nat.le_refl _)) w.heap.size A n c (bv l) rfl ((HB.out.reads.alloc (Nat.le_refl _) _).alloc (by rw [World.size_alloc]; omega) _) (bv_one l) ?c1 ?c2 ?c3 ?_))
  case c1 => unfold maxLen; omega
  case c2 => omega
  case c3 => simp
  intro v1 w1 hown hgrow _hat
  have hb1 : Below (w.heap.size + 1) (w.alloc (.cells (Array.replicate 32 (.int .u8 0)) 109)) w1 := ((Below.refl _ _).alloc (by simp) _).grown hgrow (by simp) (by intro k hk; simp [Value.ownBlock] at hk; omega)
  have HO := Lib.hid hown
  have HB1 := Lib.hid hb1
  have HR := Lib.hid ((Blk.new w 109 (Array.replicate 32 (.int .u8 0))).below hb1 (Nat.lt_succ_self _))
  clear hown hb1 hgrow _hat
  have hs1 := HB1.out.size
  rw [World.size_alloc] at hs1
  go_wp2_with (at_builtin; go_loud (refine wpList_append_any _ rfl (.tmp 13) (.tmp 14) _ rfl (w.heap.size + 1) 5 i0 _ 1 1 Tryz.underlying22 hi0 hz0 hz1 hz2 rfl (by decide) v1 _ (bv l) rfl (HO.out.alloc _) _ _ 1 1 [.int .u8 128] rfl (reads_new w1 #[.int .u8 128] 5 1 1 rfl) (by simp; rfl) ?c1 ?c2 ?c3 ?_))
  case c1 => unfold maxLen; omega
  case c2 => omega
  case c3 => rw [World.size_alloc]; omega
  intro v2 w2 hown hgrow _hat
  have HB2 := Lib.hid ((HB1.out.alloc hs1 _).grown hgrow (by rw [World.size_alloc]; omega) (fun k hk => (HO.out.lt k hk).1))
  have HO2 := Lib.hid (show w2.ownsRow (w.heap.size + 1) 5 1 v2 (n + 1) (bv (l ++ [128])) by rw [bv_append]; exact hown)
  clear hown hgrow _hat HB1 HO HR
  obtain ⟨A2, c2, rfl⟩ := own_slice HO2.out
  go_wp2_with fail
  go_loopw [3] (fun i wr => ∃ j A c, j ≤ padN n ∧ i = .slice A (n + 1 + j) c ∧ Below (w.heap.size + 1) (w.alloc (.cells (Array.replicate 32 (.int .u8 0)) 109)) wr ∧ wr.ownsRow (w.heap.size + 1) 5 1 (.slice A (n + 1 + j) c) (n + 1 + j) (bv (l ++ [128] ++ List.replicate j 0))) (fun i _ => 200 - (lenOf i - n))
  case atStart => exact ⟨0, A2, c2, Nat.zero_le _, rfl, HB2.out, by simpa using HO2.out⟩
  case round =>
    obtain ⟨j, A3, c3, hj, rfl, hb, ho⟩ := hrel
    clear HB2 HO2
    have HB2 := Lib.hid hb
    have HO2 := Lib.hid ho
    clear hb ho
    have hj2 : padN n = (119 - n % 64) % 64 := rfl
    have hs2 := HB2.out.size
    rw [World.size_alloc] at hs2
    by_cases hlt : (n + 1 + j) % 64 = 56
    · obtain rfl : j = padN n := by omega
      clear hs1 hs2 hj
      obtain ⟨p, hp⟩ : ∃ p, p = padN n := ⟨_, rfl⟩
      rw [← hp] at hlt hj2 HO2 ⊢
      have hp64 : p < 64 := by omega
      have HPN := Lib.hid hp
      clear hj2 hp
      have hz : ((n : Int) + 1 + p) % 64 = 56 := by omega
      go_wp2_with fail
      clear hz
      have q0 : ((n : Nat) : Int) * 8 % 18446744073709551616 = (n : Int) * 8 := by omega
      go_loopw [3, 5] (fun i k wr => ∃ (j : Nat) (A : Option Addr) (c : Nat), j ≤ 8 ∧ k = .int .i64 (7 - (j : Int)) ∧ i = .slice A (n + 1 + p + j) c ∧ Below (w.heap.size + 1) (w.alloc (.cells (Array.replicate 32 (.int .u8 0)) 109)) wr ∧ wr.ownsRow (w.heap.size + 1) 5 1 (.slice A (n + 1 + p + j) c) (n + 1 + p + j) (bv (l ++ [128] ++ List.replicate (p) 0 ++ lenB n j))) (fun _ k _ => 9 - (7 - intOf k).toNat)
      case atStart => exact ⟨0, A3, c3, Nat.zero_le _, rfl, rfl, HB2.out, by simpa [lenB] using HO2.out⟩
      case round =>
        obtain ⟨j, A4, c4, hj, rfl, rfl, hb, ho⟩ := hrel
        clear HB2 HO2
        have HB2 := Lib.hid hb
        have HO2 := Lib.hid ho
        clear hb ho
        have hs2 := HB2.out.size
        rw [World.size_alloc] at hs2
        by_cases hlt : j < 8
        · obtain ⟨k, hk⟩ : ∃ k : Nat, k = 7 - j := ⟨_, rfl⟩
          have e7 : (7 : Int) - j = k := by omega
          rw [e7]
          have q1 : IntKind.i64.wrap (8 * (k : Int)) = 8 * (k : Int) := IntWalk.i64_in _ (by omega)
          have q2 : 0 ≤ 8 * (k : Int) := by omega
          have q3 : 8 * (k : Int) ≤ 64 := by omega
          go_wp2_with (at_builtin; go_loud (refine wpList_append_any _ rfl (.tmp 31) (.tmp 37) _ rfl (w.heap.size + 1) 5 i0 _ 1 1 Tryz.underlying22 hi0 hz0 hz1 hz2 rfl (by decide) _ _ _ rfl (HO2.out.alloc _) _ _ 1 1 [.int .u8 _] rfl (reads_new wr #[.int .u8 _] 5 1 1 rfl) (by simp; rfl) ?c1 ?c2 ?c3 ?_))
          case c1 => unfold maxLen; omega
          case c2 => omega
          case c3 => rw [World.size_alloc]; omega
          intro v3 w3 hown hgrow _hat
          obtain ⟨A5, c5, rfl⟩ := own_slice hown
          go_wp2_with fail
          go_roundw
          case rel =>
            refine ⟨j + 1, A5, c5, by omega, by go_num, rfl, (HB2.out.alloc hs2 _).grown hgrow (by rw [World.size_alloc]; omega) (fun k hk => (HO2.out.lt k hk).1), ?_⟩
            have e : bv (l ++ [128] ++ List.replicate p 0 ++ lenB n (j + 1)) = bv (l ++ 128 :: (List.replicate p 0 ++ lenB n j)) ++ [Value.int .u8 ((n : Int) * 8 / 2 ^ (8 * (7 - j)) % 256)] := by
              simp [bv, lenB]
            rw [e]
            exact hown
          case measure => simp [intOf]; omega
        · obtain rfl : j = 8 := by omega
          obtain ⟨m, hm⟩ : ∃ m, m = n + 1 + p + 8 := ⟨_, rfl⟩
          have hm64 : m % 64 = 0 := by omega
          have hmx : m ≤ 1000200 := by omega
          have hm8 : 8 ≤ m := by omega
          obtain ⟨all, hall⟩ : ∃ all, all = padded l := ⟨_, rfl⟩
          have ha : l ++ [128] ++ List.replicate p 0 ++ lenB n 8 = all := by rw [hall, padded, HL.out, HPN.out]
          rw [ha, ← hm] at HO2
          rw [← hm]
          have HA := Lib.hid hall
          have HRB := Lib.hid (RB.of_own HO2.out)
          have hal : all.length = m := HRB.out.len
          have HR := Lib.hid ((Blk.new w 109 (Array.replicate 32 (.int .u8 0))).below HB2.out (Nat.lt_succ_self _))
          clear ha hm hall hlt HO2
          rw [show (7 : Int) - ((8 : Nat) : Int) = -1 from rfl]
          obtain ⟨a4, hA4, _⟩ := HRB.out.at_ (k := 0) (by omega) (by omega)
          subst hA4
          obtain ⟨g, hg⟩ : ∃ g, g = wr.heap.size := ⟨_, rfl⟩
          have hcap := HRB.out.cap
          go_wp2_with fail
          rw [← hg] at hs2 HRB ⊢
          go_loopw [7] (fun i wr => ∃ k : Nat, 64 * k ≤ m ∧ i = .int .i64 (64 * (k : Int)) ∧ Below (w.heap.size + 1) (w.alloc (.cells (Array.replicate 32 (.int .u8 0)) 109)) wr ∧ Blk wr g 122 (c32 (shaW all k)) ∧ RB wr g (some a4) m c4 all) (fun i _ => m + 1 - (intOf i).toNat)
          case atStart => exact ⟨0, by omega, rfl, HB2.out.alloc (by omega) _, Blk.new_ hg.symm _ _, HRB.out.below ((Below.refl g wr).alloc (by omega) _)⟩
          case round =>
            obtain ⟨k, hk, rfl, hb, hH, hrb⟩ := hrel
            clear HB2 HRB HR hg
            have HB2 := Lib.hid hb
            have HH := Lib.hid hH
            have HRB := Lib.hid hrb
            clear hb hH hrb
            by_cases hlt : 64 * k < m
            · have g8 : ∀ i, i < 8 → wr.cell? ⟨g, i, none⟩ = some (.int .u32 ((shaW all k).getD i 0)) := (fun i hi => (HH.out.cell i).trans (c32_get _ _ (by rw [shaW_length]; exact hi)))
              have g0 := g8 0 (by decide)
              have g1 := g8 1 (by decide)
              have g2 := g8 2 (by decide)
              have g3 := g8 3 (by decide)
              have g4 := g8 4 (by decide)
              have g5 := g8 5 (by decide)
              have g6 := g8 6 (by decide)
              have g7 := g8 7 (by decide)
              clear g8
              have q1 : IntKind.i64.wrap (64 * (k : Int)) = 64 * (k : Int) := IntWalk.i64_in _ (by omega)
              have q2 : IntKind.i64.wrap (64 * (k : Int) + 64) = 64 * (k : Int) + 64 := IntWalk.i64_in _ (by omega)
              have q3 : 0 ≤ 64 * (k : Int) := by omega
              have q4 : 64 * (k : Int) + 64 ≤ c4 := by omega
              have q5 : 64 * (k : Int) < m := by omega
              have q6 : 0 ≤ 64 * (k : Int) + 64 := by omega
              have q7 : 64 * (k : Int) ≤ max (64 * (k : Int) + 64) 0 := by omega
              have q8 : (64 * (k : Int)).toNat = 64 * k := by omega
              have q9 : (64 * (k : Int) + 64).toNat - 64 * k = 64 := by omega
              have q10 : ¬ c4 = 64 * k := by omega
              go_wp2_with fail
              go_still_tail 6, (by kernel_rfl)
              change wpList _ _ _ _ _ wr.drew
              have hrs := ((HRB.out.drop (k := 64 * k) (by omega)).take (k := 64) (by omega)).more (Nat.le_of_lt HH.out.lt)
              rw [if_neg q10] at hrs
              have hc := block_any (shaW all k) (a4.add (64 * k)) 64 (c4 - 64 * k) ((all.drop (64 * k)).take 64) wr.drew (shaW_length all k) ⟨hrs.reads, hrs.cap, hrs.max⟩ rfl
              rw [c32_8 (shaW_length all k)] at hc
              simp only [List.getD_eq_getElem?_getD] at hc
              have sz : (c32 (blk ((all.drop (64 * k)).take 64) (shaW all k))).size = 8 := by rw [c32_size, blk_length, shaW_length]
              have HC := Lib.hid hc
              clear hc hrs
              go_wp2_with (first
                | (go_at_call 60; go_loud (refine HC.out.mono ?_; rintro e w' ⟨rfl, hk2⟩; have HHn := HH.out.drew.below hk2 HH.out.lt))
                | (rw [run_storeCells_row _ g 122 (c32 (shaW all k)) (c32 (blk ((all.drop (64 * k)).take 64) (shaW all k))) HHn (by rw [c32_size, c32_size, blk_length]) (c32_one _)]))
              go_roundw
              case rel =>
                have hs3 := HB2.out.size
                rw [World.size_alloc] at hs3
                have hk3 : Below wr.heap.size wr w' := ⟨hk2.os, hk2.tape, hk2.output, hk2.size, hk2.block⟩
                refine ⟨k + 1, by omega, by go_num, below_setRow (HB2.out.trans (hk3.mono hs3)) hs2 _, HHn.row _, HRB.out.below (below_setRow (hk3.mono (Nat.le_of_lt HH.out.lt)) (Nat.le_refl _) _)⟩
              case measure => simp [intOf]; omega
            · obtain rfl : 64 * k = m := by omega
              clear HRB
              have hs3 := HB2.out.size
              rw [World.size_alloc] at hs3
              go_wp2_with fail
              obtain ⟨o, ho⟩ : ∃ o, o = wr.heap.size := ⟨_, rfl⟩
              rw [← ho]
              have hgo : g < o := by rw [ho]; exact HH.out.lt
              go_loopw [9] (fun i wr => ∃ j : Nat, j ≤ 32 ∧ i = .int .i64 (j : Int) ∧ Below (w.heap.size + 1) (w.alloc (.cells (Array.replicate 32 (.int .u8 0)) 109)) wr ∧ Blk wr g 122 (c32 (shaW all k)) ∧ Blk wr o 109 (bv (shaOut (shaW all k) j)).toArray) (fun i _ => 33 - (intOf i).toNat)
              case atStart => exact ⟨0, by omega, rfl, HB2.out.alloc (by omega) _, HH.out.alloc _, Blk.new_ ho.symm _ _⟩
              case round =>
                obtain ⟨j, hj, rfl, hb, hH, hO⟩ := hrel
                clear HB2 HH ho
                have HB2 := Lib.hid hb
                have HH := Lib.hid hH
                have HO := Lib.hid hO
                clear hb hH hO
                have HR0 := Lib.hid ((Blk.new w 109 (Array.replicate 32 (.int .u8 0))).below HB2.out (Nat.lt_succ_self _))
                by_cases hlt : j < 32
                · /-FAST-/
                  obtain ⟨x, hx, f0⟩ : ∃ x, Hid (x = (shaW all k).getD (j / 4) 0) ∧ wr.cell? ⟨g, j / 4, none⟩ = some (.int .u32 x) := ⟨_, rfl, (HH.out.cell (j / 4)).trans (c32_get _ _ (by rw [shaW_length]; omega))⟩
                  have z0 := HO.out.frozen j
                  have z1 : wr.cell? ⟨o, j, none⟩ = some (held wr ⟨o, j, none⟩) := held_there ((HO.out.cell j).trans (by
                    rw [List.getElem?_toArray, bv_get _ _ (by rw [shaOut_length]; omega)]))
                  have y0 : ((j : Int) / 4).toNat = j / 4 := by omega
                  have y1 : 0 ≤ (j : Int) / 4 ∧ (j : Int) / 4 < 8 := by omega
                  have y2 : 0 ≤ (j : Int) ∧ (j : Int) < 32 := by omega
                  have y3 : IntKind.i64.wrap (8 * ((j : Int) % 4)) = 8 * ((j : Int) % 4) := IntWalk.i64_in _ (by omega)
                  have y4 : IntKind.i64.wrap (24 - 8 * ((j : Int) % 4)) = 24 - 8 * ((j : Int) % 4) := IntWalk.i64_in _ (by omega)
                  have y5 : 0 ≤ 24 - 8 * ((j : Int) % 4) := by omega
                  have y6 : 24 - 8 * ((j : Int) % 4) ≤ 32 := by omega
                  have y7 : (24 - 8 * ((j : Int) % 4)).toNat = 24 - 8 * (j % 4) := by omega
                  go_wp2_with fail
                  go_roundw
                  case rel =>
                    refine ⟨j + 1, by omega, by go_num, HB2.out.setCell (by simp; omega) _, HH.out.far (by simp; omega) _, ?_⟩
                    have hst := HO.out.set_ j (.int .u8 (x / 2 ^ (24 - 8 * (j % 4)) % 256))
                    rw [List.setIfInBounds_toArray, bv_set (b := UInt8.ofNat (x / 2 ^ (24 - 8 * (j % 4)) % 256).toNat) (by simp; omega)] at hst
                    have e : shaOut (shaW all k) (j + 1) = (shaOut (shaW all k) j).set j (UInt8.ofNat (x / 2 ^ (24 - 8 * (j % 4)) % 256).toNat) := by rw [hx.out]; rfl
                    rw [e]
                    exact hst
                  case measure => simp [intOf]; omega /-END-/
                · obtain rfl : j = 32 := by omega
                  obtain ⟨out, hout⟩ : ∃ out, out = shaOut (shaW all k) 32 := ⟨_, rfl⟩
                  have hlo : out.length = 32 := by rw [hout]; exact shaOut_length _ _
                  rw [← hout] at HO
                  have HOut := Lib.hid hout
                  clear hout
                  have hl := Lib.hid (show (bv out).toArray.size = 32 by rw [List.size_toArray, bv_length, hlo])
                  have sz := Lib.hid (show (Tryz.prog.info? 109).map (·.size) = some (bv out).toArray.size by rw [hl.out]; exact size_u8x32)
                  have hone := Lib.hid (show (bv out).toArray.all (·.oneCell') = true by simp [bv, Value.oneCell'])
                  clear hlo
                  rw [show (((32 : Nat) : Int)) = 32 from rfl]
                  rename ∀ (a : Act) (w : World), Code.wp _ (Code.seq (Code.region 20 _ _) _) _ a w → _ => hK20
                  replace hK20 := Lib.hid hK20
                  go_wp2_with fail
                  refine hK20.out _ _ ?_
                  clear hK20
                  refine wp_seq_k ?_
                  intro K hK
                  refine wp_region_lit ?_
                  refine wpList_load_row rfl 109 (.tmp 8) rfl o ?j0 109 _ _ _ HO.out Tryz.underlying109 rfl sz.out ?_
                  case j0 => rfl
                  refine wpList_store_row rfl 109 (.tmp 2) (.tmp 69) rfl w.heap.size (bv out).toArray ?i0 ?i1 109 _ HR0.out sz.out ?i3 hone.out ?_
                  case i0 => rfl
                  case i1 => rfl
                  case i3 => rw [hl.out]; rfl
                  refine wpList_nil ?_
                  refine hK _ _ ?_
                  clear hK
                  go_wp2_with fail
                  have hbw : Below w.heap.size w wr := ((Below.refl _ w).alloc (Nat.le_refl _) _).trans (HB2.out.mono (Nat.le_succ _))
                  have ho2 : out = shaSum l := by
                    have e : all.length / 64 = k := by omega
                    rw [HOut.out, shaSum, ← HA.out, e]
                  rw [← ho2]
                  exact bodyPost_ret (results_cell_row rfl _ _ w.heap.size 109 (bv out).toArray (0, 0) _ rfl (HR0.out.row _) Tryz.underlying109 rfl sz.out) rfl ⟨rfl, below_setRow hbw (Nat.le_refl _) _⟩
    · go_wp2_with (at_builtin; go_loud (refine wpList_append_any _ rfl (.tmp 20) (.tmp 21) _ rfl (w.heap.size + 1) 5 i0 _ 1 1 Tryz.underlying22 hi0 hz0 hz1 hz2 rfl (by decide) _ _ _ rfl (HO2.out.alloc _) _ _ 1 1 [.int .u8 0] rfl (reads_new wr #[.int .u8 0] 5 1 1 rfl) (by simp; rfl) ?c1 ?c2 ?c3 ?_))
      case c1 => unfold maxLen; omega
      case c2 => omega
      case c3 => rw [World.size_alloc]; omega
      intro v3 w3 hown hgrow _hat
      obtain ⟨A4, c4, rfl⟩ := own_slice hown
      go_wp2_with fail
      go_roundw
      case rel =>
        refine ⟨j + 1, A4, c4, by omega, rfl, (HB2.out.alloc hs2 _).grown hgrow (by rw [World.size_alloc]; omega) (fun k hk => (HO2.out.lt k hk).1), ?_⟩
        have e : bv (l ++ [128] ++ List.replicate (j + 1) 0) = bv (l ++ 128 :: List.replicate j 0) ++ [Value.int .u8 0] := by simp [bv, List.replicate_succ']
        rw [e]
        exact hown
      case measure => simp [lenOf]; omega
end Go.Proofs.YtghddiboggdhcaaGreatDoor
