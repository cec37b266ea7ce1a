/- The guards of the laws: the sizes, and the short addresses. -/
import Derived.Test.YtimakhadabenbaaGreatDoorPs
import Derived.Lib.SlBytesConst
namespace Go.Proofs.YtimakhadabenbaaGreatDoor
open Go.RowKit
attribute [local go_sem ↓] Go.wp_at_zero Go.wp_at_succ
/-- Some truth value. -/
def OutT (w : World) (e : Ending) (w' : World) : Prop := ∃ b, e = .returned (.bool b) ∧ Below w.heap.size w w'
set_option maxRecDepth 100000 in
set_option maxHeartbeats 2000000 in
theorem fits2_any (kd : Nat) (A : Option Addr) (n c : Nat) (w : World) : Calls Tryz.prog 12 #[.agg #[.int .u8 kd, .slice A n c]] w (OutT w) := by
  have HB := Lib.hid ((Below.refl _ w).alloc (Nat.le_refl _) (.cells #[.int .u8 kd, .slice A n c] 29))
  go_enter Tryz.func12, Tryz.ntmps12
  by_cases hn : n ≤ 2147483647
  · have hd : decide ((2147483647 : Int) < (n : Int)) = false := by simp; omega
    go_wp2_with fail
    go_ret
    exact ⟨_, rfl, HB.out⟩
  · have hd : decide ((2147483647 : Int) < (n : Int)) = true := by simp; omega
    go_wp2_with fail
    go_ret
    exact ⟨_, rfl, HB.out⟩
set_option maxRecDepth 100000 in
set_option maxHeartbeats 2000000 in
theorem fits1_any (A : Option Addr) (n c : Nat) (hs : List Hop) (w : World) (h : HS w w.heap.size A n c hs) : Calls Tryz.prog 5 #[.slice A n c] w (OutT w) := by
  have HH := Lib.hid h
  have HL := Lib.hid h.len
  clear h
  go_enter Tryz.func5, Tryz.ntmps5
  by_cases hn : n ≤ 2147483647
  · have hd : decide ((2147483647 : Int) < (n : Int)) = false := by simp; omega
    go_wp2_with fail
    go_loopw [10] (fun i wr => ∃ k : Nat, k ≤ n ∧ i = .int .i64 k ∧ Below w.heap.size w wr) (fun i _ => n - (intOf i).toNat)
    case atStart => exact ⟨0, by omega, rfl, Below.refl _ _⟩
    case round =>
      obtain ⟨k, hk, rfl, hb⟩ := hrel
      have HB := Lib.hid hb
      clear hb
      by_cases hlt : k < n
      · obtain ⟨ad, rfl, hbk, c0, c1, _⟩ := (HH.out.below HB.out).at_ k (by rw [HL.out]; exact hlt)
        generalize hs[k]'(by rw [HL.out]; exact hlt) = hp at *
        rw [add_succ _ _ 1 (by decide)] at c1
        have HBW := Lib.hid (HB.out.alloc HB.out.size (.cells #[.int .u8 hp.kd, .slice hp.A hp.n hp.c] 29))
        go_wp2_with fail
        refine (fits2_any hp.kd hp.A hp.n hp.c _).mono ?_
        rintro e w3 ⟨b, rfl, hb3⟩
        have HB3 := Lib.hid (HBW.out.trans (hb3.mono HBW.out.size))
        clear hb3
        cases b
        · go_wp2_with fail
          go_ret
          exact ⟨_, rfl, HB3.out⟩
        · go_wp2_with fail
          exact ⟨⟨k + 1, by omega, by go_num, HB3.out⟩, by simp [intOf]; omega⟩
      · go_wp2_with fail
        go_ret
        exact ⟨_, rfl, HB.out⟩
  · have hd : decide ((2147483647 : Int) < (n : Int)) = true := by simp; omega
    go_wp2_with fail
    go_ret
    exact ⟨_, rfl, Below.refl _ _⟩
set_option maxRecDepth 100000 in
set_option maxHeartbeats 2000000 in
theorem short_any (A : Option Addr) (n c g : Nat) (hs : List Hop) (w : World) (h : HS w w.heap.size A n c hs) (hg : w.cell? ⟨g, 0, none⟩ = some (.slice A n c)) :
    Calls Tryz.prog 6 #[.slice (some ⟨g, 0, none⟩) 1 1] w fun e w' => (e = .returned (.bool false) ∨ e = .returned (.bool true) ∧ n ≠ 0 ∧ n ≤ 20 ∧ ∀ i (hi : i < hs.length), (hs[i]).n ≤ 100) ∧ Below w.heap.size w w' := by
  have HH := Lib.hid h
  have HL := Lib.hid h.len
  have HG := Lib.hid hg
  clear h hg
  go_enter Tryz.func6, Tryz.ntmps6
  go_wp2_with fail
  go_loopw [9] (fun i wr => ∃ k : Nat, k ≤ 1 ∧ i = .int .i64 k ∧ (k = 0 ∨ n ≠ 0 ∧ n ≤ 20 ∧ ∀ i (hi : i < hs.length), (hs[i]).n ≤ 100) ∧ Below w.heap.size w wr) (fun i _ => 1 - (intOf i).toNat)
  case atStart => exact ⟨0, by omega, rfl, Or.inl rfl, Below.refl _ _⟩
  case round =>
    obtain ⟨k, hk, rfl, hor, hb⟩ := hrel
    have HB := Lib.hid hb
    clear hb
    by_cases hlt : k < 1
    · obtain rfl : k = 0 := by omega
      have hgw : wr.cell? ⟨g, 0, none⟩ = some (.slice A n c) := (HB.out.cell (World.block_lt_of_cell? _ _ HG.out)).trans HG.out
      clear hor
      by_cases hn0 : n = 0
      · have hd0 : ((n : Int) == 0) = true := by simp; omega
        clear hn0
        go_wp2_with fail
        go_ret
        exact ⟨Or.inl rfl, HB.out⟩
      · have hd0 : ((n : Int) == 0) = false := by simp; omega
        have HN0 := Lib.hid hn0
        clear hn0
        by_cases hn2 : n ≤ 20
        · have hd2 : decide ((20 : Int) < (n : Int)) = false := by simp; omega
          go_wp2_with fail
          go_loopw [23] (fun i wr => ∃ k : Nat, k ≤ n ∧ i = .int .i64 k ∧ (∀ i (hi : i < hs.length), i < k → (hs[i]).n ≤ 100) ∧ Below w.heap.size w wr) (fun i _ => n - (intOf i).toNat)
          case atStart => exact ⟨0, by omega, rfl, fun _ _ h => absurd h (by omega), HB.out⟩
          case round =>
            obtain ⟨k, hk, rfl, hall, hb⟩ := hrel
            have HB := Lib.hid hb
            have HALL := Lib.hid hall
            clear hb hall
            by_cases hlt : k < n
            · obtain ⟨ad, rfl, hbk, c0, c1, _⟩ := (HH.out.below HB.out).at_ k (by rw [HL.out]; exact hlt)
              generalize hhp : hs[k]'(by rw [HL.out]; exact hlt) = hp at *
              have HHP := Lib.hid hhp
              clear hhp
              rw [add_succ _ _ 1 (by decide)] at c1
              have HBW := Lib.hid (HB.out.alloc HB.out.size (.cells #[.int .u8 hp.kd, .slice hp.A hp.n hp.c] 29))
              by_cases h100 : hp.n ≤ 100
              · have hd3 : decide ((100 : Int) < (hp.n : Int)) = false := by simp; omega
                go_wp2_with fail
                go_roundw
                case rel =>
                  refine ⟨k + 1, by omega, by go_num, fun i hi hik => ?_, HBW.out⟩
                  by_cases e : i = k
                  · subst e; rw [HHP.out]; exact h100
                  · exact HALL.out i hi (by omega)
                case measure => simp [intOf]; omega
              · have hd3 : decide ((100 : Int) < (hp.n : Int)) = true := by simp; omega
                go_wp2_with fail
                go_ret
                exact ⟨Or.inl rfl, HBW.out⟩
            · have hfin : ∀ i (hi : i < hs.length), (hs[i]).n ≤ 100 := fun i hi => HALL.out i hi (by have := HL.out; omega)
              have HF := Lib.hid hfin
              clear hfin
              go_wp2_with fail
              go_roundw
              case rel => exact ⟨1, by omega, rfl, Or.inr ⟨HN0.out, hn2, HF.out⟩, HB.out⟩
              case measure => simp [intOf]
        · have hd2 : decide ((20 : Int) < (n : Int)) = true := by simp; omega
          go_wp2_with fail
          go_ret
          exact ⟨Or.inl rfl, HB.out⟩
    · obtain rfl : k = 1 := by omega
      have HOR := Lib.hid hor
      clear hor
      go_wp2_with fail
      go_ret
      exact ⟨Or.inr ⟨rfl, by have := HOR.out; simpa using this⟩, HB.out⟩
end Go.Proofs.YtimakhadabenbaaGreatDoor

/- laws.addrAwake. -/
namespace Go.Proofs.YtimakhadabenbaaGreatDoor
open Go.RowKit
variable {K : Nat}
attribute [local go_sem ↓] Go.wp_at_zero Go.wp_at_succ
def awakeHops (g : Nat) : List Hop := [⟨0, some ⟨g, 0, none⟩, 4, 4, [10, 0, 0, 1]⟩, ⟨1, some ⟨g + 1, 0, none⟩, 2, 2, [0, 80]⟩]
def awakeLast (g : Nat) : Hop := ⟨6, some ⟨g + 1 + 1, 0, none⟩, 1, 1, [107]⟩
def awakeCells (g : Nat) : Array Value := #[.int .u8 0, .slice (some ⟨g, 0, none⟩) 4 4, .int .u8 1, .slice (some ⟨g + 1, 0, none⟩) 2 2, .int .u8 6, .slice (some ⟨g + 1 + 1, 0, none⟩) 1 1]
theorem awake_bytes (g : Nat) : addrBytes (awakeHops g) = [4, 10, 0, 0, 1, 6, 0, 80] := by rfl
theorem awake_id (g : Nat) : idOf (awakeLast g).l = [0, 1, 107] := by rfl
theorem RB.of_fr {w : World} {g : Nat} {t : TypeId} {fr : Nat × Nat} {vc : List UInt8} (h : w.heap[g]? = some (.cells (bv vc).toArray t fr)) (hm : vc.length ≤ maxLen) : RB w w.heap.size (some ⟨g, 0, none⟩) vc.length vc.length vc := by
  have hlt : g < w.heap.size := by
    rcases Nat.lt_or_ge g w.heap.size with h' | h'
    · exact h'
    · rw [Array.getElem?_eq_none h'] at h; cases h
  refine ⟨⟨by simp [bv], fun _ => ⟨_, rfl, hlt, fun j u hu => ?_⟩⟩, Nat.le_refl _, hm⟩
  have hadd : (⟨g, 0, none⟩ : Addr).add j = ⟨g, j, none⟩ := by unfold Addr.add; split <;> simp_all
  rw [hadd, cell_of_row w g j _ t fr h]
  simpa using hu
theorem alloc_at {w : World} {g : Nat} (h : w.heap.size = g) (o : Obj) : (w.alloc o).heap[g]? = some o := by subst h; exact heap_alloc_new _ _
theorem awake_hs {W : World} {g : Nat} (b0 : Blk W g 5 (bv [10, 0, 0, 1]).toArray) (b1 : Blk W (g + 1) 5 (bv [0, 80]).toArray) (b2 : W.heap[g + 1 + 1]? = some (.cells (bv [107]).toArray 5 (1, 2))) (b3 : Blk W (g + 1 + 1 + 1) 29 (awakeCells g)) :
    HS W W.heap.size (some ⟨g + 1 + 1 + 1, 0, none⟩) 3 3 (awakeHops g ++ [awakeLast g]) := by
  refine ⟨rfl, by decide, by decide, fun i hi => ⟨_, rfl, b3.lt, ?_⟩⟩
  have hi3 : i = 0 ∨ i = 1 ∨ i = 2 := by simp [awakeHops, awakeLast] at hi; omega
  rcases hi3 with rfl | rfl | rfl
  · exact ⟨b3.cell 0, b3.cell 1, RB.of_blk b0 (by decide)⟩
  · exact ⟨b3.cell 2, b3.cell 3, RB.of_blk b1 (by decide)⟩
  · exact ⟨b3.cell 4, b3.cell 5, RB.of_fr b2 (by decide)⟩
theorem awake_ok (g : Nat) (hK : 100 ≤ K) : ∀ x ∈ awakeHops g ++ [awakeLast g], HopOk K x.kd x.l := by
  intro x hx
  simp only [awakeHops, awakeLast, List.cons_append, List.nil_append, List.mem_cons, List.not_mem_nil, or_false] at hx
  rcases hx with rfl | rfl | rfl
  · refine Or.inr ⟨fun _ b hb => Nat.lt_of_lt_of_le ?_ hK, fun h => by simp at h, by simp⟩
    have hb2 : b ∈ ([10, 0, 0, 1] : List UInt8) := hb
    simp at hb2
    rcases hb2 with rfl | rfl | rfl <;> decide
  · exact Or.inr ⟨fun h => by simp at h, fun _ => Nat.lt_of_lt_of_le (by decide : Lib.beNat (filled [0, 80] 2) < 100) hK, by simp⟩
  · exact HopOk.id rfl
set_option maxRecDepth 100000 in
set_option maxHeartbeats 4000000 in
theorem awake (w : World) (hK : 100 ≤ K) (ht : Tab K w) : Calls Tryz.prog 7 #[] w fun e w' => e = .returned (.bool true) ∧ Below w.heap.size w w' := by
  have HT := Lib.hid ht
  have HOK := Lib.hid (awake_ok (K := K) w.heap.size hK)
  have hcv : (convert 27 27 (.slice (some ⟨w.heap.size + 1 + 1, 0, none⟩) 1 1)).run Tryz.prog (((w.alloc (.cells #[.int .u8 10, .int .u8 0, .int .u8 0, .int .u8 1] 5)).alloc (.cells #[.int .u8 0, .int .u8 80] 5)).alloc (.cells #[.int .u8 107] 5)) = .ok (.slice (some ⟨w.heap.size + 1 + 1, 0, none⟩) 1 1) (((w.alloc (.cells #[.int .u8 10, .int .u8 0, .int .u8 0, .int .u8 1] 5)).alloc (.cells #[.int .u8 0, .int .u8 80] 5)).alloc (.cells #[.int .u8 107] 5 (1, 2))) := by
    have e : ((w.alloc (.cells #[.int .u8 10, .int .u8 0, .int .u8 0, .int .u8 1] 5)).alloc (.cells #[.int .u8 0, .int .u8 80] 5)).heap.size = w.heap.size + 1 + 1 := by simp
    have := Lib.run_convert_bytes_const (P := Tryz.prog) ((w.alloc (.cells #[.int .u8 10, .int .u8 0, .int .u8 0, .int .u8 1] 5)).alloc (.cells #[.int .u8 0, .int .u8 80] 5)) 27 5 #[.int .u8 107] 1 1 Tryz.underlying27 Tryz.underlying5
    rw [e] at this
    exact this
  clear ht hK
  go_enter Tryz.func7, Tryz.ntmps7
  go_wp2_with fail
  obtain ⟨W, hW⟩ : ∃ W, W = (((w.alloc (.cells (bv [10, 0, 0, 1]).toArray 5)).alloc (.cells (bv [0, 80]).toArray 5)).alloc (.cells (bv [107]).toArray 5 (1, 2))).alloc (.cells (awakeCells w.heap.size) 29) := ⟨_, rfl⟩
  have hbW : Below w.heap.size w W := by rw [hW]; exact ((((Below.refl _ w).alloc (Nat.le_refl _) _).alloc (by simp) _).alloc (by simp; omega) _).alloc (by simp; omega) _
  have hHS : HS W W.heap.size (some ⟨w.heap.size + 1 + 1 + 1, 0, none⟩) 3 3 (awakeHops w.heap.size ++ [awakeLast w.heap.size]) := by
    rw [hW]
    exact awake_hs ((((Blk.new w _ _).alloc _).alloc _).alloc _) (((Blk.new_ (by simp) _ _).alloc _).alloc _) ((Below.heap_alloc _ _ _ (by simp)).trans (alloc_at (by simp) _)) (Blk.new_ (by simp) _ _)
  have HBW := Lib.hid hbW
  have HA := Lib.hid (addrof_any _ 3 3 _ W hHS (by decide) (fun i hi => by
    have hi3 : i = 0 ∨ i = 1 ∨ i = 2 := by simp [awakeHops, awakeLast] at hi; omega
    rcases hi3 with rfl | rfl | rfl <;> simp [awakeHops, awakeLast]))
  change Calls _ _ _ ((((w.alloc (.cells (bv [10, 0, 0, 1]).toArray 5)).alloc (.cells (bv [0, 80]).toArray 5)).alloc (.cells (bv [107]).toArray 5 (1, 2))).alloc (.cells (awakeCells w.heap.size) 29)) _
  rw [← hW]
  clear hW hbW hHS
  refine HA.out.mono ?_
  rintro e w1 ⟨v, rfl, ho, hb1⟩
  obtain ⟨A1, c1, rfl⟩ := own_slice ho
  have hr1 := RB.of_own ho
  have hb1' := HBW.out.trans (hb1.mono HBW.out.size)
  have HS1 := Lib.hid (isplit_id A1 _ c1 (awakeHops w.heap.size) (awakeLast w.heap.size) w1 (HT.out.below hb1') HOK.out hr1 (by simp [awakeHops]) rfl)
  rw [awake_bytes, awake_id] at HS1
  have HB1 := Lib.hid hb1'
  clear ho hr1 hb1 hb1'
  go_wp2_with fail
  refine HS1.out.mono ?_
  rintro e w2 ⟨A2, c2, A3, c3, rfl, hr2, hr3, hb2⟩
  have HB2 := Lib.hid (HB1.out.trans (hb2.mono HB1.out.size))
  have HR2 := Lib.hid hr2
  have HR3 := Lib.hid hr3
  clear hr2 hr3 hb2
  have hn := RB.of_blk (Blk.new w2 5 (bv [4, 10, 0, 0, 1, 6, 0, 80]).toArray) (by decide)
  have HE1 := Lib.hid (equal_any A2 _ _ c2 _ _ _ _ _ (HR2.out.alloc (.cells (bv [4, 10, 0, 0, 1, 6, 0, 80]).toArray 5)) hn)
  have HBX := Lib.hid (HB2.out.alloc HB2.out.size (.cells (bv [4, 10, 0, 0, 1, 6, 0, 80]).toArray 5))
  clear hn
  go_wp2_with fail
  refine HE1.out.mono ?_
  rintro e w3 ⟨rfl, rfl⟩
  have hr3 := HR3.out.alloc (.cells (bv [4, 10, 0, 0, 1, 6, 0, 80]).toArray 5)
  obtain ⟨w3, hw3⟩ : ∃ w3, w3 = w2.alloc (.cells (bv [4, 10, 0, 0, 1, 6, 0, 80]).toArray 5) := ⟨_, rfl⟩
  rw [← hw3] at hr3 HBX ⊢
  have HE2 := Lib.hid (equal_any A3 _ _ c3 _ _ _ _ _ (hr3.alloc (.cells (bv [0, 1, 107]).toArray 5)) (RB.of_blk (Blk.new w3 5 (bv [0, 1, 107]).toArray) (by decide)))
  have HBY := Lib.hid (HBX.out.alloc HBX.out.size (.cells (bv [0, 1, 107]).toArray 5))
  clear hw3 hr3 HE1
  go_wp2_with fail
  refine HE2.out.mono ?_
  rintro e w4 ⟨rfl, rfl⟩
  go_wp2_with fail
  go_ret
  exact ⟨rfl, HBY.out⟩
theorem last_of (hs : List Hop) (h : hs.length ≠ 0) : ∃ hs' h', hs = hs' ++ [h'] := by
  have hne : hs ≠ [] := by rintro rfl; exact h rfl
  exact ⟨hs.dropLast, hs.getLast hne, (List.dropLast_concat_getLast hne).symm⟩
end Go.Proofs.YtimakhadabenbaaGreatDoor
