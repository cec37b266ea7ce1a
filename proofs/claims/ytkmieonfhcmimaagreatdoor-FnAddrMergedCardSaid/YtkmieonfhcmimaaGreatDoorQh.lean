/- laws.addrAwake. -/
import Derived.Test.YtkmieonfhcmimaaGreatDoorPt
import Derived.Lib.SlBytesConst
import Derived.Test.YtkmieonfhcmimaaGreatDoorPo
import Derived.Test.YtkmieonfhcmimaaGreatDoorHh
import Derived.Test.YtkmieonfhcmimaaGreatDoorGt
import Derived.Test.YtkmieonfhcmimaaGreatDoorSs
namespace Go.Proofs.YtkmieonfhcmimaaGreatDoor
open Go.RowKit
variable {K : Nat}
attribute [local go_sem ↓] Go.wp_at_zero Go.wp_at_succ
def awakeHops (g : Nat) : List Hop := [⟨0, some ⟨g, 0, none⟩, 4, 4, [10, 0, 0, 1]⟩, ⟨1, some ⟨g + 1, 0, none⟩, 2, 2, [0, 80]⟩]
def awakeLast (g : Nat) : Hop := ⟨6, some ⟨g + 1 + 1, 0, none⟩, 1, 1, [107]⟩
def awakeCells (g : Nat) : Array Value := #[.int .u8 0, .slice (some ⟨g, 0, none⟩) 4 4, .int .u8 1, .slice (some ⟨g + 1, 0, none⟩) 2 2, .int .u8 6, .slice (some ⟨g + 1 + 1, 0, none⟩) 1 1]
theorem awake_bytes (g : Nat) : addrBytes (awakeHops g) = [4, 10, 0, 0, 1, 6, 0, 80] := by rfl
theorem awake_id (g : Nat) : idOf (awakeLast g).l = [0, 1, 107] := by rfl
theorem RB.of_fr {w : World} {g : Nat} {t : TypeId} {fr : Nat × Nat} {vc : List UInt8} (h : w.heap[g]? = some (.cells (bv vc).toArray t fr)) (hm : vc.length ≤ maxLen) : RB w w.heap.size (some ⟨g, 0, none⟩) vc.length vc.length vc := by
  have hlt : g < w.heap.size := by
    rcases Nat.lt_or_ge g w.heap.size with h' | h'
    · exact h'
    · rw [Array.getElem?_eq_none h'] at h; cases h
  refine ⟨⟨by simp [bv], fun _ => ⟨_, rfl, hlt, fun j u hu => ?_⟩⟩, Nat.le_refl _, hm⟩
  have hadd : (⟨g, 0, none⟩ : Addr).add j = ⟨g, j, none⟩ := by unfold Addr.add; split <;> simp_all
  rw [hadd, cell_of_row w g j _ t fr h]
  simpa using hu
theorem alloc_at {w : World} {g : Nat} (h : w.heap.size = g) (o : Obj) : (w.alloc o).heap[g]? = some o := by subst h; exact heap_alloc_new _ _
theorem awake_hs {W : World} {g : Nat} (b0 : Blk W g 5 (bv [10, 0, 0, 1]).toArray) (b1 : Blk W (g + 1) 5 (bv [0, 80]).toArray) (b2 : W.heap[g + 1 + 1]? = some (.cells (bv [107]).toArray 5 (1, 2))) (b3 : Blk W (g + 1 + 1 + 1) 50 (awakeCells g)) :
    HS W W.heap.size (some ⟨g + 1 + 1 + 1, 0, none⟩) 3 3 (awakeHops g ++ [awakeLast g]) := by
  refine ⟨rfl, by decide, by decide, fun i hi => ⟨_, rfl, b3.lt, ?_⟩⟩
  have hi3 : i = 0 ∨ i = 1 ∨ i = 2 := by simp [awakeHops, awakeLast] at hi; omega
  rcases hi3 with rfl | rfl | rfl
  · exact ⟨b3.cell 0, b3.cell 1, RB.of_blk b0 (by decide)⟩
  · exact ⟨b3.cell 2, b3.cell 3, RB.of_blk b1 (by decide)⟩
  · exact ⟨b3.cell 4, b3.cell 5, RB.of_fr b2 (by decide)⟩
theorem awake_ok (g : Nat) (hK : 100 ≤ K) : ∀ x ∈ awakeHops g ++ [awakeLast g], HopOk K x.kd x.l := by
  intro x hx
  simp only [awakeHops, awakeLast, List.cons_append, List.nil_append, List.mem_cons, List.not_mem_nil, or_false] at hx
  rcases hx with rfl | rfl | rfl
  · refine Or.inr ⟨fun _ b hb => Nat.lt_of_lt_of_le ?_ hK, fun h => by simp at h, by simp⟩
    have hb2 : b ∈ ([10, 0, 0, 1] : List UInt8) := hb
    simp at hb2
    rcases hb2 with rfl | rfl | rfl <;> decide
  · exact Or.inr ⟨fun h => by simp at h, fun _ => Nat.lt_of_lt_of_le (by decide : Lib.beNat (filled [0, 80] 2) < 100) hK, by simp⟩
  · exact HopOk.id rfl
set_option maxRecDepth 100000 in
set_option maxHeartbeats 4000000 in
theorem awake (w : World) (hK : 100 ≤ K) (ht : Tab K w) : Calls Tryz.prog 7 #[] w fun e w' => e = .returned (.bool true) ∧ Below w.heap.size w w' := by
  have HT := Lib.hid ht
  have HOK := Lib.hid (awake_ok (K := K) w.heap.size hK)
  have hcv : (convert 32 32 (.slice (some ⟨w.heap.size + 1 + 1, 0, none⟩) 1 1)).run Tryz.prog (((w.alloc (.cells #[.int .u8 10, .int .u8 0, .int .u8 0, .int .u8 1] 5)).alloc (.cells #[.int .u8 0, .int .u8 80] 5)).alloc (.cells #[.int .u8 107] 5)) = .ok (.slice (some ⟨w.heap.size + 1 + 1, 0, none⟩) 1 1) (((w.alloc (.cells #[.int .u8 10, .int .u8 0, .int .u8 0, .int .u8 1] 5)).alloc (.cells #[.int .u8 0, .int .u8 80] 5)).alloc (.cells #[.int .u8 107] 5 (1, 2))) := by
    have e : ((w.alloc (.cells #[.int .u8 10, .int .u8 0, .int .u8 0, .int .u8 1] 5)).alloc (.cells #[.int .u8 0, .int .u8 80] 5)).heap.size = w.heap.size + 1 + 1 := by simp
    have := Lib.run_convert_bytes_const (P := Tryz.prog) ((w.alloc (.cells #[.int .u8 10, .int .u8 0, .int .u8 0, .int .u8 1] 5)).alloc (.cells #[.int .u8 0, .int .u8 80] 5)) 32 5 #[.int .u8 107] 1 1 Tryz.underlying32 Tryz.underlying5
    rw [e] at this
    exact this
  clear ht hK
  go_enter Tryz.func7, Tryz.ntmps7
  go_wp2_with fail
  obtain ⟨W, hW⟩ : ∃ W, W = (((w.alloc (.cells (bv [10, 0, 0, 1]).toArray 5)).alloc (.cells (bv [0, 80]).toArray 5)).alloc (.cells (bv [107]).toArray 5 (1, 2))).alloc (.cells (awakeCells w.heap.size) 50) := ⟨_, rfl⟩
  have hbW : Below w.heap.size w W := by rw [hW]; exact ((((Below.refl _ w).alloc (Nat.le_refl _) _).alloc (by simp) _).alloc (by simp; omega) _).alloc (by simp; omega) _
  have hHS : HS W W.heap.size (some ⟨w.heap.size + 1 + 1 + 1, 0, none⟩) 3 3 (awakeHops w.heap.size ++ [awakeLast w.heap.size]) := by
    rw [hW]
    exact awake_hs ((((Blk.new w _ _).alloc _).alloc _).alloc _) (((Blk.new_ (by simp) _ _).alloc _).alloc _) ((Below.heap_alloc _ _ _ (by simp)).trans (alloc_at (by simp) _)) (Blk.new_ (by simp) _ _)
  have HBW := Lib.hid hbW
  have HA := Lib.hid (addrof_any _ 3 3 _ W hHS (by decide) (fun i hi => by
    have hi3 : i = 0 ∨ i = 1 ∨ i = 2 := by simp [awakeHops, awakeLast] at hi; omega
    rcases hi3 with rfl | rfl | rfl <;> simp [awakeHops, awakeLast]))
  change Calls _ _ _ ((((w.alloc (.cells (bv [10, 0, 0, 1]).toArray 5)).alloc (.cells (bv [0, 80]).toArray 5)).alloc (.cells (bv [107]).toArray 5 (1, 2))).alloc (.cells (awakeCells w.heap.size) 50)) _
  rw [← hW]
  clear hW hbW hHS
  refine HA.out.mono ?_
  rintro e w1 ⟨v, rfl, ho, hb1⟩
  obtain ⟨A1, c1, rfl⟩ := own_slice ho
  have hr1 := RB.of_own ho
  have hb1' := HBW.out.trans (hb1.mono HBW.out.size)
  have HS1 := Lib.hid (isplit_id A1 _ c1 (awakeHops w.heap.size) (awakeLast w.heap.size) w1 (HT.out.below hb1') HOK.out hr1 (by simp [awakeHops]) rfl)
  rw [awake_bytes, awake_id] at HS1
  have HB1 := Lib.hid hb1'
  clear ho hr1 hb1 hb1'
  go_wp2_with fail
  refine HS1.out.mono ?_
  rintro e w2 ⟨A2, c2, A3, c3, rfl, hr2, hr3, hb2⟩
  have HB2 := Lib.hid (HB1.out.trans (hb2.mono HB1.out.size))
  have HR2 := Lib.hid hr2
  have HR3 := Lib.hid hr3
  clear hr2 hr3 hb2
  have hn := RB.of_blk (Blk.new w2 5 (bv [4, 10, 0, 0, 1, 6, 0, 80]).toArray) (by decide)
  have HE1 := Lib.hid (equal_any A2 _ _ c2 _ _ _ _ _ (HR2.out.alloc (.cells (bv [4, 10, 0, 0, 1, 6, 0, 80]).toArray 5)) hn)
  have HBX := Lib.hid (HB2.out.alloc HB2.out.size (.cells (bv [4, 10, 0, 0, 1, 6, 0, 80]).toArray 5))
  clear hn
  go_wp2_with fail
  refine HE1.out.mono ?_
  rintro e w3 ⟨rfl, rfl⟩
  have hr3 := HR3.out.alloc (.cells (bv [4, 10, 0, 0, 1, 6, 0, 80]).toArray 5)
  obtain ⟨w3, hw3⟩ : ∃ w3, w3 = w2.alloc (.cells (bv [4, 10, 0, 0, 1, 6, 0, 80]).toArray 5) := ⟨_, rfl⟩
  rw [← hw3] at hr3 HBX ⊢
  have HE2 := Lib.hid (equal_any A3 _ _ c3 _ _ _ _ _ (hr3.alloc (.cells (bv [0, 1, 107]).toArray 5)) (RB.of_blk (Blk.new w3 5 (bv [0, 1, 107]).toArray) (by decide)))
  have HBY := Lib.hid (HBX.out.alloc HBX.out.size (.cells (bv [0, 1, 107]).toArray 5))
  clear hw3 hr3 HE1
  go_wp2_with fail
  refine HE2.out.mono ?_
  rintro e w4 ⟨rfl, rfl⟩
  go_wp2_with fail
  go_ret
  exact ⟨rfl, HBY.out⟩
theorem last_of (hs : List Hop) (h : hs.length ≠ 0) : ∃ hs' h', hs = hs' ++ [h'] := by
  have hne : hs ≠ [] := by rintro rfl; exact h rfl
  exact ⟨hs.dropLast, hs.getLast hne, (List.dropLast_concat_getLast hne).symm⟩
end Go.Proofs.YtkmieonfhcmimaaGreatDoor

/- Words for slices of slices of parts. No condition. -/
namespace Go.Proofs.YtkmieonfhcmimaaGreatDoor
open Go.RowKit
/-- A list of parts, as a slice. -/
structure Row where
  A : Option Addr
  n : Nat
  c : Nat
  hs : List Hop
def Row.v (r : Row) : Value := .slice r.A r.n r.c
/-- A slice of slices of parts, below block B. -/
structure RS (w : World) (B : Nat) (A : Option Addr) (n c : Nat) (rs : List Row) : Prop where
  len : rs.length = n
  cap : n ≤ c
  max : c ≤ maxLen
  at_ : ∀ i (hi : i < rs.length), ∃ ad, A = some ad ∧ ad.block < B ∧ w.cell? (ad.add i) = some (rs[i]).v ∧ HS w B (rs[i]).A (rs[i]).n (rs[i]).c (rs[i]).hs
theorem RS.below {w w' : World} {B : Nat} {A : Option Addr} {n c : Nat} {rs : List Row} (h : RS w B A n c rs) (hb : Below B w w') : RS w' B A n c rs :=
  ⟨h.len, h.cap, h.max, fun i hi => by
    obtain ⟨ad, e, hlt, c0, hr⟩ := h.at_ i hi
    exact ⟨ad, e, hlt, (hb.cell (by rw [block_of_add]; exact hlt)).trans c0, hr.below hb⟩⟩
theorem RS.more {w : World} {B B' : Nat} {A : Option Addr} {n c : Nat} {rs : List Row} (h : RS w B A n c rs) (hB : B ≤ B') : RS w B' A n c rs :=
  ⟨h.len, h.cap, h.max, fun i hi => by
    obtain ⟨ad, e, hlt, c0, hr⟩ := h.at_ i hi
    exact ⟨ad, e, by omega, c0, hr.more hB⟩⟩
end Go.Proofs.YtkmieonfhcmimaaGreatDoor

/- Lists of lists of parts: the guards of the laws, and the list of the addresses. -/
namespace Go.Proofs.YtkmieonfhcmimaaGreatDoor
open Go.RowKit
attribute [local go_sem ↓] Go.wp_at_zero Go.wp_at_succ
set_option maxRecDepth 100000 in
set_option maxHeartbeats 2000000 in
theorem fits3_any (A : Option Addr) (n c : Nat) (rs : List Row) (w : World) (h : RS w w.heap.size A n c rs) : Calls Tryz.prog 5 #[.slice A n c] w (OutT w) := by
  have HH := Lib.hid h
  have HL := Lib.hid h.len
  clear h
  go_enter Tryz.func5, Tryz.ntmps5
  by_cases hn : n ≤ 2147483647
  · have hd : decide ((2147483647 : Int) < (n : Int)) = false := by simp; omega
    go_wp2_with fail
    go_loopw [10] (fun i wr => ∃ k : Nat, k ≤ n ∧ i = .int .i64 k ∧ Below w.heap.size w wr) (fun i _ => n - (intOf i).toNat)
    case atStart => exact ⟨0, by omega, rfl, Below.refl _ _⟩
    case round =>
      obtain ⟨k, hk, rfl, hb⟩ := hrel
      have HB := Lib.hid hb
      clear hb
      by_cases hlt : k < n
      · obtain ⟨ad, rfl, hbk, c0, hr⟩ := (HH.out.below HB.out).at_ k (by rw [HL.out]; exact hlt)
        generalize rs[k]'(by rw [HL.out]; exact hlt) = r at *
        unfold Row.v at c0
        have HF := Lib.hid (fits1_any r.A r.n r.c r.hs wr (hr.more HB.out.size))
        clear hr
        go_wp2_with fail
        refine HF.out.mono ?_
        rintro e w3 ⟨b, rfl, hb3⟩
        have HB3 := Lib.hid (HB.out.trans (hb3.mono HB.out.size))
        clear hb3
        cases b
        · go_wp2_with fail
          go_ret
          exact ⟨_, rfl, HB3.out⟩
        · go_wp2_with fail
          exact ⟨⟨k + 1, by omega, by go_num, HB3.out⟩, by simp [intOf]; omega⟩
      · go_wp2_with fail
        go_ret
        exact ⟨_, rfl, HB.out⟩
  · have hd : decide ((2147483647 : Int) < (n : Int)) = true := by simp; omega
    go_wp2_with fail
    go_ret
    exact ⟨_, rfl, Below.refl _ _⟩
/-- A short list of parts. -/
structure Row.Short (r : Row) : Prop where
  pos : r.n ≠ 0
  le : r.n ≤ 20
  all : ∀ i (hi : i < r.hs.length), (r.hs[i]).n ≤ 100
set_option maxRecDepth 100000 in
set_option maxHeartbeats 2000000 in
theorem shorts_any (A : Option Addr) (n c : Nat) (rs : List Row) (w : World) (h : RS w w.heap.size A n c rs) :
    Calls Tryz.prog 6 #[.slice A n c] w fun e w' => (e = .returned (.bool false) ∨ e = .returned (.bool true) ∧ n ≤ 60 ∧ ∀ i (hi : i < rs.length), (rs[i]).Short) ∧ Below w.heap.size w w' := by
  have hmx : n ≤ 9223372036854775807 := Nat.le_trans h.cap h.max
  have HH := Lib.hid h
  have HL := Lib.hid h.len
  clear h
  go_enter Tryz.func6, Tryz.ntmps6
  go_wp2_with fail
  go_loopw [9] (fun i wr => ∃ k : Nat, k ≤ n ∧ i = .int .i64 k ∧ (∀ i (hi : i < rs.length), i < k → (rs[i]).Short) ∧ Below w.heap.size w wr) (fun i _ => n - (intOf i).toNat)
  case atStart => exact ⟨0, by omega, rfl, fun _ _ h => absurd h (by omega), Below.refl _ _⟩
  case round =>
    obtain ⟨k, hk, rfl, hor, hb⟩ := hrel
    have HB := Lib.hid hb
    have HOR := Lib.hid hor
    clear hb hor
    by_cases hlt : k < n
    · obtain ⟨ad, rfl, hbk, cw, hr⟩ := (HH.out.below HB.out).at_ k (by rw [HL.out]; exact hlt)
      generalize hrk : rs[k]'(by rw [HL.out]; exact hlt) = r at *
      have HRK := Lib.hid hrk
      have HR := Lib.hid hr
      have HRL := Lib.hid hr.len
      unfold Row.v at cw
      clear hrk hr
      by_cases hn0 : r.n = 0
      · have hd0 : ((r.n : Int) == 0) = true := by simp; omega
        clear hn0
        go_wp2_with fail
        go_ret
        exact ⟨Or.inl rfl, HB.out⟩
      · have hd0 : ((r.n : Int) == 0) = false := by simp; omega
        have HN0 := Lib.hid hn0
        clear hn0
        by_cases hn2 : r.n ≤ 20
        · have hd2 : decide ((20 : Int) < (r.n : Int)) = false := by simp; omega
          go_wp2_with fail
          go_loopw [23] (fun i wq => ∃ k : Nat, k ≤ r.n ∧ i = .int .i64 k ∧ (∀ i (hi : i < r.hs.length), i < k → (r.hs[i]).n ≤ 100) ∧ Below w.heap.size w wq ∧ Below wr.heap.size wr wq) (fun i _ => r.n - (intOf i).toNat)
          case atStart => exact ⟨0, by omega, rfl, fun _ _ h => absurd h (by omega), HB.out, Below.refl _ _⟩
          case round =>
            obtain ⟨j, hj, rfl, hall, hbq, hbr⟩ := hrel
            have HBQ := Lib.hid hbq
            have HBR := Lib.hid hbr
            have HALL := Lib.hid hall
            clear hbq hbr hall
            by_cases hjlt : j < r.n
            · obtain ⟨bd, hbd, hbk2, c0, c1, _⟩ := ((HR.out.more HB.out.size).below HBR.out).at_ j (by rw [HRL.out]; exact hjlt)
              generalize hhp : r.hs[j]'(by rw [HRL.out]; exact hjlt) = hp at *
              have HHP := Lib.hid hhp
              clear hhp
              rw [add_succ _ _ 1 (by decide)] at c1
              have HBW := Lib.hid (HBQ.out.alloc HBQ.out.size (.cells #[.int .u8 hp.kd, .slice hp.A hp.n hp.c] 50))
              have HBX := Lib.hid (HBR.out.alloc HBR.out.size (.cells #[.int .u8 hp.kd, .slice hp.A hp.n hp.c] 50))
              by_cases h100 : hp.n ≤ 100
              · have hd3 : decide ((100 : Int) < (hp.n : Int)) = false := by simp; omega
                rw [hbd]
                go_wp2_with fail
                go_roundw
                case rel =>
                  refine ⟨j + 1, by omega, by go_num, fun i hi hik => ?_, HBW.out, HBX.out⟩
                  by_cases e : i = j
                  · subst e; rw [HHP.out]; exact h100
                  · exact HALL.out i hi (by omega)
                case measure => simp [intOf]; omega
              · have hd3 : decide ((100 : Int) < (hp.n : Int)) = true := by simp; omega
                rw [hbd]
                go_wp2_with fail
                go_ret
                exact ⟨Or.inl rfl, HBW.out⟩
            · have hfin : r.Short := ⟨HN0.out, hn2, fun i hi => HALL.out i hi (by have := HRL.out; omega)⟩
              have HF := Lib.hid hfin
              clear hfin
              go_wp2_with fail
              go_roundw
              case rel =>
                refine ⟨k + 1, by omega, by go_num, fun i hi hik => ?_, HBQ.out⟩
                by_cases e : i = k
                · subst e; rw [HRK.out]; exact HF.out
                · exact HOR.out i hi (by omega)
              case measure => simp [intOf]; omega
        · have hd2 : decide ((20 : Int) < (r.n : Int)) = true := by simp; omega
          go_wp2_with fail
          go_ret
          exact ⟨Or.inl rfl, HB.out⟩
    · obtain rfl : n = k := by omega
      have hfin : ∀ i (hi : i < rs.length), (rs[i]).Short := fun i hi => HOR.out i hi (by have := HL.out; omega)
      have HF := Lib.hid hfin
      clear hfin
      by_cases h60 : n ≤ 60
      · have hd60 : decide ((n : Int) ≤ 60) = true := by simp; omega
        go_wp2_with fail
        go_ret
        exact ⟨Or.inr ⟨rfl, h60, HF.out⟩, HB.out⟩
      · have hd60 : decide ((n : Int) ≤ 60) = false := by simp; omega
        go_wp2_with fail
        go_ret
        exact ⟨Or.inl rfl, HB.out⟩
/-- The addresses of lists of parts. -/
def addrsOf (rs : List Row) : List (List UInt8) := rs.map fun r => addrBytes r.hs
set_option maxRecDepth 100000 in
set_option maxHeartbeats 2000000 in
theorem addrlist_any (A : Option Addr) (n c : Nat) (rs : List Row) (w : World) (h : RS w w.heap.size A n c rs) (hn : n ≤ 1000) (hs : ∀ i (hi : i < rs.length), (rs[i]).Short) :
    Calls Tryz.prog 9 #[.slice A n c] w fun e w' => ∃ v qs, e = .returned v ∧ w'.ownsRow w.heap.size 32 1 v n (partCells qs) ∧ qs.map (·.l) = addrsOf rs ∧ TBs w' qs ∧ Below w.heap.size w w' := by
  obtain ⟨j0, hj0, jz0, jz1, jz2⟩ := info_parts aslice_info
  have HH := Lib.hid h
  have HL := Lib.hid h.len
  have HS := Lib.hid hs
  clear h hs
  go_enter Tryz.func9, Tryz.ntmps9
  go_wp2_with fail
  go_loopw [3, 8] (fun v i wr => ∃ k : Nat, k ≤ n ∧ i = .int .i64 k ∧ ∃ qs : List Part, qs.map (·.l) = (addrsOf rs).take k ∧ wr.ownsRow w.heap.size 32 1 v k (partCells qs) ∧ TBs wr qs ∧ Below w.heap.size w wr) (fun _ i _ => n - (intOf i).toNat)
  case atStart => exact ⟨0, by omega, rfl, [], rfl, World.ownsRow_nil _ _ _ _, fun x hx => by simp at hx, Below.refl _ _⟩
  case round =>
    obtain ⟨k, hk, rfl, qs, hqs, hown, htb, hb⟩ := hrel
    have HQ := Lib.hid hqs
    have HO := Lib.hid hown
    have HTB := Lib.hid htb
    have HB := Lib.hid hb
    clear hqs hown htb hb
    by_cases hlt : k < n
    · have hlt' : k < rs.length := by rw [HL.out]; exact hlt
      obtain ⟨ad, rfl, hbk, c0, hr⟩ := (HH.out.below HB.out).at_ k hlt'
      have hsh := HS.out k hlt'
      have htk : (addrsOf rs).take (k + 1) = (addrsOf rs).take k ++ [addrBytes (rs[k]).hs] := by
        rw [List.take_succ_eq_append_getElem (by simp [addrsOf]; exact hlt')]
        simp [addrsOf]
      generalize rs[k] = r at *
      unfold Row.v at c0
      have HTK := Lib.hid htk
      have hle := addrBytes_le r.hs
      have hrl := hr.len
      have hr20 := hsh.le
      have HA := Lib.hid (addrof_any r.A r.n r.c r.hs wr (hr.more HB.out.size) (by omega) (fun i hi => Nat.le_trans (hsh.all i hi) (by decide)))
      have hM1 : (addrBytes r.hs).length ≤ 1000 := by omega
      obtain ⟨M, hM⟩ : ∃ M, M = addrBytes r.hs := ⟨_, rfl⟩
      rw [← hM] at HA HTK hM1
      clear htk hr hsh hle hM hlt' hrl hr20
      go_wp2_with fail
      refine HA.out.mono ?_
      rintro e w3 ⟨v3, rfl, ho3, hb3⟩
      obtain ⟨A3, c3, rfl⟩ := own_slice ho3
      have htb3 := TB.of_own ho3
      have hbq := (Below.refl _ w3).alloc (Nat.le_refl _) (.cells #[.slice A3 M.length c3] 32)
      have HBQ := Lib.hid (hb3.trans (hbq.mono hb3.size))
      have HTQ := Lib.hid (htb3.below hbq)
      have HOO := Lib.hid (own_below HO.out HBQ.out)
      have HRN := Lib.hid (reads_new w3 #[.slice A3 M.length c3] 32 1 1 rfl)
      clear ho3 hb3 htb3 hbq
      go_wp2_with (at_builtin; refine wpList_append_any _ rfl _ _ _ rfl w.heap.size 32 j0 _ 1 24 Tryz.underlying29 hj0 jz0 jz1 jz2 rfl (by decide) _ _ _ rfl HOO.out _ _ 1 1 _ rfl HRN.out ?c0 ?c1 ?c2 ?c3 ?_)
      case c0 => intro u hu; simp at hu; subst hu; rfl
      case c1 => unfold maxLen; omega
      case c2 => omega
      case c3 => exact Nat.le_trans HB.out.size HBQ.out.size
      intro v' w' hown hgrow _hat
      have HBF := Lib.hid ((HB.out.trans (HBQ.out.mono HB.out.size)).grown hgrow (Nat.le_trans HB.out.size HBQ.out.size) (fun g hg => (HOO.out.lt g hg).1))
      have htf : TBs w' (qs ++ [⟨A3, M.length, c3, M⟩]) := TBs.snoc (fun x hx => (((HTB.out x hx).below HBQ.out).grown HOO.out (by decide) hgrow)) (HTQ.out.grown HOO.out (by decide) hgrow)
      have hof : w'.ownsRow w.heap.size 32 1 v' (k + 1) (partCells (qs ++ [⟨A3, M.length, c3, M⟩])) := by
        rw [partCells_snoc]
        exact hown
      have HOF := Lib.hid hof
      have HTF := Lib.hid htf
      clear hown hgrow _hat hof htf
      go_wp2_with fail
      go_roundw
      case rel => exact ⟨k + 1, by omega, by go_num, qs ++ [⟨A3, M.length, c3, M⟩], by rw [List.map_append, HQ.out, HTK.out]; rfl, HOF.out, HTF.out, HBF.out⟩
      case measure => simp [intOf]; omega
    · obtain rfl : k = n := by omega
      have hq2 := HQ.out
      rw [List.take_of_length_le (by simp [addrsOf, HL.out])] at hq2
      have HQ2 := Lib.hid hq2
      clear hq2
      go_wp2_with fail
      go_ret
      exact ⟨_, qs, rfl, HO.out, HQ2.out, HTB.out, HB.out⟩
end Go.Proofs.YtkmieonfhcmimaaGreatDoor

/- spec.AddrSplit where an ID stands last: the ID in memory of the call's own; slices.CompactFunc at none; lists of parts in memory. No condition. -/
namespace Go.Proofs.YtkmieonfhcmimaaGreatDoor
open Go.RowKit
attribute [local go_sem ↓] Go.wp_at_zero Go.wp_at_succ
/-- Two slices of bytes, the second in memory of the call's own. -/
def OutSB (t u : List UInt8) (w : World) (e : Ending) (w' : World) : Prop :=
  ∃ A c B d, e = .returned (.tuple #[.slice A t.length c, .slice B u.length d]) ∧ RB w' w'.heap.size A t.length c t ∧ TB w' ⟨B, u.length, d, u⟩ ∧ Below w.heap.size w w'
set_option maxRecDepth 100000 in
set_option maxHeartbeats 2000000 in
theorem ssplit_tb (A : Option Addr) (c : Nat) (hs : List Hop) (h : Hop) (w : World) (hh : HS w w.heap.size A (hs.length + 1) c (hs ++ [h])) (hn : hs.length ≤ 900) (hd : ∀ i (hi : i < (hs ++ [h]).length), ((hs ++ [h])[i]).n ≤ 100000) (hk : h.kd % 8 = 6) :
    Calls Tryz.prog 10 #[.slice A (hs.length + 1) c] w (OutSB (addrBytes hs) (idOf h.l) w) := by
  have htk := hh.take (k := hs.length) (by omega)
  rw [List.take_left] at htk
  have hdi : ∀ i (hi : i < hs.length), (hs[i]).n ≤ 100000 := fun i hi => by have := hd i (by simp; omega); rwa [List.getElem_append_left hi] at this
  have hdl := hd hs.length (by simp)
  have hcap := hh.cap
  have hmax : c ≤ 9223372036854775807 := hh.max
  obtain ⟨ad, rfl, hbk, c0, c1, hr⟩ := hh.at_ hs.length (by simp)
  have e1 : (hs ++ [h])[hs.length]'(by simp) = h := by simp
  rw [e1] at c0 c1 hr hdl
  rw [add_succ _ _ 1 (by decide)] at c1
  have HTK := Lib.hid htk
  have HDI := Lib.hid hdi
  have HR := Lib.hid hr
  have k8 : ((h.kd : Int) % 8 == 6) = true := by simp; omega
  have k8' : ((h.kd : Int) % 8 != 6) = false := by simp; omega
  have k0 : (0 : Int) ≤ (hs.length : Int) := by omega
  have k1 : (hs.length : Int) ≤ (c : Int) := by omega
  have hz : IntKind.i64.wrap ((hs.length : Int) + 1 - 1) = (hs.length : Int) := by rw [show (hs.length : Int) + 1 - 1 = hs.length by omega]; exact IntWalk.i64_in _ (by omega)
  obtain ⟨aa, haa⟩ : ∃ aa, aa = ad.add (hs.length * 2) := ⟨_, rfl⟩
  have hblk : (⟨aa.block, aa.off + 1, none⟩ : Addr).block < w.heap.size := by rw [haa]; simp only [block_of_add]; exact hbk
  rw [← haa] at c0 c1
  have haa' := haa.symm
  clear hh e1 htk hdi hr haa hd
  go_enter Tryz.func10, Tryz.ntmps10
  go_wp2_with fail
  go_region_held3 (fun w' => Below w.heap.size w w' ∧ w'.cell? ⟨aa.block, aa.off + 1, none⟩ = some (.slice h.A h.n h.c))
    (first | exact ⟨(Below.refl _ _).drew, c1⟩ | with_reducible assumption)
    (first
      | (go_at_call 23; have hS1 := ‹RowKit.Below w.heap.size w _ ∧ _›; refine (addrof_any _ hs.length c hs _ ((HTK.out.below hS1.1).more hS1.1.size) (by omega) HDI.out).mono ?_; rintro e w4 ⟨v4, rfl, ho4, hb4⟩; obtain ⟨A4, c4, rfl⟩ := own_slice ho4; have hR4 := RB.of_own ho4; have hS4 := keep1 hb4 hS1; clear hS1)
      | (go_at_call 30; have hS1 := ‹RowKit.Below w.heap.size w _ ∧ _›; refine (id_any h.A h.n h.c h.l _ ((HR.out.below hS1.1).more hS1.1.size) hdl).mono ?_; rintro e w5 ⟨v5, rfl, ho5, hb5⟩; obtain ⟨A5, c5, rfl⟩ := own_slice ho5; have hR5 := TB.of_own ho5; have hR6 := hR4.next hb5; have hS5 := keep1 hb5 hS1; clear hS1))
  have HR5 := Lib.hid hR5
  have HR6 := Lib.hid hR6
  have HB := Lib.hid hS5.1
  clear hR5 hR6 hS5 hR4 hS4 ho4 ho5 hb4 hb5
  go_wp2_with fail
  go_ret2
  exact ⟨A4, c4, A5, c5, rfl, HR6.out, HR5.out, HB.out⟩
set_option maxRecDepth 100000 in
set_option maxHeartbeats 2000000 in
theorem compact_none (c : Nat) (fv : Value) (w : World) : Calls Tryz.prog 13 #[.slice none 0 c, fv] w fun e w' => e = .returned (.slice none 0 c) ∧ w' = w := by
  go_enter Tryz.func13, Tryz.ntmps13
  go_wp2_with fail
  go_ret
  exact ⟨rfl, rfl⟩
/-- A list of parts that ends with an ID. -/
theorem row_last {r : Row} {w : World} (h : HS w w.heap.size r.A r.n r.c r.hs) (hs : r.Short) : ∃ q x, r.hs = q ++ [x] ∧ r.n = q.length + 1 ∧ q.length ≤ 19 := by
  have hl := h.len
  have hne : r.hs ≠ [] := fun e => by rw [e] at hl; have := hs.pos; simp at hl; omega
  refine ⟨r.hs.dropLast, r.hs.getLast hne, (List.dropLast_concat_getLast hne).symm, ?_, ?_⟩
  · rw [List.length_dropLast]; have := hs.pos; omega
  · rw [List.length_dropLast]; have := hs.le; omega
end Go.Proofs.YtkmieonfhcmimaaGreatDoor

/- slices.SortFunc at byte strings with bytes.Compare. Its laying (Tryz.sortB) is the shelf's. -/
namespace Go.Proofs.YtkmieonfhcmimaaGreatDoor
open Go Go.RowKit Go.Sort
theorem sort_bytes (g m c base : Nat) (ps : List Part) (w : World) (ho : w.ownsRow base 32 1 (.slice (some ⟨g, 0, none⟩) m c) m (partCells ps)) (h : TBs w ps) (hm : m ≤ 1000000) :
    Calls Tryz.prog 11 #[.slice (some ⟨g, 0, none⟩) m c, .func (Fn.func 12) #[] #[]] w fun e w' =>
      e = .returned (.tuple #[]) ∧ ∃ qs : List Part, qs.Perm ps ∧ qs.Pairwise (fun x y => ¬ cmpB y.l x.l < 0) ∧ w'.ownsRow base 32 1 (.slice (some ⟨g, 0, none⟩) m c) m (partCells qs) ∧ TBs w' qs ∧ w.grownBy w' (some g) := by
  have eg : ∀ args w, (callFunc 12 args).run Tryz.prog w = .ok (.enter 12 args) w := enters_of Tryz.func12 (by kernel_rfl) rfl
  obtain ⟨cur, hb, hl⟩ : ∃ cur, w.heap[g]? = some (.cells cur 32 (0, 0)) ∧ cur.toList.take m = partCells ps := by
    rcases ho.2 with ⟨hv, _⟩ | ⟨g', cap, cur, hv, _, hh, _, _, _, h4⟩
    · cases hv
    · injection hv with e1
      injection e1 with e1
      injection e1 with e1
      subst e1
      exact ⟨cur, hh, by rwa [Nat.mul_one] at h4⟩
  have hcl : (cmpds ps (h.off ho)).length = m := by
    have h1 := congrArg List.length (cmpds_val ps (h.off ho))
    have h2 := ho.1
    rw [partCells_length] at h2
    rw [List.length_map] at h1
    omega
  have hH : Holds encP w g 0 (cmpds ps (h.off ho)).toArray := holds_row encP hb (by rw [hcl, hl, cmpds_cells])
  have hcon := Any.slices_SortFunc Tryz.sortB encP (fun _ => rfl) (fun x y => cmpB x.1.l y.1.l) (swo_bytes _) 12 #[] g 0 c (cmpds ps (h.off ho)).toArray w eg (lays_bytes w g _) hH (Array.getElem?_eq_some_iff.1 hb).1 (by simp [hcl]; omega)
  change Calls Tryz.prog 11 _ _ _ at hcon
  rw [List.size_toArray, hcl] at hcon
  refine hcon.mono ?_
  rintro e w' ⟨rfl, d', n, os, hp, hs, rfl⟩
  have hsz : (cmpds ps (h.off ho)).toArray.size = m := by rw [List.size_toArray, hcl]
  exact ⟨rfl, sorted_bytes ho h d' (Eq.mpr (congrArg (fun k => PermIn 0 k (cmpds ps (h.off ho)).toArray d') hsz) hp) (Eq.mpr (congrArg (fun k => SortedIn (ltOf fun x y : Cmpd w g => cmpB x.1.l y.1.l) 0 k d') hsz) hs)⟩
end Go.Proofs.YtkmieonfhcmimaaGreatDoor

/- slices.EqualFunc of lists of byte slices. -/
namespace Go.Proofs.YtkmieonfhcmimaaGreatDoor
open Go.RowKit
attribute [local go_sem ↓] Go.wp_at_zero Go.wp_at_succ
set_option maxRecDepth 100000 in
set_option maxHeartbeats 2000000 in
theorem eqfunc_any (A B : Option Addr) (n c d : Nat) (ps qs : List Part) (w : World) (h : LS w w.heap.size A n c ps) (h' : LS w w.heap.size B n d qs) (he : ps.map (·.l) = qs.map (·.l)) :
    Calls Tryz.prog 15 #[.slice A n c, .slice B n d, .func (Fn.func 14) #[] #[]] w fun e w' => e = .returned (.bool true) ∧ Below w.heap.size w w' := by
  have HH := Lib.hid h
  have HK := Lib.hid h'
  have HL := Lib.hid h.len
  have HE := Lib.hid he
  have hmx : n ≤ 9223372036854775807 := Nat.le_trans h.cap h.max
  clear h h' he
  go_enter Tryz.func15, Tryz.ntmps15
  go_wp2_with fail
  go_loopw [17] (fun i wr => ∃ k : Nat, k ≤ n ∧ i = .int .i64 k ∧ Below w.heap.size w wr) (fun i _ => n - (intOf i).toNat)
  case atStart => exact ⟨0, by omega, rfl, Below.refl _ _⟩
  case round =>
    obtain ⟨k, hk, rfl, hb⟩ := hrel
    have HB := Lib.hid hb
    clear hb
    by_cases hlt : k < n
    · have hkp : k < ps.length := by rw [HL.out]; exact hlt
      have hkq : k < qs.length := by rw [HK.out.len]; exact hlt
      have hel : (ps[k]).l = (qs[k]).l := by
        have := congrArg (fun x => x[k]?) HE.out
        simpa [hkp, hkq] using this
      obtain ⟨ad, rfl, hbk, c0, hr⟩ := (HH.out.below HB.out).at_ k hkp
      obtain ⟨bd, rfl, hbk', c1, hr'⟩ := (HK.out.below HB.out).at_ k hkq
      generalize ps[k] = p at *
      generalize qs[k] = q at *
      unfold Part.v at c0 c1
      have heq := equal_any p.A q.A p.n p.c q.n q.c p.l q.l wr (hr.more HB.out.size) (hr'.more HB.out.size)
      rw [hel, beq_self_eq_true] at heq
      have HEQ := Lib.hid heq
      clear hr hr' hel heq hkp hkq
      go_wp2_with fail
      refine HEQ.out.mono ?_
      rintro e w3 ⟨rfl, rfl⟩
      go_wp2_with fail
      go_roundw
      case rel => exact ⟨k + 1, by omega, by go_num, HB.out⟩
      case measure => simp [intOf]; omega
    · go_wp2_with fail
      go_ret
      exact ⟨rfl, HB.out⟩
end Go.Proofs.YtkmieonfhcmimaaGreatDoor
