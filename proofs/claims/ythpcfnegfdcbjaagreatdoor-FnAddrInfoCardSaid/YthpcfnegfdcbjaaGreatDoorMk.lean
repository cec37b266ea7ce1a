/- impl.AddrSplit at the bytes of an address. -/
import Derived.Test.YthpcfnegfdcbjaaGreatDoorPr
import Derived.Lib.SlBytesConst
import Derived.Test.YthpcfnegfdcbjaaGreatDoorXf
import Derived.Lib.Builder
import Derived.Lib.AppendStr
import Derived.Laws.Externs
namespace Go.Proofs.YthpcfnegfdcbjaaGreatDoor
open Go.RowKit
variable {K : Nat}
attribute [local go_sem ↓] Go.wp_at_zero Go.wp_at_succ
/-- Two slices of bytes, and true. -/
def OutBBT (t u : List UInt8) (w : World) (e : Ending) (w' : World) : Prop :=
  ∃ A c B d, e = .returned (.tuple #[.slice A t.length c, .slice B u.length d, .bool true]) ∧ RB w' w'.heap.size A t.length c t ∧ RB w' w'.heap.size B u.length d u ∧ Below w.heap.size w w'
theorem conv_id (w : World) (L : List UInt8) (h : L.length ≤ 1000000) : ∃ c w', (convert 60 26 (.string ⟨L.toArray⟩)).run Tryz.prog w = .ok (.slice (some ⟨w.heap.size, 0, none⟩) L.length c) w' ∧
    RB w' w'.heap.size (some ⟨w.heap.size, 0, none⟩) L.length c L ∧ Below w.heap.size w w' ∧ w.heap.size < w'.heap.size := by
  refine ⟨_, _, ?_, RB.of_bytesWorld w 5 L (by unfold maxLen; omega), below_bytesWorld _ _ _, by rw [Lib.bytesWorld_size]; omega⟩
  have := Lib.run_convert_string_bytes (P := Tryz.prog) w 60 26 5 ⟨L.toArray⟩ Tryz.underlying60 Tryz.underlying26 Tryz.underlying5
  simpa [ByteArray.size] using this
theorem idOf_le (l : List UInt8) : (idOf l).length ≤ 44 := by
  obtain ⟨x, y, v, d, hid, _, _, hd, _⟩ := id_form l
  rw [hid]
  simp
  omega
set_option maxRecDepth 100000 in
set_option maxHeartbeats 2000000 in
theorem isplit_id (A : Option Addr) (n c : Nat) (hs : List Hop) (h : Hop) (w : World) (ht : Tab K w) (hok : ∀ x ∈ hs ++ [h], HopOk K x.kd x.l) (hr : RB w w.heap.size A n c (addrBytes (hs ++ [h]))) (hn : hs.length ≤ 99) (hk : h.kd % 8 = 6) :
    Calls Tryz.prog 14 #[.slice A n c] w (OutBBT (addrBytes hs) (idOf h.l) w) := by
  have q : ∀ (w : World) (a : Option Addr) (n c n' c' : Nat), (binOp .neq 51 (.slice a n c) (.slice none n' c')).run Tryz.prog w = .ok (.bool (!a.isNone)) w := fun w a n c n' c' => run_neq_slice_nil_any w _ _ a n c n' c' Tryz.underlying51
  have HC := Lib.hid (addrof_impl A n c (hs ++ [h]) w ht hok hr (by simp; omega) (by simp))
  have HK := Lib.hid hk
  clear ht hok hr hk
  go_enter Tryz.func14, Tryz.ntmps14
  go_wp2_with fail
  refine HC.out.mono ?_
  rintro e w1 ⟨g, c1, cs1, rfl, hcs, hpr, hms, hb⟩
  have hl1 : cs1.length = hs.length + 1 := by have := congrArg List.length hcs; simpa using this
  obtain ⟨cs, x, rfl⟩ : ∃ cs x, cs1 = cs ++ [x] := ⟨cs1.dropLast, cs1.getLast (by intro e; simp [e] at hl1), (List.dropLast_concat_getLast _).symm⟩
  rw [List.map_append, List.map_cons, List.map_nil] at hcs
  obtain ⟨hcs, hx⟩ := List.append_inj' hcs rfl
  have hx : x.1 = h := by simpa using hx
  have hl : cs.length = hs.length := by rw [← hcs, List.length_map]
  rw [List.length_append, List.length_singleton] at hms ⊢
  have HP := Lib.hid (splitaddr_id g c1 cs x w1 (by omega) (by rw [hx]; exact HK.out) hpr hms)

  have HB := Lib.hid hb
  have HCS := Lib.hid hcs
  have HX := Lib.hid hx
  have HL := Lib.hid hl
  have hidl := idOf_le h.l
  clear hpr hms hcs hx hb hl1 hl
  go_wp2_with fail
  refine HP.out.mono ?_
  rintro e w2 ⟨T, rfl, hT, hb2⟩
  rw [HX.out]
  have HB2 := Lib.hid (HB.out.trans (hb2.mono HB.out.size))
  obtain ⟨L, hL⟩ : ∃ L, L = idOf h.l := ⟨_, rfl⟩
  rw [← hL] at hidl ⊢
  have HLq := Lib.hid hL
  clear hb2 hL
  rcases hT with ⟨rfl, rfl⟩ | ⟨hpos, b, rfl, hm2⟩
  · have h0 : hs = [] := by rw [← HCS.out]; rfl
    subst h0
    obtain ⟨c5, w5, hcv, hr5, hb5, _⟩ := conv_id w2 L (by omega)
    have HR5 := Lib.hid hr5
    have HB5 := Lib.hid (HB2.out.trans (hb5.mono HB2.out.size))
    clear hr5 hb5
    go_wp2_with fail
    go_ret3
    obtain rfl := HLq.out
    exact ⟨none, 0, _, c5, rfl, RB.nil_ _ _, HR5.out, HB5.out⟩
  · have hcl : cs.length ≤ 1000 := by rw [HL.out]; omega
    have HBY := Lib.hid (bytes_any b cs.length cs.length cs w2 hm2 hcl)
    have hcb : compBytes cs = addrBytes hs := by unfold compBytes; rw [HCS.out]
    rw [hcb] at HBY
    have hab := addrBytes_le hs
    obtain ⟨M, hM⟩ : ∃ M, M = addrBytes hs := ⟨_, rfl⟩
    rw [← hM] at HBY hab ⊢
    have HMq := Lib.hid hM
    clear hm2 hcb hM
    go_wp2_with fail
    refine HBY.out.mono ?_
    rintro e w3 ⟨A3, c3, rfl, hr3, hb3⟩
    have HC3 := Lib.hid (clone_any A3 _ c3 M w3 hr3 (by omega))
    have HB3 := Lib.hid (HB2.out.trans (hb3.mono HB2.out.size))
    clear hr3 hb3
    go_wp2_with fail
    refine HC3.out.mono ?_
    rintro e w4 ⟨A4, c4, rfl, hr4, hb4⟩
    obtain ⟨c5, w5, hcv, hr5, hb5, _⟩ := conv_id w4 L (by omega)
    have HR5 := Lib.hid hr5
    have HR4 := Lib.hid (hr4.next hb5)
    have HB5 := Lib.hid ((HB3.out.trans (hb4.mono HB3.out.size)).trans (hb5.mono (Nat.le_trans HB3.out.size hb4.size)))
    clear hr5 hb5 hr4 hb4
    go_wp2_with fail
    go_ret3
    obtain rfl := HLq.out
    obtain rfl := HMq.out
    exact ⟨A4, c4, _, c5, rfl, HR4.out, HR5.out, HB5.out⟩
set_option maxRecDepth 100000 in
set_option maxHeartbeats 2000000 in
theorem isplit_other (A : Option Addr) (n c : Nat) (hs : List Hop) (h : Hop) (w : World) (ht : Tab K w) (hok : ∀ x ∈ hs ++ [h], HopOk K x.kd x.l) (hr : RB w w.heap.size A n c (addrBytes (hs ++ [h]))) (hn : hs.length ≤ 99) (hk : h.kd % 8 ≠ 6) :
    Calls Tryz.prog 14 #[.slice A n c] w (OutBBT (addrBytes (hs ++ [h])) [] w) := by
  have q : ∀ (w : World) (a : Option Addr) (n c n' c' : Nat), (binOp .neq 51 (.slice a n c) (.slice none n' c')).run Tryz.prog w = .ok (.bool (!a.isNone)) w := fun w a n c n' c' => run_neq_slice_nil_any w _ _ a n c n' c' Tryz.underlying51
  have HC := Lib.hid (addrof_impl A n c (hs ++ [h]) w ht hok hr (by simp; omega) (by simp))
  have HK := Lib.hid hk
  clear ht hok hr hk
  go_enter Tryz.func14, Tryz.ntmps14
  go_wp2_with fail
  refine HC.out.mono ?_
  rintro e w1 ⟨g, c1, cs1, rfl, hcs, hpr, hms, hb⟩
  have hcs0 := Lib.hid hcs
  have hl1 : cs1.length = hs.length + 1 := by have := congrArg List.length hcs; simpa using this
  obtain ⟨cs, x, rfl⟩ : ∃ cs x, cs1 = cs ++ [x] := ⟨cs1.dropLast, cs1.getLast (by intro e; simp [e] at hl1), (List.dropLast_concat_getLast _).symm⟩
  rw [List.map_append, List.map_cons, List.map_nil] at hcs
  obtain ⟨hcs, hx⟩ := List.append_inj' hcs rfl
  have hx : x.1 = h := by simpa using hx
  have hl : cs.length = hs.length := by rw [← hcs, List.length_map]
  rw [List.length_append, List.length_singleton] at hms ⊢
  have HP := Lib.hid (splitaddr_other g c1 cs x w1 (by omega) (by rw [hx]; exact HK.out) hpr hms)
  have HB := Lib.hid hb
  have HL := Lib.hid hl
  have HM := Lib.hid hms
  have hab := addrBytes_le (hs ++ [h])
  have hlh : (hs ++ [h]).length ≤ 100 := by simp; omega
  have hcb : compBytes (cs ++ [x]) = addrBytes (hs ++ [h]) := by unfold compBytes; rw [hcs0.out]
  have HCB := Lib.hid hcb
  obtain ⟨M, hM⟩ : ∃ M, M = addrBytes (hs ++ [h]) := ⟨_, rfl⟩
  rw [← hM] at HCB hab ⊢
  have HMq := Lib.hid hM
  clear hpr hms hcs hx hb hl1 hl hcs0 hcb hM
  go_wp2_with fail
  refine HP.out.mono ?_
  rintro e w2 ⟨rfl, hb2⟩
  have hcl : cs.length + 1 ≤ 1000 := by rw [HL.out]; omega
  have HBY := Lib.hid (bytes_any g (cs.length + 1) c1 (cs ++ [x]) w2 (HM.out.below hb2) hcl)
  rw [HCB.out] at HBY
  have HB2 := Lib.hid (HB.out.trans (hb2.mono HB.out.size))
  clear hb2
  go_wp2_with fail
  refine HBY.out.mono ?_
  rintro e w3 ⟨A3, c3, rfl, hr3, hb3⟩
  have HC3 := Lib.hid (clone_any A3 _ c3 M w3 hr3 (by omega))
  have HB3 := Lib.hid (HB2.out.trans (hb3.mono HB2.out.size))
  clear hr3 hb3
  go_wp2_with fail
  refine HC3.out.mono ?_
  rintro e w4 ⟨A4, c4, rfl, hr4, hb4⟩
  obtain ⟨c5, w5, hcv, hr5, hb5, _⟩ := conv_id w4 [] (by decide)
  have HR5 := Lib.hid hr5
  have HR4 := Lib.hid (hr4.next hb5)
  have HB5 := Lib.hid ((HB3.out.trans (hb4.mono HB3.out.size)).trans (hb5.mono (Nat.le_trans HB3.out.size hb4.size)))
  clear hr5 hb5 hr4 hb4
  go_wp2_with fail
  go_ret3
  obtain rfl := HMq.out
  exact ⟨A4, c4, _, c5, rfl, HR4.out, HR5.out, HB5.out⟩
end Go.Proofs.YthpcfnegfdcbjaaGreatDoor

/- The guards of the laws: the sizes, and the short addresses. -/
namespace Go.Proofs.YthpcfnegfdcbjaaGreatDoor
open Go.RowKit
attribute [local go_sem ↓] Go.wp_at_zero Go.wp_at_succ
/-- Some truth value. -/
def OutT (w : World) (e : Ending) (w' : World) : Prop := ∃ b, e = .returned (.bool b) ∧ Below w.heap.size w w'
set_option maxRecDepth 100000 in
set_option maxHeartbeats 2000000 in
theorem fits2_any (kd : Nat) (A : Option Addr) (n c : Nat) (w : World) : Calls Tryz.prog 18 #[.agg #[.int .u8 kd, .slice A n c]] w (OutT w) := by
  have HB := Lib.hid ((Below.refl _ w).alloc (Nat.le_refl _) (.cells #[.int .u8 kd, .slice A n c] 45))
  go_enter Tryz.func18, Tryz.ntmps18
  by_cases hn : n ≤ 2147483647
  · have hd : decide ((2147483647 : Int) < (n : Int)) = false := by simp; omega
    go_wp2_with fail
    go_ret
    exact ⟨_, rfl, HB.out⟩
  · have hd : decide ((2147483647 : Int) < (n : Int)) = true := by simp; omega
    go_wp2_with fail
    go_ret
    exact ⟨_, rfl, HB.out⟩
set_option maxRecDepth 100000 in
set_option maxHeartbeats 2000000 in
theorem fits1_any (A : Option Addr) (n c : Nat) (hs : List Hop) (w : World) (h : HS w w.heap.size A n c hs) : Calls Tryz.prog 5 #[.slice A n c] w (OutT w) := by
  have HH := Lib.hid h
  have HL := Lib.hid h.len
  clear h
  go_enter Tryz.func5, Tryz.ntmps5
  by_cases hn : n ≤ 2147483647
  · have hd : decide ((2147483647 : Int) < (n : Int)) = false := by simp; omega
    go_wp2_with fail
    go_loopw [10] (fun i wr => ∃ k : Nat, k ≤ n ∧ i = .int .i64 k ∧ Below w.heap.size w wr) (fun i _ => n - (intOf i).toNat)
    case atStart => exact ⟨0, by omega, rfl, Below.refl _ _⟩
    case round =>
      obtain ⟨k, hk, rfl, hb⟩ := hrel
      have HB := Lib.hid hb
      clear hb
      by_cases hlt : k < n
      · obtain ⟨ad, rfl, hbk, c0, c1, _⟩ := (HH.out.below HB.out).at_ k (by rw [HL.out]; exact hlt)
        generalize hs[k]'(by rw [HL.out]; exact hlt) = hp at *
        rw [add_succ _ _ 1 (by decide)] at c1
        have HBW := Lib.hid (HB.out.alloc HB.out.size (.cells #[.int .u8 hp.kd, .slice hp.A hp.n hp.c] 45))
        go_wp2_with fail
        refine (fits2_any hp.kd hp.A hp.n hp.c _).mono ?_
        rintro e w3 ⟨b, rfl, hb3⟩
        have HB3 := Lib.hid (HBW.out.trans (hb3.mono HBW.out.size))
        clear hb3
        cases b
        · go_wp2_with fail
          go_ret
          exact ⟨_, rfl, HB3.out⟩
        · go_wp2_with fail
          exact ⟨⟨k + 1, by omega, by go_num, HB3.out⟩, by simp [intOf]; omega⟩
      · go_wp2_with fail
        go_ret
        exact ⟨_, rfl, HB.out⟩
  · have hd : decide ((2147483647 : Int) < (n : Int)) = true := by simp; omega
    go_wp2_with fail
    go_ret
    exact ⟨_, rfl, Below.refl _ _⟩
set_option maxRecDepth 100000 in
set_option maxHeartbeats 2000000 in
theorem short_any (A : Option Addr) (n c g : Nat) (hs : List Hop) (w : World) (h : HS w w.heap.size A n c hs) (hg : w.cell? ⟨g, 0, none⟩ = some (.slice A n c)) :
    Calls Tryz.prog 6 #[.slice (some ⟨g, 0, none⟩) 1 1] w fun e w' => (e = .returned (.bool false) ∨ e = .returned (.bool true) ∧ n ≠ 0 ∧ n ≤ 20 ∧ ∀ i (hi : i < hs.length), (hs[i]).n ≤ 100) ∧ Below w.heap.size w w' := by
  have HH := Lib.hid h
  have HL := Lib.hid h.len
  have HG := Lib.hid hg
  clear h hg
  go_enter Tryz.func6, Tryz.ntmps6
  go_wp2_with fail
  go_loopw [9] (fun i wr => ∃ k : Nat, k ≤ 1 ∧ i = .int .i64 k ∧ (k = 0 ∨ n ≠ 0 ∧ n ≤ 20 ∧ ∀ i (hi : i < hs.length), (hs[i]).n ≤ 100) ∧ Below w.heap.size w wr) (fun i _ => 1 - (intOf i).toNat)
  case atStart => exact ⟨0, by omega, rfl, Or.inl rfl, Below.refl _ _⟩
  case round =>
    obtain ⟨k, hk, rfl, hor, hb⟩ := hrel
    have HB := Lib.hid hb
    clear hb
    by_cases hlt : k < 1
    · obtain rfl : k = 0 := by omega
      have hgw : wr.cell? ⟨g, 0, none⟩ = some (.slice A n c) := (HB.out.cell (World.block_lt_of_cell? _ _ HG.out)).trans HG.out
      clear hor
      by_cases hn0 : n = 0
      · have hd0 : ((n : Int) == 0) = true := by simp; omega
        clear hn0
        go_wp2_with fail
        go_ret
        exact ⟨Or.inl rfl, HB.out⟩
      · have hd0 : ((n : Int) == 0) = false := by simp; omega
        have HN0 := Lib.hid hn0
        clear hn0
        by_cases hn2 : n ≤ 20
        · have hd2 : decide ((20 : Int) < (n : Int)) = false := by simp; omega
          go_wp2_with fail
          go_loopw [23] (fun i wr => ∃ k : Nat, k ≤ n ∧ i = .int .i64 k ∧ (∀ i (hi : i < hs.length), i < k → (hs[i]).n ≤ 100) ∧ Below w.heap.size w wr) (fun i _ => n - (intOf i).toNat)
          case atStart => exact ⟨0, by omega, rfl, fun _ _ h => absurd h (by omega), HB.out⟩
          case round =>
            obtain ⟨k, hk, rfl, hall, hb⟩ := hrel
            have HB := Lib.hid hb
            have HALL := Lib.hid hall
            clear hb hall
            by_cases hlt : k < n
            · obtain ⟨ad, rfl, hbk, c0, c1, _⟩ := (HH.out.below HB.out).at_ k (by rw [HL.out]; exact hlt)
              generalize hhp : hs[k]'(by rw [HL.out]; exact hlt) = hp at *
              have HHP := Lib.hid hhp
              clear hhp
              rw [add_succ _ _ 1 (by decide)] at c1
              have HBW := Lib.hid (HB.out.alloc HB.out.size (.cells #[.int .u8 hp.kd, .slice hp.A hp.n hp.c] 45))
              by_cases h100 : hp.n ≤ 100
              · have hd3 : decide ((100 : Int) < (hp.n : Int)) = false := by simp; omega
                go_wp2_with fail
                go_roundw
                case rel =>
                  refine ⟨k + 1, by omega, by go_num, fun i hi hik => ?_, HBW.out⟩
                  by_cases e : i = k
                  · subst e; rw [HHP.out]; exact h100
                  · exact HALL.out i hi (by omega)
                case measure => simp [intOf]; omega
              · have hd3 : decide ((100 : Int) < (hp.n : Int)) = true := by simp; omega
                go_wp2_with fail
                go_ret
                exact ⟨Or.inl rfl, HBW.out⟩
            · have hfin : ∀ i (hi : i < hs.length), (hs[i]).n ≤ 100 := fun i hi => HALL.out i hi (by have := HL.out; omega)
              have HF := Lib.hid hfin
              clear hfin
              go_wp2_with fail
              go_roundw
              case rel => exact ⟨1, by omega, rfl, Or.inr ⟨HN0.out, hn2, HF.out⟩, HB.out⟩
              case measure => simp [intOf]
        · have hd2 : decide ((20 : Int) < (n : Int)) = true := by simp; omega
          go_wp2_with fail
          go_ret
          exact ⟨Or.inl rfl, HB.out⟩
    · obtain rfl : k = 1 := by omega
      have HOR := Lib.hid hor
      clear hor
      go_wp2_with fail
      go_ret
      exact ⟨Or.inr ⟨rfl, by have := HOR.out; simpa using this⟩, HB.out⟩
end Go.Proofs.YthpcfnegfdcbjaaGreatDoor

/- laws.addrAwake. -/
namespace Go.Proofs.YthpcfnegfdcbjaaGreatDoor
open Go.RowKit
variable {K : Nat}
attribute [local go_sem ↓] Go.wp_at_zero Go.wp_at_succ
def awakeHops (g : Nat) : List Hop := [⟨0, some ⟨g, 0, none⟩, 4, 4, [10, 0, 0, 1]⟩, ⟨1, some ⟨g + 1, 0, none⟩, 2, 2, [0, 80]⟩]
def awakeLast (g : Nat) : Hop := ⟨6, some ⟨g + 1 + 1, 0, none⟩, 1, 1, [107]⟩
def awakeCells (g : Nat) : Array Value := #[.int .u8 0, .slice (some ⟨g, 0, none⟩) 4 4, .int .u8 1, .slice (some ⟨g + 1, 0, none⟩) 2 2, .int .u8 6, .slice (some ⟨g + 1 + 1, 0, none⟩) 1 1]
theorem awake_bytes (g : Nat) : addrBytes (awakeHops g) = [4, 10, 0, 0, 1, 6, 0, 80] := by rfl
theorem awake_id (g : Nat) : idOf (awakeLast g).l = [0, 1, 107] := by rfl
theorem RB.of_fr {w : World} {g : Nat} {t : TypeId} {fr : Nat × Nat} {vc : List UInt8} (h : w.heap[g]? = some (.cells (bv vc).toArray t fr)) (hm : vc.length ≤ maxLen) : RB w w.heap.size (some ⟨g, 0, none⟩) vc.length vc.length vc := by
  have hlt : g < w.heap.size := by
    rcases Nat.lt_or_ge g w.heap.size with h' | h'
    · exact h'
    · rw [Array.getElem?_eq_none h'] at h; cases h
  refine ⟨⟨by simp [bv], fun _ => ⟨_, rfl, hlt, fun j u hu => ?_⟩⟩, Nat.le_refl _, hm⟩
  have hadd : (⟨g, 0, none⟩ : Addr).add j = ⟨g, j, none⟩ := by unfold Addr.add; split <;> simp_all
  rw [hadd, cell_of_row w g j _ t fr h]
  simpa using hu
theorem alloc_at {w : World} {g : Nat} (h : w.heap.size = g) (o : Obj) : (w.alloc o).heap[g]? = some o := by subst h; exact heap_alloc_new _ _
theorem awake_hs {W : World} {g : Nat} (b0 : Blk W g 5 (bv [10, 0, 0, 1]).toArray) (b1 : Blk W (g + 1) 5 (bv [0, 80]).toArray) (b2 : W.heap[g + 1 + 1]? = some (.cells (bv [107]).toArray 5 (1, 2))) (b3 : Blk W (g + 1 + 1 + 1) 45 (awakeCells g)) :
    HS W W.heap.size (some ⟨g + 1 + 1 + 1, 0, none⟩) 3 3 (awakeHops g ++ [awakeLast g]) := by
  refine ⟨rfl, by decide, by decide, fun i hi => ⟨_, rfl, b3.lt, ?_⟩⟩
  have hi3 : i = 0 ∨ i = 1 ∨ i = 2 := by simp [awakeHops, awakeLast] at hi; omega
  rcases hi3 with rfl | rfl | rfl
  · exact ⟨b3.cell 0, b3.cell 1, RB.of_blk b0 (by decide)⟩
  · exact ⟨b3.cell 2, b3.cell 3, RB.of_blk b1 (by decide)⟩
  · exact ⟨b3.cell 4, b3.cell 5, RB.of_fr b2 (by decide)⟩
theorem awake_ok (g : Nat) (hK : 100 ≤ K) : ∀ x ∈ awakeHops g ++ [awakeLast g], HopOk K x.kd x.l := by
  intro x hx
  simp only [awakeHops, awakeLast, List.cons_append, List.nil_append, List.mem_cons, List.not_mem_nil, or_false] at hx
  rcases hx with rfl | rfl | rfl
  · refine Or.inr ⟨fun _ b hb => Nat.lt_of_lt_of_le ?_ hK, fun h => by simp at h, by simp⟩
    have hb2 : b ∈ ([10, 0, 0, 1] : List UInt8) := hb
    simp at hb2
    rcases hb2 with rfl | rfl | rfl <;> decide
  · exact Or.inr ⟨fun h => by simp at h, fun _ => Nat.lt_of_lt_of_le (by decide : Lib.beNat (filled [0, 80] 2) < 100) hK, by simp⟩
  · exact HopOk.id rfl
set_option maxRecDepth 100000 in
set_option maxHeartbeats 4000000 in
theorem awake (w : World) (hK : 100 ≤ K) (ht : Tab K w) : Calls Tryz.prog 7 #[] w fun e w' => e = .returned (.bool true) ∧ Below w.heap.size w w' := by
  have HT := Lib.hid ht
  have HOK := Lib.hid (awake_ok (K := K) w.heap.size hK)
  have hcv : (convert 26 26 (.slice (some ⟨w.heap.size + 1 + 1, 0, none⟩) 1 1)).run Tryz.prog (((w.alloc (.cells #[.int .u8 10, .int .u8 0, .int .u8 0, .int .u8 1] 5)).alloc (.cells #[.int .u8 0, .int .u8 80] 5)).alloc (.cells #[.int .u8 107] 5)) = .ok (.slice (some ⟨w.heap.size + 1 + 1, 0, none⟩) 1 1) (((w.alloc (.cells #[.int .u8 10, .int .u8 0, .int .u8 0, .int .u8 1] 5)).alloc (.cells #[.int .u8 0, .int .u8 80] 5)).alloc (.cells #[.int .u8 107] 5 (1, 2))) := by
    have e : ((w.alloc (.cells #[.int .u8 10, .int .u8 0, .int .u8 0, .int .u8 1] 5)).alloc (.cells #[.int .u8 0, .int .u8 80] 5)).heap.size = w.heap.size + 1 + 1 := by simp
    have := Lib.run_convert_bytes_const (P := Tryz.prog) ((w.alloc (.cells #[.int .u8 10, .int .u8 0, .int .u8 0, .int .u8 1] 5)).alloc (.cells #[.int .u8 0, .int .u8 80] 5)) 26 5 #[.int .u8 107] 1 1 Tryz.underlying26 Tryz.underlying5
    rw [e] at this
    exact this
  clear ht hK
  go_enter Tryz.func7, Tryz.ntmps7
  go_wp2_with fail
  obtain ⟨W, hW⟩ : ∃ W, W = (((w.alloc (.cells (bv [10, 0, 0, 1]).toArray 5)).alloc (.cells (bv [0, 80]).toArray 5)).alloc (.cells (bv [107]).toArray 5 (1, 2))).alloc (.cells (awakeCells w.heap.size) 45) := ⟨_, rfl⟩
  have hbW : Below w.heap.size w W := by rw [hW]; exact ((((Below.refl _ w).alloc (Nat.le_refl _) _).alloc (by simp) _).alloc (by simp; omega) _).alloc (by simp; omega) _
  have hHS : HS W W.heap.size (some ⟨w.heap.size + 1 + 1 + 1, 0, none⟩) 3 3 (awakeHops w.heap.size ++ [awakeLast w.heap.size]) := by
    rw [hW]
    exact awake_hs ((((Blk.new w _ _).alloc _).alloc _).alloc _) (((Blk.new_ (by simp) _ _).alloc _).alloc _) ((Below.heap_alloc _ _ _ (by simp)).trans (alloc_at (by simp) _)) (Blk.new_ (by simp) _ _)
  have HBW := Lib.hid hbW
  have HA := Lib.hid (addrof_any _ 3 3 _ W hHS (by decide) (fun i hi => by
    have hi3 : i = 0 ∨ i = 1 ∨ i = 2 := by simp [awakeHops, awakeLast] at hi; omega
    rcases hi3 with rfl | rfl | rfl <;> simp [awakeHops, awakeLast]))
  change Calls _ _ _ ((((w.alloc (.cells (bv [10, 0, 0, 1]).toArray 5)).alloc (.cells (bv [0, 80]).toArray 5)).alloc (.cells (bv [107]).toArray 5 (1, 2))).alloc (.cells (awakeCells w.heap.size) 45)) _
  rw [← hW]
  clear hW hbW hHS
  refine HA.out.mono ?_
  rintro e w1 ⟨v, rfl, ho, hb1⟩
  obtain ⟨A1, c1, rfl⟩ := own_slice ho
  have hr1 := RB.of_own ho
  have hb1' := HBW.out.trans (hb1.mono HBW.out.size)
  have HS1 := Lib.hid (isplit_id A1 _ c1 (awakeHops w.heap.size) (awakeLast w.heap.size) w1 (HT.out.below hb1') HOK.out hr1 (by simp [awakeHops]) rfl)
  rw [awake_bytes, awake_id] at HS1
  have HB1 := Lib.hid hb1'
  clear ho hr1 hb1 hb1'
  go_wp2_with fail
  refine HS1.out.mono ?_
  rintro e w2 ⟨A2, c2, A3, c3, rfl, hr2, hr3, hb2⟩
  have HB2 := Lib.hid (HB1.out.trans (hb2.mono HB1.out.size))
  have HR2 := Lib.hid hr2
  have HR3 := Lib.hid hr3
  clear hr2 hr3 hb2
  have hn := RB.of_blk (Blk.new w2 5 (bv [4, 10, 0, 0, 1, 6, 0, 80]).toArray) (by decide)
  have HE1 := Lib.hid (equal_any A2 _ _ c2 _ _ _ _ _ (HR2.out.alloc (.cells (bv [4, 10, 0, 0, 1, 6, 0, 80]).toArray 5)) hn)
  have HBX := Lib.hid (HB2.out.alloc HB2.out.size (.cells (bv [4, 10, 0, 0, 1, 6, 0, 80]).toArray 5))
  clear hn
  go_wp2_with fail
  refine HE1.out.mono ?_
  rintro e w3 ⟨rfl, rfl⟩
  have hr3 := HR3.out.alloc (.cells (bv [4, 10, 0, 0, 1, 6, 0, 80]).toArray 5)
  obtain ⟨w3, hw3⟩ : ∃ w3, w3 = w2.alloc (.cells (bv [4, 10, 0, 0, 1, 6, 0, 80]).toArray 5) := ⟨_, rfl⟩
  rw [← hw3] at hr3 HBX ⊢
  have HE2 := Lib.hid (equal_any A3 _ _ c3 _ _ _ _ _ (hr3.alloc (.cells (bv [0, 1, 107]).toArray 5)) (RB.of_blk (Blk.new w3 5 (bv [0, 1, 107]).toArray) (by decide)))
  have HBY := Lib.hid (HBX.out.alloc HBX.out.size (.cells (bv [0, 1, 107]).toArray 5))
  clear hw3 hr3 HE1
  go_wp2_with fail
  refine HE2.out.mono ?_
  rintro e w4 ⟨rfl, rfl⟩
  go_wp2_with fail
  go_ret
  exact ⟨rfl, HBY.out⟩
theorem last_of (hs : List Hop) (h : hs.length ≠ 0) : ∃ hs' h', hs = hs' ++ [h'] := by
  have hne : hs ≠ [] := by rintro rfl; exact h rfl
  exact ⟨hs.dropLast, hs.getLast hne, (List.dropLast_concat_getLast hne).symm⟩
end Go.Proofs.YthpcfnegfdcbjaaGreatDoor

/- Words for lists of byte slices: a slice whose block's type is known; slices of slices. No condition. -/
namespace Go.Proofs.YthpcfnegfdcbjaaGreatDoor
open Go.RowKit
/-- A part that reads as bytes, in a block of bytes. -/
structure TB (w : World) (p : Part) : Prop where
  rb : RB w w.heap.size p.A p.n p.c p.l
  ty : ∀ ad, p.A = some ad → ∃ cs fr, w.heap[ad.block]? = some (.cells cs 5 fr)
theorem heap_lt {w : World} {g : Nat} {o : Obj} (h : w.heap[g]? = some o) : g < w.heap.size := by
  rcases Nat.lt_or_ge g w.heap.size with hlt | hge
  · exact hlt
  · rw [Array.getElem?_eq_none hge] at h; cases h
theorem TB.below {w w' : World} {p : Part} (h : TB w p) (hb : Below w.heap.size w w') : TB w' p :=
  ⟨h.rb.next hb, fun ad e => by
    obtain ⟨cs, fr, hc⟩ := h.ty ad e
    exact ⟨cs, fr, (hb.block _ (heap_lt hc)).trans hc⟩⟩
theorem TB.kept {w w' : World} {p : Part} {row : Option Nat} (h : TB w p) (hg : w.grownBy w' row) (hne : ∀ ad, p.A = some ad → some ad.block ≠ row) : TB w' p := by
  refine ⟨⟨⟨h.rb.reads.1, fun hn => ?_⟩, h.rb.cap, h.rb.max⟩, fun ad e => ?_⟩
  · obtain ⟨ad, e, hlt, hc⟩ := h.rb.reads.2 hn
    exact ⟨ad, e, Nat.lt_of_lt_of_le hlt hg.size, fun j u hu => (World.cell?_of_block (hg.block _ (by rw [block_of_add]; exact hlt) (by rw [block_of_add]; exact hne ad e))).trans (hc j u hu)⟩
  · obtain ⟨cs, fr, hc⟩ := h.ty ad e
    exact ⟨cs, fr, (hg.block _ (heap_lt hc) (hne ad e)).trans hc⟩
theorem TB.grown {w w' : World} {p : Part} {base : Nat} {e : TypeId} {size n : Nat} {v : Value} {xs : List Value} (h : TB w p) (ho : w.ownsRow base e size v n xs) (hne : e ≠ 5) (hg : w.grownBy w' v.ownBlock) : TB w' p :=
  h.kept hg fun ad e1 e2 => by
    obtain ⟨cs, fr, hc⟩ := h.ty ad e1
    rcases ho.2 with ⟨rfl, _⟩ | ⟨g, cap, cur, rfl, _, hh, _⟩
    · simp [Value.ownBlock] at e2
    · simp [Value.ownBlock] at e2
      rw [e2, hh] at hc
      injection hc with hc
      injection hc with _ ht
      exact hne ht
theorem TB.of_own {w : World} {base : Nat} {A : Option Addr} {c : Nat} {l : List UInt8} (h : w.ownsRow base 5 1 (.slice A l.length c) l.length (bv l)) : TB w ⟨A, l.length, c, l⟩ :=
  ⟨RB.of_own h, fun ad e => by
    rcases h.2 with ⟨hv, _⟩ | ⟨g, cap, cur, hv, _, hh, _⟩
    · injection hv with hA
      rw [hA] at e
      cases e
    · injection hv with hA
      rw [hA] at e
      injection e with e
      subst e
      exact ⟨_, _, hh⟩⟩
theorem own_own_ne {w : World} {b b' : Nat} {e e' : TypeId} {s s' n n' : Nat} {v v' : Value} {xs xs' : List Value} (h : w.ownsRow b e s v n xs) (h' : w.ownsRow b' e' s' v' n' xs') (hne : e ≠ e') : v.ownBlock = none ∨ v.ownBlock ≠ v'.ownBlock := by
  rcases h.2 with ⟨rfl, _⟩ | ⟨g, cap, cur, rfl, _, hh, _⟩
  · exact .inl rfl
  · rcases h'.2 with ⟨rfl, _⟩ | ⟨g', cap', cur', rfl, _, hh', _⟩
    · exact .inr (by simp [Value.ownBlock])
    · refine .inr fun e1 => ?_
      simp [Value.ownBlock] at e1
      subst e1
      rw [hh] at hh'
      injection hh' with hh'
      injection hh' with _ ht
      exact hne ht
def TBs (w : World) (ps : List Part) : Prop := ∀ p ∈ ps, TB w p
theorem TBs.snoc {w : World} {ps : List Part} {p : Part} (h : TBs w ps) (hp : TB w p) : TBs w (ps ++ [p]) := fun x hx => by
  rcases List.mem_append.1 hx with hx | hx
  · exact h x hx
  · simp at hx; subst hx; exact hp
/-- The cells of slices; of peers without addresses. -/
def partCells (ps : List Part) : List Value := ps.map Part.v
def peerCells (ps : List Part) : List Value := ps.flatMap fun p => [p.v, .slice none 0 0]
theorem partCells_snoc (ps : List Part) (p : Part) : partCells (ps ++ [p]) = partCells ps ++ [p.v] := by simp [partCells]
theorem peerCells_snoc (ps : List Part) (p : Part) : peerCells (ps ++ [p]) = peerCells ps ++ [p.v, .slice none 0 0] := by simp [peerCells]
theorem partCells_length (ps : List Part) : (partCells ps).length = ps.length := by simp [partCells]
theorem peerCells_cons (p : Part) (ps : List Part) : peerCells (p :: ps) = p.v :: .slice none 0 0 :: peerCells ps := by simp [peerCells]
theorem peerCells_length (ps : List Part) : (peerCells ps).length = ps.length * 2 := by
  induction ps with
  | nil => rfl
  | cons h hs ih => rw [peerCells_cons]; simp only [List.length_cons, ih]; omega
theorem partCells_one (ps : List Part) : ∀ u ∈ partCells ps, u.oneCell' = true := by
  intro u hu
  simp only [partCells, List.mem_map] at hu
  obtain ⟨x, _, rfl⟩ := hu
  rfl
theorem peerCells_get (ps : List Part) : ∀ i (hi : i < ps.length), (peerCells ps)[i * 2]? = some (ps[i]).v ∧ (peerCells ps)[i * 2 + 1]? = some (.slice none 0 0) := by
  induction ps with
  | nil => intro i hi; exact absurd hi (by simp)
  | cons h hs ih =>
    intro i hi
    rw [peerCells_cons]
    rcases i with _ | i
    · exact ⟨rfl, rfl⟩
    · have := ih i (by simpa using hi)
      rw [show (i + 1) * 2 = i * 2 + 1 + 1 by omega]
      simpa using this
/-- Peers without addresses, as the package has them; strings. -/
def strV (l : List UInt8) : Value := .string ⟨l.toArray⟩
def infoCells (ls : List (List UInt8)) : List Value := ls.flatMap fun l => [strV l, .slice none 0 0]
theorem infoCells_cons (l : List UInt8) (ls : List (List UInt8)) : infoCells (l :: ls) = strV l :: .slice none 0 0 :: infoCells ls := by simp [infoCells]
theorem infoCells_snoc (ls : List (List UInt8)) (l : List UInt8) : infoCells (ls ++ [l]) = infoCells ls ++ [strV l, .slice none 0 0] := by simp [infoCells]
theorem infoCells_length (ls : List (List UInt8)) : (infoCells ls).length = ls.length * 2 := by
  induction ls with
  | nil => rfl
  | cons h hs ih => rw [infoCells_cons]; simp only [List.length_cons, ih]; omega
theorem infoCells_get (ls : List (List UInt8)) : ∀ i (hi : i < ls.length), (infoCells ls)[i * 2]? = some (strV ls[i]) ∧ (infoCells ls)[i * 2 + 1]? = some (.slice none 0 0) := by
  induction ls with
  | nil => intro i hi; exact absurd hi (by simp)
  | cons h hs ih =>
    intro i hi
    rw [infoCells_cons]
    rcases i with _ | i
    · exact ⟨rfl, rfl⟩
    · have := ih i (by simpa using hi)
      rw [show (i + 1) * 2 = i * 2 + 1 + 1 by omega]
      simpa using this
/-- Strings set one by one in a row of empty ones. -/
def strRow (ls : List (List UInt8)) (k : Nat) : List Value := (ls.take k).map strV ++ List.replicate (ls.length - k) (strV [])
theorem strRow_length (ls : List (List UInt8)) (k : Nat) (hk : k ≤ ls.length) : (strRow ls k).length = ls.length := by simp [strRow]; omega
theorem strRow_set (ls : List (List UInt8)) (k : Nat) (hk : k < ls.length) : (strRow ls k).set k (strV ls[k]) = strRow ls (k + 1) := by
  unfold strRow
  have hl : ((ls.take k).map strV).length = k := by simp; omega
  rw [List.set_append_right _ _ (by omega), hl, Nat.sub_self, List.take_succ_eq_append_getElem hk, List.map_append, List.append_assoc]
  congr 1
  rw [show ls.length - k = (ls.length - (k + 1)) + 1 by omega, List.replicate_succ, List.set_cons_zero]
  rfl
theorem strRow_all (ls : List (List UInt8)) : strRow ls ls.length = ls.map strV := by simp [strRow]
/-- A slice of slices of bytes, below block B. -/
structure LS (w : World) (B : Nat) (A : Option Addr) (n c : Nat) (ps : List Part) : Prop where
  len : ps.length = n
  cap : n ≤ c
  max : c ≤ maxLen
  at_ : ∀ i (hi : i < ps.length), ∃ ad, A = some ad ∧ ad.block < B ∧ w.cell? (ad.add i) = some (ps[i]).v ∧ RB w B (ps[i]).A (ps[i]).n (ps[i]).c (ps[i]).l
theorem LS.below {w w' : World} {B : Nat} {A : Option Addr} {n c : Nat} {ps : List Part} (h : LS w B A n c ps) (hb : Below B w w') : LS w' B A n c ps :=
  ⟨h.len, h.cap, h.max, fun i hi => by
    obtain ⟨ad, e, hlt, c0, hr⟩ := h.at_ i hi
    exact ⟨ad, e, hlt, (hb.cell (by rw [block_of_add]; exact hlt)).trans c0, hr.below hb⟩⟩
theorem LS.more {w : World} {B B' : Nat} {A : Option Addr} {n c : Nat} {ps : List Part} (h : LS w B A n c ps) (hB : B ≤ B') : LS w B' A n c ps :=
  ⟨h.len, h.cap, h.max, fun i hi => by
    obtain ⟨ad, e, hlt, c0, hr⟩ := h.at_ i hi
    exact ⟨ad, e, by omega, c0, hr.more hB⟩⟩
theorem LS.of_own {w : World} {base : Nat} {e : TypeId} {A : Option Addr} {n c : Nat} {ps : List Part} (h : w.ownsRow base e 1 (.slice A n c) n (partCells ps)) (hr : TBs w ps) : LS w w.heap.size A n c ps := by
  have hrd := Reads.of_own h
  have hln : ps.length = n := by have := hrd.1; rw [partCells_length] at this; omega
  refine ⟨hln, ?_, ?_, fun i hi => ?_⟩
  · rcases h.2 with ⟨hv, h0⟩ | ⟨g, cap, cur, hv, _, _, hle, _⟩
    · injection hv with _ h1 hc; omega
    · injection hv with _ _ hc; omega
  · rcases h.2 with ⟨hv, h0⟩ | ⟨g, cap, cur, hv, _, _, _, hle, _⟩
    · injection hv with _ _ hc; subst hc; simp [maxLen]
    · injection hv with _ _ hc; subst hc; exact hle
  · obtain ⟨ad, e1, hlt, hc⟩ := hrd.2 (by omega)
    exact ⟨ad, e1, hlt, hc i _ (by simp [partCells, hi]), (hr _ (List.getElem_mem hi)).rb⟩
end Go.Proofs.YthpcfnegfdcbjaaGreatDoor

/- Facts of types, and of a text turned to bytes. No condition. -/
namespace Go.Proofs.YthpcfnegfdcbjaaGreatDoor
open Go.RowKit
theorem aslice_info : (Tryz.prog.info? 26).map (fun i => (i.zero, i.size, i.bytes)) = some (some (.slice none 0 0), 1, 24) := by kernel_rfl
theorem pinfo_size : (Tryz.prog.info? 63).map (·.size) = some 2 := by kernel_rfl
theorem conv_id_tb (w : World) (L : List UInt8) (h : L.length ≤ 1000000) : ∃ c w', (convert 60 26 (.string ⟨L.toArray⟩)).run Tryz.prog w = .ok (.slice (some ⟨w.heap.size, 0, none⟩) L.length c) w' ∧
    TB w' ⟨some ⟨w.heap.size, 0, none⟩, L.length, c, L⟩ ∧ Below w.heap.size w w' ∧ w.heap.size < w'.heap.size := by
  refine ⟨grownCap w L.length 0 5, Lib.bytesWorld w 5 ⟨L.toArray⟩, ?_, ⟨RB.of_bytesWorld w 5 L (by unfold maxLen; omega), fun ad e => by injection e with e; subst e; exact ⟨_, _, Lib.bytesWorld_at_new w 5 _⟩⟩, below_bytesWorld _ _ _, by rw [Lib.bytesWorld_size]; omega⟩
  exact Lib.run_convert_string_bytes (P := Tryz.prog) w 60 26 5 ⟨L.toArray⟩ Tryz.underlying60 Tryz.underlying26 Tryz.underlying5
theorem own_caps {w : World} {base : Nat} {e : TypeId} {size n c : Nat} {A : Option Addr} {xs : List Value} (h : w.ownsRow base e size (.slice A n c) n xs) : n ≤ c ∧ c ≤ maxLen := by
  rcases h.2 with ⟨hv, h0⟩ | ⟨g, cap, cur, hv, _, _, hle, hmx, _⟩
  · injection hv with _ h1 hc
    subst hc
    exact ⟨by omega, by simp [maxLen]⟩
  · injection hv with _ _ hc
    subst hc
    exact ⟨hle, hmx⟩
end Go.Proofs.YthpcfnegfdcbjaaGreatDoor

/- slices.EqualFunc of lists of byte slices. -/
namespace Go.Proofs.YthpcfnegfdcbjaaGreatDoor
open Go.RowKit
attribute [local go_sem ↓] Go.wp_at_zero Go.wp_at_succ
set_option maxRecDepth 100000 in
set_option maxHeartbeats 2000000 in
theorem eqfunc_any (A B : Option Addr) (n c d : Nat) (ps qs : List Part) (w : World) (h : LS w w.heap.size A n c ps) (h' : LS w w.heap.size B n d qs) (he : ps.map (·.l) = qs.map (·.l)) :
    Calls Tryz.prog 27 #[.slice A n c, .slice B n d, .func (Fn.func 19) #[] #[]] w fun e w' => e = .returned (.bool true) ∧ Below w.heap.size w w' := by
  have HH := Lib.hid h
  have HK := Lib.hid h'
  have HL := Lib.hid h.len
  have HE := Lib.hid he
  have hmx : n ≤ 9223372036854775807 := Nat.le_trans h.cap h.max
  clear h h' he
  go_enter Tryz.func27, Tryz.ntmps27
  go_wp2_with fail
  go_loopw [17] (fun i wr => ∃ k : Nat, k ≤ n ∧ i = .int .i64 k ∧ Below w.heap.size w wr) (fun i _ => n - (intOf i).toNat)
  case atStart => exact ⟨0, by omega, rfl, Below.refl _ _⟩
  case round =>
    obtain ⟨k, hk, rfl, hb⟩ := hrel
    have HB := Lib.hid hb
    clear hb
    by_cases hlt : k < n
    · have hkp : k < ps.length := by rw [HL.out]; exact hlt
      have hkq : k < qs.length := by rw [HK.out.len]; exact hlt
      have hel : (ps[k]).l = (qs[k]).l := by
        have := congrArg (fun x => x[k]?) HE.out
        simpa [hkp, hkq] using this
      obtain ⟨ad, rfl, hbk, c0, hr⟩ := (HH.out.below HB.out).at_ k hkp
      obtain ⟨bd, rfl, hbk', c1, hr'⟩ := (HK.out.below HB.out).at_ k hkq
      generalize ps[k] = p at *
      generalize qs[k] = q at *
      unfold Part.v at c0 c1
      have heq := equal_any p.A q.A p.n p.c q.n q.c p.l q.l wr (hr.more HB.out.size) (hr'.more HB.out.size)
      rw [hel, beq_self_eq_true] at heq
      have HEQ := Lib.hid heq
      clear hr hr' hel heq hkp hkq
      go_wp2_with fail
      refine HEQ.out.mono ?_
      rintro e w3 ⟨rfl, rfl⟩
      go_wp2_with fail
      go_roundw
      case rel => exact ⟨k + 1, by omega, by go_num, HB.out⟩
      case measure => simp [intOf]; omega
    · go_wp2_with fail
      go_ret
      exact ⟨rfl, HB.out⟩
end Go.Proofs.YthpcfnegfdcbjaaGreatDoor

/- strings.Builder: the bytes written are kept in their order. No condition. -/
namespace Go.Proofs.YthpcfnegfdcbjaaGreatDoor
open Go.RowKit
/-- A builder in block b that holds the bytes l. -/
def Bld (w : World) (B b : Nat) (l : List UInt8) : Prop := Lib.IsBuilder 88 5 B b (Lib.byteCells l) w
/-- Blocks that are neither the builder's nor rows of bytes stay. -/
def Keeps (b : Nat) (w w' : World) : Prop := ∀ k t cs, t ≠ 5 → k ≠ b → Blk w k t cs → Blk w' k t cs
theorem Keeps.refl (b : Nat) (w : World) : Keeps b w w := fun _ _ _ _ _ h => h
theorem Keeps.trans {b : Nat} {w w1 w2 : World} (h : Keeps b w w1) (h2 : Keeps b w1 w2) : Keeps b w w2 := fun k t cs ht hk hb => h2 k t cs ht hk (h k t cs ht hk hb)
theorem Keeps.set_ (b i : Nat) (u : Value) (w : World) : Keeps b w (w.setCell ⟨b, i, none⟩ u) := fun _ _ _ _ hk hb => hb.far hk u
theorem Keeps.alloc (b : Nat) (w : World) (o : Obj) : Keeps b w (w.alloc o) := fun _ _ _ _ _ hb => hb.alloc o
theorem Keeps.grown {b B n : Nat} {v : Value} {xs : List Value} {w w' : World} (hg : w.grownBy w' v.ownBlock) (ho : w.ownsRow B 5 1 v n xs) : Keeps b w w' := fun _ _ _ ht _ hb => hb.grown hg (fun e => own_blk_ne ho hb (fun e2 => ht e2.symm) e.symm)
theorem size_bld : (Tryz.prog.info? 88).map (·.size) = some 2 := by kernel_rfl
theorem lies_bld : liesAt Tryz.prog Tryz.prog.depth 88 (2 / Tryz.prog.cellsOf 88) 0 88 1 = true := by kernel_rfl
set_option maxHeartbeats 2000000 in
set_option maxRecDepth 100000 in
theorem bcheck_x (B b : Nat) (bs : List Value) (w : World) (h : Lib.IsBuilder 88 5 B b bs w) : Calls Tryz.prog 82 #[.pointer (some ⟨b, 0, none⟩)] w fun e w' =>
    e = .returned (.tuple #[]) ∧ Lib.BuilderAt 88 5 B b (.pointer (some ⟨b, 0, none⟩)) bs w' ∧ Below B w w' ∧ Keeps b w w' := by
  obtain ⟨j, hj, hjs⟩ := Option.map_eq_some_iff.1 size_bld
  rcases h with h | h
  · have h0 := h.cell0
    have hsh := h.shape
    have hfz := h.frozen0
    have HH := Lib.hid h
    clear h
    go_enter Tryz.func82, Tryz.ntmps82
    go_wp2_with fail
    rw [Lib.run_to_unsafe w ⟨b, 0, none⟩ Tryz.underlying86 Tryz.underlying173 hj (by rw [hjs]; decide) hsh (Nat.zero_lt_succ 1)]
    simp only [Result.andThen]
    rw [Oper.upon_value]
    go_wp2_with fail
    rw [run_callFunc_extern Tryz.func102 (by kernel_rfl) (by kernel_rfl) (by kernel_rfl) (e := Extern.AbiNoEscape.same) (by kernel_rfl), Lib.run_noEscape]
    simp only [Result.andThen]
    rw [Oper.upon_value]
    go_wp2_with fail
    rw [Lib.run_from_unsafe w ⟨b, 0, none⟩ Tryz.underlying173 Tryz.underlying86 hj hsh lies_bld]
    simp only [Result.andThen]
    rw [Oper.upon_value]
    go_wp2_with fail
    go_end0
    exact ⟨rfl, HH.out.used _, (Below.refl B w).setCell (p := ⟨b, 0, none⟩) HH.out.1 _, Keeps.set_ b 0 _ w⟩
  · have h0 := h.cell0
    have HH := Lib.hid h
    clear h
    go_enter Tryz.func82, Tryz.ntmps82
    go_wp2_with fail
    rw [Lib.run_neq_ptr_same w _ Tryz.underlying86 hj]
    go_wp2_with fail
    go_end0
    exact ⟨rfl, HH.out, Below.refl B _, Keeps.refl b _⟩
set_option maxHeartbeats 2000000 in
set_option maxRecDepth 100000 in
theorem bstr_x (B b : Nat) (bs : List Value) (s : ByteArray) (w : World) (h : Lib.IsBuilder 88 5 B b bs w) (hlen : bs.length + s.size ≤ 140737488355328) (hBw : B ≤ w.heap.size) :
    Calls Tryz.prog 59 #[.pointer (some ⟨b, 0, none⟩), .string s] w fun e w' => e = .returned (.tuple #[.int .i64 s.size, .nilIface]) ∧ Lib.BuilderAt 88 5 B b (.pointer (some ⟨b, 0, none⟩)) (bs ++ Lib.strCells s) w' ∧ Below B w w' ∧ Keeps b w w' := by
  obtain ⟨i0, hi, hz0, hz1, hz2⟩ := info_parts u8_info
  have HC := Lib.hid (bcheck_x B b bs w h)
  clear h
  go_enter Tryz.func59, Tryz.ntmps59
  go_wp2_with (go_at_call 82; go_loud (refine HC.out.mono ?_))
  rintro e w1 ⟨rfl, h1, hb1, hk1⟩
  obtain ⟨hB, v, hbk, hown, hne⟩ := h1
  have c0 : w1.cell? ⟨b, 0, none⟩ = some (.pointer (some ⟨b, 0, none⟩)) := by rw [Lib.cell_of_heap hbk]; rfl
  have c1 : w1.cell? ⟨b, 1, none⟩ = some v := by rw [Lib.cell_of_heap hbk]; rfl
  go_wp2_with (at_builtin; refine Lib.wpList_append_own_string _ rfl _ _ 26 9 rfl B 5 i0 Tryz.underlying26 Tryz.underlying9 hi hz0 hz1 hz2 _ _ _ rfl hown s rfl ?c3 ?c4 ?c5 ?_)
  case c3 => unfold maxLen; omega
  case c4 => omega
  case c5 => have := hb1.size; omega
  intro v' w2 hown' hgrow _
  have hlt : b < w1.heap.size := Lib.BuilderAt.lt ⟨hB, v, hbk, hown, hne⟩
  have hb2 : w2.heap[b]? = some (.cells #[.pointer (some ⟨b, 0, none⟩), v] 88 (0, 0)) := by
    rw [hgrow.block b hlt (fun e => hne e.symm)]
    exact hbk
  have d0 : w2.cell? ⟨b, 0, none⟩ = some (.pointer (some ⟨b, 0, none⟩)) := by rw [Lib.cell_of_heap hb2]; rfl
  have d1 : w2.cell? ⟨b, 1, none⟩ = some v := by rw [Lib.cell_of_heap hb2]; rfl
  have f1 : w2.frozen? ⟨b, 1, none⟩ = false := Lib.frozen_of_heap hb2 1
  obtain ⟨ao, n', cap, rfl⟩ : ∃ ao n' cap, v' = .slice ao n' cap := by
    rcases hown'.2 with ⟨hv, _⟩ | ⟨g, cap, cur, hv, _⟩
    · exact ⟨_, _, _, hv⟩
    · exact ⟨_, _, _, hv⟩
  have HA := Lib.hid (show Lib.BuilderAt 88 5 B b (.pointer (some ⟨b, 0, none⟩)) (bs ++ Lib.strCells s) (w2.setCell ⟨b, 1, none⟩ (.slice ao n' cap)) from Lib.BuilderAt.put hB hb2 (by simpa [Lib.strCells_length] using hown') (by decide))
  have HB := Lib.hid (show Below B w (w2.setCell ⟨b, 1, none⟩ (.slice ao n' cap)) from (hb1.grown hgrow (by have := hb1.size; omega) (fun k hk => (hown.lt k hk).1)).setCell (p := ⟨b, 1, none⟩) hB _)
  have HKP := Lib.hid (show Keeps b w (w2.setCell ⟨b, 1, none⟩ (.slice ao n' cap)) from (hk1.trans (Keeps.grown hgrow hown)).trans (Keeps.set_ b 1 _ w2))
  clear hown hown' hgrow hbk hb2 hne hb1 hk1
  go_wp2_with fail
  go_ret2
  exact ⟨rfl, HA.out, HB.out, HKP.out⟩
set_option maxHeartbeats 2000000 in
set_option maxRecDepth 100000 in
theorem bbyte_x (B b : Nat) (bs : List Value) (c : Int) (w : World) (h : Lib.IsBuilder 88 5 B b bs w) (hlen : bs.length + 1 ≤ 140737488355328) (hBw : B ≤ w.heap.size) :
    Calls Tryz.prog 58 #[.pointer (some ⟨b, 0, none⟩), .int .u8 c] w fun e w' => e = .returned .nilIface ∧ Lib.BuilderAt 88 5 B b (.pointer (some ⟨b, 0, none⟩)) (bs ++ [.int .u8 c]) w' ∧ Below B w w' ∧ Keeps b w w' := by
  obtain ⟨i0, hi, hz0, hz1, hz2⟩ := info_parts u8_info
  have HC := Lib.hid (bcheck_x B b bs w h)
  clear h
  go_enter Tryz.func58, Tryz.ntmps58
  go_wp2_with (go_at_call 82; go_loud (refine HC.out.mono ?_))
  rintro e w1 ⟨rfl, h1, hb1, hk1⟩
  obtain ⟨hB, v, hbk, hown, hne⟩ := h1
  have c0 : w1.cell? ⟨b, 0, none⟩ = some (.pointer (some ⟨b, 0, none⟩)) := by rw [Lib.cell_of_heap hbk]; rfl
  have c1 : w1.cell? ⟨b, 1, none⟩ = some v := by rw [Lib.cell_of_heap hbk]; rfl
  go_wp2_with (at_builtin; refine wpList_append_own _ rfl _ _ 26 rfl B 5 i0 (.int .u8 0) 1 1 Tryz.underlying26 hi hz0 hz1 hz2 rfl (by decide) _ _ _ rfl (hown.alloc _) ⟨w1.heap.size, 0, none⟩ 1 1 [.int .u8 c] rfl rfl ?c1 ?c2 ?c3 ?c4 ?c5 ?_)
  case c1 =>
    intro j u hj
    match j, hj with
    | 0, hj => simp at hj; subst hj; simp [Addr.add]
  case c2 => intro u hu; simp at hu; subst hu; rfl
  case c3 => unfold maxLen; omega
  case c4 => omega
  case c5 => have := hb1.size; simp; omega
  intro v' w2 hown' hgrow _
  have hlt : b < w1.heap.size := Lib.BuilderAt.lt ⟨hB, v, hbk, hown, hne⟩
  have hb2 : w2.heap[b]? = some (.cells #[.pointer (some ⟨b, 0, none⟩), v] 88 (0, 0)) := by
    rw [hgrow.block b (by simp; omega) (fun e => hne e.symm), Lib.alloc_old w1 _ b hlt]
    exact hbk
  have d0 : w2.cell? ⟨b, 0, none⟩ = some (.pointer (some ⟨b, 0, none⟩)) := by rw [Lib.cell_of_heap hb2]; rfl
  have d1 : w2.cell? ⟨b, 1, none⟩ = some v := by rw [Lib.cell_of_heap hb2]; rfl
  have f1 : w2.frozen? ⟨b, 1, none⟩ = false := Lib.frozen_of_heap hb2 1
  obtain ⟨g, cap, rfl⟩ : ∃ g cap, v' = .slice (some ⟨g, 0, none⟩) (bs.length + 1) cap := by
    rcases hown'.2 with ⟨_, h0⟩ | ⟨g, cap, cur, hv, _⟩
    · omega
    · exact ⟨g, cap, hv⟩
  have HA := Lib.hid (show Lib.BuilderAt 88 5 B b (.pointer (some ⟨b, 0, none⟩)) (bs ++ [.int .u8 c]) (w2.setCell ⟨b, 1, none⟩ (.slice (some ⟨g, 0, none⟩) (bs.length + 1) cap)) from Lib.BuilderAt.put hB hb2 (by simpa using hown') (by decide))
  have HB := Lib.hid (show Below B w (w2.setCell ⟨b, 1, none⟩ (.slice (some ⟨g, 0, none⟩) (bs.length + 1) cap)) from ((hb1.alloc (by have := hb1.size; omega) _).grown hgrow (by have := hb1.size; simp; omega) (fun k hk => (hown.lt k hk).1)).setCell (p := ⟨b, 1, none⟩) hB _)
  have HKP := Lib.hid (show Keeps b w (w2.setCell ⟨b, 1, none⟩ (.slice (some ⟨g, 0, none⟩) (bs.length + 1) cap)) from ((hk1.trans (Keeps.alloc b w1 _)).trans (Keeps.grown hgrow (hown.alloc _))).trans (Keeps.set_ b 1 _ w2))
  clear hown hown' hgrow hbk hb2 hne hb1 hk1
  go_wp2_with fail
  go_ret
  exact ⟨rfl, HA.out, HB.out, HKP.out⟩
end Go.Proofs.YthpcfnegfdcbjaaGreatDoor
