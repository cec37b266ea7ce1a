/- Component.Value, Component.writeTo: a part's text. -/
import Derived.Test.YthpcfnegfdcbjaaGreatDoorMv
import Derived.Test.YthpcfnegfdcbjaaGreatDoorMo
import Derived.Test.YthpcfnegfdcbjaaGreatDoorMk
import Derived.Test.YthpcfnegfdcbjaaGreatDoorSi
import Derived.Test.YthpcfnegfdcbjaaGreatDoorPr
import Derived.Test.YthpcfnegfdcbjaaGreatDoorPh
import Derived.Test.YthpcfnegfdcbjaaGreatDoorMg
import Derived.BigQuiet
import Derived.Test.YthpcfnegfdcbjaaGreatDoorXf
namespace Go.Proofs.YthpcfnegfdcbjaaGreatDoor
open Go.RowKit
variable {K : Nat}
attribute [local go_sem ↓] Go.wp_at_zero Go.wp_at_succ
set_option maxHeartbeats 2000000 in
set_option maxRecDepth 100000 in
theorem cvalue_x (kd : Nat) (l : List UInt8) (q p g : Nat) (w : World) (ht : Tab K w) (hok : HopOk K kd l) (h : Blk w q 91 (ccells (hopBytes kd l) p (vsOf kd))) (hp : Blk w p 99 (pcells (codeOf kd) g)) :
    Calls Tryz.prog 60 #[.pointer (some ⟨q, 0, none⟩)] w fun e w' => ∃ s : List UInt8, e = .returned (.string ⟨s.toArray⟩) ∧ ValTxt kd l s ∧ Below w.heap.size w w' := by
  have HV := Lib.hid (value_hop kd l q p g w ht hok h hp)
  clear ht hok h hp
  go_enter Tryz.func60, Tryz.ntmps60
  go_wp2_with fail
  refine HV.out.mono ?_
  rintro e w1 ⟨s, rfl, ⟨t, rfl, ht⟩, hb⟩
  have HT := Lib.hid ht
  have HB := Lib.hid hb
  clear ht hb
  go_wp2_with fail
  go_ret
  exact ⟨t, rfl, HT.out, HB.out⟩
/-- A part in the text of an address. -/
def hopText (kd : Nat) (s : List UInt8) : List UInt8 := 47 :: nameOf kd ++ (if s = [] then [] else 47 :: s)
theorem bld_below {w w' : World} {B b : Nat} {p : Value} {bs : List Value} (h : Lib.BuilderAt 88 5 B b p bs w) (hb : Below w.heap.size w w') : Lib.BuilderAt 88 5 B b p bs w' := by
  have hlt := h.lt
  obtain ⟨hB, v, h1, h2, h3⟩ := h
  exact ⟨hB, v, (hb.block b hlt).trans h1, own_below h2 hb, h3⟩
theorem strCells_bytes (l : List UInt8) : Lib.strCells ⟨l.toArray⟩ = Lib.byteCells l := by simp [Lib.strCells, Lib.byteCells]
theorem byteCells_append (l m : List UInt8) : Lib.byteCells (l ++ m) = Lib.byteCells l ++ Lib.byteCells m := by simp [Lib.byteCells]
theorem nameOf_le (kd : Nat) : (nameOf kd).length ≤ 11 := by
  have h8 : kd % 8 < 8 := Nat.mod_lt _ (by omega)
  unfold nameOf codeOf
  rcases (by omega : kd % 8 = 0 ∨ kd % 8 = 1 ∨ kd % 8 = 2 ∨ kd % 8 = 3 ∨ kd % 8 = 4 ∨ kd % 8 = 5 ∨ kd % 8 = 6 ∨ kd % 8 = 7) with e | e | e | e | e | e | e | e <;> simp [e, protoOf]
theorem pcells_name (k g : Nat) : (pcells k g)[0]? = some (.string ⟨(protoOf k).name.toArray⟩) := rfl
set_option maxHeartbeats 4000000 in
set_option maxRecDepth 100000 in
theorem writeto_x (kd : Nat) (l : List UInt8) (q p g b : Nat) (T : List UInt8) (w0 w : World) (ht : Tab K w0) (h0 : Below w0.heap.size w0 w) (hok : HopOk K kd l) (h : Blk w q 91 (ccells (hopBytes kd l) p (vsOf kd))) (hp : Blk w p 99 (pcells (codeOf kd) g))
    (hbd : Lib.IsBuilder 88 5 w0.heap.size b (Lib.byteCells T) w) (hqb : q ≠ b) (hpb : p ≠ b) (hT : T.length ≤ 1000000) :
    Calls Tryz.prog 41 #[.pointer (some ⟨q, 0, none⟩), .pointer (some ⟨b, 0, none⟩)] w fun e w' => ∃ s : List UInt8, e = .returned (.tuple #[]) ∧ ValTxt kd l s ∧
      Lib.BuilderAt 88 5 w0.heap.size b (.pointer (some ⟨b, 0, none⟩)) (Lib.byteCells (T ++ hopText kd s)) w' ∧ Below w0.heap.size w0 w' ∧ Keeps b w w' := by
  have c1 : w.cell? ⟨q, 1, none⟩ = some (.pointer (some ⟨p, 0, none⟩)) := h.cell 1
  have HW := Lib.hid (bbyte_x w0.heap.size b (Lib.byteCells T) 47 w hbd (by simp [Lib.byteCells]; omega) h0.size)
  have HT := Lib.hid ht
  have H0 := Lib.hid h0
  have HQ := Lib.hid h
  have HP := Lib.hid hp
  have HOK := Lib.hid hok
  have hnl := nameOf_le kd
  clear h hp hbd ht h0 hok
  go_enter Tryz.func41, Tryz.ntmps41
  go_wp2_with fail
  refine HW.out.mono ?_
  rintro e w1 ⟨rfl, hB1, hb1, hk1⟩
  have hq1 := hk1 q _ _ (by decide) hqb HQ.out
  have hp1 := hk1 p _ _ (by decide) hpb HP.out
  have d1 : w1.cell? ⟨q, 1, none⟩ = some (.pointer (some ⟨p, 0, none⟩)) := hq1.cell 1
  have n1 : w1.cell? ⟨p, 0, none⟩ = some (.string ⟨(nameOf kd).toArray⟩) := (hp1.cell 0).trans (pcells_name _ _)
  have HS := Lib.hid (bstr_x w0.heap.size b _ ⟨(nameOf kd).toArray⟩ w1 (.inr hB1) (by rw [size_toArray]; simp [Lib.byteCells]; omega) (H0.out.trans hb1).size)
  have H01 := Lib.hid (H0.out.trans hb1)
  have HK1 := Lib.hid hk1
  have HQ1 := Lib.hid hq1
  have HP1 := Lib.hid hp1
  clear hq1 hp1 hB1 hb1 hk1 HW c1
  go_wp2_with fail
  refine HS.out.mono ?_
  rintro e w2 ⟨rfl, hB2, hb2, hk2⟩
  have hq2 := hk2 q _ _ (by decide) hqb HQ1.out
  have hp2 := hk2 p _ _ (by decide) hpb HP1.out
  have HV := Lib.hid (cvalue_x kd l q p g w2 (HT.out.below (H01.out.trans hb2)) HOK.out hq2 hp2)
  have H02 := Lib.hid (H01.out.trans hb2)
  have HK2 := Lib.hid (HK1.out.trans hk2)
  have HQ2 := Lib.hid hq2
  have HP2 := Lib.hid hp2
  have HB2 := Lib.hid hB2
  clear hq2 hp2 hB2 hb2 hk2 HS d1 n1
  go_wp2_with fail
  refine HV.out.mono ?_
  rintro e w3 ⟨s, rfl, hs, hb3⟩
  have hB3 := bld_below HB2.out hb3
  have hq3 := HQ2.out.below hb3 HQ2.out.lt
  have hp3 := HP2.out.below hb3 HP2.out.lt
  have d3 : w3.cell? ⟨q, 1, none⟩ = some (.pointer (some ⟨p, 0, none⟩)) := hq3.cell 1
  have n3 : w3.cell? ⟨p, 4, none⟩ = some (.bool false) := (hp3.cell 4).trans rfl
  have H03 := Lib.hid (H02.out.trans (hb3.mono H02.out.size))
  have HK3 := Lib.hid (HK2.out.trans (fun k t cs _ _ hb => hb.below hb3 hb.lt))
  have HB3 := Lib.hid hB3
  have hsl := hs.len
  have HSS := Lib.hid hs
  have hsz := size_toArray s
  clear hs hb3 hB3 hq3 hp3 HV
  by_cases hs0 : s = []
  · have hq27 : ((s.length : Int) == 0) = true := by rw [hs0]; rfl
    have HS0 := Lib.hid hs0
    clear hs0 hsl
    go_wp2_with fail
    refine bodyPost_ret (results_none rfl _ _ _) rfl ?_
    refine ⟨s, rfl, HSS.out, ?_, H03.out, HK3.out⟩
    have := HB3.out
    rw [strCells_bytes] at this
    rw [HS0.out, show Lib.byteCells (T ++ hopText kd []) = Lib.byteCells T ++ [Value.int .u8 47] ++ Lib.byteCells (nameOf kd) by simp [hopText, Lib.byteCells]]
    exact this
  · have hpos : 0 < s.length := List.length_pos_iff.2 hs0
    have hq27 : ((s.length : Int) == 0) = false := by rw [beq_eq_false_iff_ne]; omega
    have HS0 := Lib.hid hs0
    have HW4 := Lib.hid (bbyte_x w0.heap.size b _ 47 w3 (.inr HB3.out) (by simp [Lib.byteCells, Lib.strCells]; omega) H03.out.size)
    clear hs0 HB3
    go_wp2_with fail
    refine HW4.out.mono ?_
    rintro e w4 ⟨rfl, hB4, hb4, hk4⟩
    have HW5 := Lib.hid (bstr_x w0.heap.size b _ ⟨s.toArray⟩ w4 (.inr hB4) (by rw [size_toArray]; simp [Lib.byteCells, Lib.strCells]; omega) (H03.out.trans hb4).size)
    have H04 := Lib.hid (H03.out.trans hb4)
    have HK4 := Lib.hid (HK3.out.trans hk4)
    clear hB4 hb4 hk4 HW4
    go_wp2_with fail
    refine HW5.out.mono ?_
    rintro e w5 ⟨rfl, hB5, hb5, hk5⟩
    have H05 := Lib.hid (H04.out.trans hb5)
    have HK5 := Lib.hid (HK4.out.trans hk5)
    have HB5 := Lib.hid hB5
    clear hB5 hb5 hk5 HW5
    go_wp2_with fail
    go_end0
    refine ⟨s, rfl, HSS.out, ?_, H05.out, HK5.out⟩
    have := HB5.out
    rw [strCells_bytes, strCells_bytes] at this
    rw [show Lib.byteCells (T ++ hopText kd s) = Lib.byteCells T ++ [Value.int .u8 47] ++ Lib.byteCells (nameOf kd) ++ [Value.int .u8 47] ++ Lib.byteCells s by simp [hopText, Lib.byteCells, HS0.out]]
    exact this
end Go.Proofs.YthpcfnegfdcbjaaGreatDoor

/- Multiaddr.String: the text of an address. -/
namespace Go.Proofs.YthpcfnegfdcbjaaGreatDoor
open Go.RowKit
variable {K : Nat}
attribute [local go_sem ↓] Go.wp_at_zero Go.wp_at_succ
/-- The text of parts. -/
def textOf (ps : List (Nat × List UInt8)) : List UInt8 := ps.flatMap fun p => hopText p.1 p.2
/-- The parts' kinds, and texts of their values. -/
def Txts (cs : List (Hop × Nat)) (k : Nat) (ps : List (Nat × List UInt8)) : Prop := ps.length = k ∧ ∀ j (h : j < cs.length) (h2 : j < ps.length), ps[j].1 = (cs[j]).1.kd ∧ ValTxt (cs[j]).1.kd (cs[j]).1.l ps[j].2
theorem Txts.snoc {cs : List (Hop × Nat)} {k : Nat} {ps : List (Nat × List UInt8)} (h : Txts cs k ps) (hk : k < cs.length) {s : List UInt8} (hs : ValTxt (cs[k]).1.kd (cs[k]).1.l s) : Txts cs (k + 1) (ps ++ [((cs[k]).1.kd, s)]) := by
  obtain ⟨h1, h2⟩ := h
  refine ⟨by simp [h1], fun j hj hj2 => ?_⟩
  by_cases e : j < ps.length
  · rw [List.getElem_append_left e]
    exact h2 j hj e
  · obtain rfl : j = k := by simp at hj2; omega
    have : (ps ++ [((cs[j]).1.kd, s)])[j] = ((cs[j]).1.kd, s) := by
      rw [List.getElem_append_right (by omega)]; simp [h1]
    rw [this]
    exact ⟨rfl, hs⟩
theorem textOf_snoc (ps : List (Nat × List UInt8)) (kd : Nat) (s : List UInt8) : textOf (ps ++ [(kd, s)]) = textOf ps ++ hopText kd s := by simp [textOf]
theorem hopText_le (kd : Nat) (s : List UInt8) (hs : s.length ≤ 200) : (hopText kd s).length ≤ 300 := by
  have := nameOf_le kd
  unfold hopText
  split <;> simp <;> omega
set_option maxHeartbeats 4000000 in
set_option maxRecDepth 100000 in
theorem mstr_x (g n c : Nat) (cs : List (Hop × Nat)) (w : World) (ht : Tab K w) (hok : ∀ x ∈ cs, HopOk K x.1.kd x.1.l) (hpr : PR w cs) (h : MS w g n c cs) (hn : n ≤ 1001) :
    Calls Tryz.prog 25 #[.slice (some ⟨g, 0, none⟩) n c] w fun e w' => ∃ ps, e = .returned (.string ⟨(textOf ps).toArray⟩) ∧ Txts cs n ps ∧ (textOf ps).length ≤ 300 * n ∧ Below w.heap.size w w' := by
  have HH := Lib.hid h
  have HL := Lib.hid h.len
  have hgw := h.lt
  have HT := Lib.hid ht
  have HOK := Lib.hid hok
  have HPR := Lib.hid hpr
  clear h ht hok hpr
  go_enter Tryz.func25, Tryz.ntmps25
  go_wp2_with fail
  go_loopw [5, 8] (fun _ iv wr => ∃ (k : Nat) (ps : List (Nat × List UInt8)), k ≤ n ∧ iv = .int .i64 k ∧ Txts cs k ps ∧ (textOf ps).length ≤ 300 * k ∧ Below w.heap.size w wr ∧ Lib.IsBuilder 88 5 w.heap.size w.heap.size (Lib.byteCells (textOf ps)) wr) (fun _ iv _ => n - (intOf iv).toNat)
  case atStart => exact ⟨0, [], by omega, rfl, ⟨rfl, fun j h h2 => by simp at h2⟩, by simp [textOf], (Below.refl _ w).alloc (Nat.le_refl _) _, .inl ⟨Nat.le_refl _, _, heap_alloc_new w _, World.ownsRow_nil _ _ _ _, by simp [Value.ownBlock]⟩⟩
  case round =>
    obtain ⟨k, ps, hk, rfl, htx, hlen, hb, hbd⟩ := hrel
    have HB := Lib.hid hb
    have HTX := Lib.hid htx
    have HBD := Lib.hid hbd
    clear hb htx hbd
    by_cases hlt : k < n
    · have hlt' : k < cs.length := by rw [HL.out]; exact hlt
      have c0 := (HB.out.cell (p := ⟨g, k * 3, none⟩) hgw).trans (HH.out.cell (k * 3 + 0) _ (compCells_get cs k hlt' 0 (by decide)))
      have c1 := (HB.out.cell (p := ⟨g, k * 3 + 1, none⟩) hgw).trans (HH.out.cell (k * 3 + 1) _ (compCells_get cs k hlt' 1 (by decide)))
      have c2 := (HB.out.cell (p := ⟨g, k * 3 + 2, none⟩) hgw).trans (HH.out.cell (k * 3 + 2) _ (compCells_get cs k hlt' 2 (by decide)))
      obtain ⟨pg, hpg⟩ := HPR.out _ (List.getElem_mem hlt')
      have hpb := hpg.lt
      have hpw := hpg.below HB.out hpg.lt
      have hokk := HOK.out _ (List.getElem_mem hlt')
      obtain ⟨X, hX⟩ : ∃ X, X = cs[k] := ⟨_, rfl⟩
      rw [← hX] at c0 c1 c2 hpg hpb hpw hokk
      have HX := Lib.hid hX
      clear hX
      have hsz := HB.out.size
      have HBA := Lib.hid (HB.out.alloc hsz (.cells #[.string ⟨X.1.bytes.toArray⟩, .pointer (some ⟨X.2, 0, none⟩), .int .i64 (vsOf X.1.kd)] 91))
      obtain ⟨W, hW⟩ : ∃ W, W = wr.alloc (.cells #[.string ⟨X.1.bytes.toArray⟩, .pointer (some ⟨X.2, 0, none⟩), .int .i64 (vsOf X.1.kd)] 91) := ⟨_, rfl⟩
      have hbl : w.heap.size < wr.heap.size := by rcases HBD.out with h | h <;> exact h.lt
      have hq : Blk W wr.heap.size 91 (ccells (hopBytes X.1.kd X.1.l) X.2 (vsOf X.1.kd)) := by rw [hW]; exact Blk.new wr _ _
      have hbd2 : Lib.IsBuilder 88 5 w.heap.size w.heap.size (Lib.byteCells (textOf ps)) W := by
        have hbw : Below wr.heap.size wr W := by rw [hW]; exact (Below.refl _ _).alloc (Nat.le_refl _) _
        exact HBD.out.imp (fun h => bld_below h hbw) (fun h => bld_below h hbw)
      have HWT := Lib.hid (writeto_x X.1.kd X.1.l wr.heap.size X.2 pg w.heap.size (textOf ps) w W HT.out (by rw [hW]; exact HBA.out) hokk hq (by rw [hW]; exact hpw.alloc _) hbd2 (by omega) (by omega) (by omega))
      have HWE := Lib.hid hW
      clear hpg hpw hokk hq hbd2 hW HBD
      go_wp2_with fail
      rw [← HWE.out]
      refine HWT.out.mono ?_
      rintro e w2 ⟨s, rfl, hs, hB2, hb2, _⟩
      have hsl := hs.len
      have hhl := hopText_le X.1.kd s hsl
      rw [HX.out] at hs
      have HS := Lib.hid hs
      have HB2 := Lib.hid hB2
      have HBB := Lib.hid hb2
      clear hs hB2 hb2
      go_wp2_with fail
      go_roundw
      case rel =>
        refine ⟨k + 1, ps ++ [(X.1.kd, s)], by omega, by go_num, ?_, ?_, HBB.out, .inr ?_⟩
        · have := HTX.out.snoc hlt' HS.out
          rw [← HX.out] at this
          exact this
        · rw [textOf_snoc, List.length_append]; omega
        · rw [textOf_snoc]; exact HB2.out
      case measure => simp [intOf] <;> omega
    · obtain rfl : n = k := by omega
      have HS := Lib.hid (Tryz.Builder_String_any w.heap.size w.heap.size (textOf ps) wr HBD.out HB.out.size)
      go_wp2_with fail
      refine HS.out.mono ?_
      rintro e w2 ⟨rfl, hb2⟩
      have HB2 := Lib.hid (HB.out.trans hb2)
      clear hb2
      go_wp2_with fail
      go_ret
      exact ⟨ps, rfl, HTX.out, hlen, HB2.out⟩
end Go.Proofs.YthpcfnegfdcbjaaGreatDoor

/- zzIndex, zzTrimRight at the sign '/'. No condition. -/
namespace Go.Proofs.YthpcfnegfdcbjaaGreatDoor
open Go.RowKit
attribute [local go_sem ↓] Go.wp_at_zero Go.wp_at_succ
theorem extract_one (S : List UInt8) (i : Nat) (h : i < S.length) : (⟨S.toArray⟩ : ByteArray).extract i (i + 1) = ⟨#[S[i]]⟩ := by
  have h1 : (⟨S.toArray⟩ : ByteArray).extract i (i + 1) = ⟨(S.toArray).extract i (i + 1)⟩ := by
    apply ByteArray.ext
    simp [ByteArray.extract, ByteArray.copySlice]
  rw [h1]
  congr 1
  simp
  rw [List.take_one, List.head?_drop, List.getElem?_eq_getElem h]
  rfl
set_option maxHeartbeats 2000000 in
set_option maxRecDepth 100000 in
theorem index_at (S : List UInt8) (n : Nat) (v : Int) (hS : S.length ≤ 1000000) (hn : ∀ k (h : k < S.length), k < n → S[k] ≠ 47) (hv : (∃ h : n < S.length, S[n] = 47 ∧ v = n) ∨ (S.length ≤ n ∧ v = -1)) (w : World) : Calls Tryz.prog 95 #[.string ⟨S.toArray⟩, .string ⟨#[47]⟩] w fun e w' => e = .returned (.int .i64 v) ∧ w = w' := by
  have hsz := size_toArray S
  have HN := Lib.hid hn
  have HV := Lib.hid hv
  clear hn hv
  go_enter Tryz.func95, Tryz.ntmps95
  go_wp2_with fail
  go_loopw [5] (fun i wq => ∃ j : Nat, j ≤ S.length ∧ j ≤ n ∧ i = .int .i64 j ∧ w = wq) (fun i _ => 1000002 - (intOf i).toNat)
  case atStart => exact ⟨0, by omega, by omega, rfl, rfl⟩
  case round =>
    obtain ⟨j, hj, hjn, rfl, rfl⟩ := hrel
    by_cases hlt : j < S.length
    · have hx := extract_one S j hlt
      have hd : decide ((j : Int) + 1 ≤ (S.length : Int)) = true := decide_eq_true (by omega)
      by_cases hjn2 : j < n
      · have hne : (S[j] == 47) = false := beq_eq_false_iff_ne.2 (HN.out j hlt hjn2)
        generalize S[j] = c at *
        go_wp2_with fail
        go_roundw
        case rel => exact ⟨j + 1, by omega, by omega, by go_num, trivial⟩
        case measure => simp [intOf] <;> omega
      · obtain rfl : j = n := by omega
        rcases HV.out with ⟨_, h47, hv⟩ | ⟨hl, _⟩
        · have hne : (S[j] == 47) = true := by rw [h47]; rfl
          have HV2 := Lib.hid hv
          clear HV hv h47
          generalize S[j] = c at *
          go_wp2_with fail
          go_ret
          exact ⟨by rw [HV2.out]; rfl, rfl⟩
        · exact absurd hlt (by omega)
    · have hd : decide ((j : Int) + 1 ≤ (S.length : Int)) = false := decide_eq_false (by omega)
      have hv1 : v = -1 := by
        rcases HV.out with ⟨hl, _⟩ | ⟨_, hv⟩
        · exact absurd hl (by omega)
        · exact hv
      subst hv1
      go_wp2_with fail
      go_ret
      exact ⟨rfl, rfl⟩
theorem index_first (t r : List UInt8) (ht : ∀ c ∈ t, c ≠ 47) (hl : (t ++ 47 :: r).length ≤ 1000000) (w : World) : Calls Tryz.prog 95 #[.string ⟨(t ++ 47 :: r).toArray⟩, .string ⟨#[47]⟩] w fun e w' => e = .returned (.int .i64 t.length) ∧ w = w' :=
  index_at (t ++ 47 :: r) t.length t.length hl (fun k h hk => by
    rw [List.getElem_append_left hk]
    exact ht _ (List.getElem_mem hk)) (.inl ⟨by simp, by simp, rfl⟩) w
theorem index_none (t : List UInt8) (ht : ∀ c ∈ t, c ≠ 47) (hl : t.length ≤ 1000000) (w : World) : Calls Tryz.prog 95 #[.string ⟨t.toArray⟩, .string ⟨#[47]⟩] w fun e w' => e = .returned (.int .i64 (-1)) ∧ w = w' :=
  index_at t t.length (-1) hl (fun _k h _ => ht _ (List.getElem_mem h)) (.inr ⟨Nat.le_refl _, rfl⟩) w
set_option maxHeartbeats 2000000 in
set_option maxRecDepth 100000 in
theorem trimr_x (S : List UInt8) (c : UInt8) (hS : (S ++ [c]).length ≤ 1000000) (hc : c ≠ 47) (w : World) : Calls Tryz.prog 75 #[.string ⟨(S ++ [c]).toArray⟩, .string ⟨#[47]⟩] w fun e w' => e = .returned (.string ⟨(S ++ [c]).toArray⟩) ∧ Below w.heap.size w w' := by
  obtain ⟨T, hT⟩ : ∃ T, T = S ++ [c] := ⟨_, rfl⟩
  have hsz := size_toArray T
  have hl : T.length = S.length + 1 := by rw [hT]; simp
  have hx := ba_get T S.length c (by rw [hT]; simp)
  have hne : ((47 : Int) == (c.toNat : Int)) = false := by
    rw [beq_eq_false_iff_ne]
    intro e
    exact hc (UInt8.toNat_inj.1 (by have : (47 : UInt8).toNat = 47 := rfl; omega))
  have hxt := extract_take T T.length
  rw [List.take_length] at hxt
  rw [← hT] at hS ⊢
  have h47 : ∀ h2 : 0 < (⟨#[47]⟩ : ByteArray).size, (⟨#[47]⟩ : ByteArray)[0]'h2 = 47 := fun _ => rfl
  have hpos : decide ((0 : Int) < (T.length : Int)) = true := decide_eq_true (by omega)
  obtain ⟨m, hm⟩ : ∃ m, m = S.length := ⟨_, rfl⟩
  rw [← hm] at hx hl
  have hm1 : IntKind.i64.wrap ((T.length : Int) - 1) = (m : Int) := by rw [IntKind.wrap_i64]; omega
  have hmT : m < T.length := by omega
  clear hT hm hl
  go_enter Tryz.func75, Tryz.ntmps75
  go_wp2_with fail
  go_loopw [5, 6, 7] (fun a b c wq => a = .int .i64 T.length ∧ w = wq) (fun _ _ _ _ => 0)
  case atStart => exact ⟨rfl, rfl⟩
  case round =>
    obtain ⟨rfl, rfl⟩ := hrel
    go_wp2_with fail
    go_loopw [6, 7] (fun f i wq => ∃ k : Nat, k ≤ 1 ∧ f = .bool false ∧ i = .int .i64 k ∧ ∃ q, wq = w.drewN q) (fun _ i _ => 3 - (intOf i).toNat)
    case atStart => exact ⟨0, by omega, rfl, rfl, 0, rfl⟩
    case round =>
      obtain ⟨k, hk, rfl, rfl, q, hq⟩ := hrel
      rw [hq]
      clear hq
      rcases (by omega : k = 0 ∨ k = 1) with rfl | rfl
      · rw [show ((0 : Nat) : Int) = 0 from rfl]
        go_wp2_with fail
        go_quiet (fail)
        go_wp2_with fail
        go_roundw
        case rel => exact ⟨1, by omega, rfl, rfl, _, rfl⟩
        case measure => simp [intOf]
      · rw [show ((1 : Nat) : Int) = 1 from rfl]
        go_wp2_with fail
        go_ret
        exact ⟨rfl, below_drewN (Below.refl _ _) _⟩
end Go.Proofs.YthpcfnegfdcbjaaGreatDoor

/- zzSplit at the sign '/': the parts in their order. No condition. -/
namespace Go.Proofs.YthpcfnegfdcbjaaGreatDoor
open Go.RowKit
attribute [local go_sem ↓] Go.wp_at_zero Go.wp_at_succ
/-- Parts, '/' between them. -/
def joinS : List (List UInt8) → List UInt8
  | [] => []
  | [t] => t
  | t :: t2 :: r => t ++ 47 :: joinS (t2 :: r)
def sliceLen : Value → Nat | .slice _ m _ => m | _ => 0
def strs (ts : List (List UInt8)) : List Value := ts.map fun t => .string ⟨t.toArray⟩
theorem str_info : (Tryz.prog.info? 9).map (fun i => (i.zero, i.size, i.bytes)) = some (some (.string ⟨#[]⟩), 1, 16) := by kernel_rfl
theorem strs_one (ts : List (List UInt8)) : ∀ u ∈ strs ts, u.oneCell' = true := fun u hu => by
  obtain ⟨t, _, rfl⟩ := List.mem_map.1 hu
  rfl
set_option maxHeartbeats 2000000 in
set_option maxRecDepth 100000 in
theorem split_x (ts : List (List UInt8)) (hne : ts ≠ []) (h47 : ∀ t ∈ ts, ∀ c ∈ t, c ≠ 47) (hl : (joinS ts).length ≤ 1000000) (hn : ts.length ≤ 1000) (w : World) :
    Calls Tryz.prog 76 #[.string ⟨(joinS ts).toArray⟩, .string ⟨#[47]⟩] w fun e w' => ∃ v, e = .returned v ∧ w'.ownsRow w.heap.size 9 1 v ts.length (strs ts) ∧ Below w.heap.size w w' := by
  obtain ⟨i0, hi, hz0, hz1, hz2⟩ := info_parts str_info
  have H47 := Lib.hid h47
  have HNE := Lib.hid hne
  clear h47 hne
  go_enter Tryz.func76, Tryz.ntmps76
  go_wp2_with fail
  go_loopw [0, 5, 6] (fun s v _ wr => ∃ (dn : List (List UInt8)) (t : List UInt8) (r : List (List UInt8)), dn ++ t :: r = ts ∧ s = .string ⟨(joinS (t :: r)).toArray⟩ ∧ (joinS (t :: r)).length ≤ 1000000 ∧ wr.ownsRow w.heap.size 9 1 v dn.length (strs dn) ∧ Below w.heap.size w wr) (fun _ v _ _ => 1001 - sliceLen v)
  case atStart =>
    rcases ts with _ | ⟨t, r⟩
    · exact absurd rfl HNE.out
    · exact ⟨[], t, r, rfl, rfl, hl, World.ownsRow_nil _ _ _ _, Below.refl _ _⟩
  case round =>
    obtain ⟨dn, t, r, hts, rfl, hjl, hown, hb⟩ := hrel
    have htl : ∀ c ∈ t, c ≠ 47 := H47.out t (by rw [← hts]; simp)
    have hdl : dn.length + (r.length + 1) = ts.length := by rw [← hts]; simp
    obtain ⟨A0, c0, rfl⟩ := own_slice hown
    have HTS := Lib.hid hts
    have HB := Lib.hid hb
    have HO := Lib.hid hown
    clear hts hb hown
    rcases r with _ | ⟨t2, r⟩
    · have HI := Lib.hid (index_none t htl hjl)
      have hsz := size_toArray t
      rw [show joinS [t] = t from rfl] at hjl ⊢
      clear htl
      go_wp2_with (first
        | (go_at_call 95; go_loud (refine (HI.out _).mono ?_; rintro e w' ⟨rfl, rfl⟩))
        | (at_builtin; go_loud (refine wpList_append_own _ rfl _ _ 145 rfl w.heap.size 9 i0 (.string ⟨#[]⟩) 1 16 Tryz.underlying145 hi hz0 hz1 hz2 rfl (by decide) _ _ _ rfl (HO.out.alloc _) ⟨wr.heap.size, 0, none⟩ 1 1 [.string ⟨t.toArray⟩] rfl rfl ?c1 ?c2 ?c3 ?c4 ?c5 ?_)))
      case c1 =>
        intro j u hj
        match j, hj with
        | 0, hj => simp at hj; subst hj; simp [Addr.add]
      case c2 => intro u hu; simp at hu; subst hu; rfl
      case c3 => unfold maxLen; omega
      case c4 => omega
      case c5 => rw [World.size_alloc]; have := HB.out.size; omega
      intro v' w2 hown' hgrow _
      have HB2 := Lib.hid (show Below w.heap.size w w2 from (HB.out.alloc HB.out.size _).grown hgrow (by rw [World.size_alloc]; have := HB.out.size; omega) (fun k hk => (HO.out.lt k hk).1))
      rw [show strs dn ++ [Value.string ⟨t.toArray⟩] = strs (dn ++ [t]) by simp [strs]] at hown'
      have HO2 := Lib.hid hown'
      clear hown' hgrow
      go_wp2_with fail
      go_ret
      refine ⟨_, rfl, ?_, HB2.out⟩
      rw [← HTS.out]
      have := HO2.out
      simpa using this
    · have HI := Lib.hid (index_first t (joinS (t2 :: r)) htl hjl)
      have kx := extract_take (t ++ 47 :: joinS (t2 :: r)) t.length
      rw [List.take_left' rfl] at kx
      have kx2 := extract_drop (t ++ 47 :: joinS (t2 :: r)) (t.length + 1)
      rw [show (t ++ 47 :: joinS (t2 :: r)).drop (t.length + 1) = joinS (t2 :: r) by rw [← List.drop_drop, List.drop_left' rfl]; rfl] at kx2
      have hjl2 : (joinS (t2 :: r)).length ≤ 1000000 := by
        have : (t ++ 47 :: joinS (t2 :: r)).length ≤ 1000000 := hjl
        simp at this; omega
      have hjs : joinS (t :: t2 :: r) = t ++ 47 :: joinS (t2 :: r) := rfl
      rw [hjs]
      have hSl : t.length + 1 ≤ (t ++ 47 :: joinS (t2 :: r)).length := by simp
      have hsz := size_toArray (t ++ 47 :: joinS (t2 :: r))
      have hS6 : (t ++ 47 :: joinS (t2 :: r)).length ≤ 1000000 := hjl
      have HJ2 := Lib.hid hjl2
      have hd0 : decide ((t.length : Int) < 0) = false := decide_eq_false (by omega)
      clear htl hjl hjl2 hjs
      generalize t ++ 47 :: joinS (t2 :: r) = S at *
      have htl : t.length ≤ 1000000 := by omega
      go_wp2_with (first
        | (go_at_call 95; go_loud (refine (HI.out _).mono ?_; rintro e w' ⟨rfl, rfl⟩))
        | (at_builtin; go_loud (refine wpList_append_own _ rfl _ _ 145 rfl w.heap.size 9 i0 (.string ⟨#[]⟩) 1 16 Tryz.underlying145 hi hz0 hz1 hz2 rfl (by decide) _ _ _ rfl (HO.out.alloc _) ⟨wr.heap.size, 0, none⟩ 1 1 [.string ⟨t.toArray⟩] rfl rfl ?c1 ?c2 ?c3 ?c4 ?c5 ?_)))
      case c1 =>
        intro j u hj
        match j, hj with
        | 0, hj => simp at hj; subst hj; simp [Addr.add]
      case c2 => intro u hu; simp at hu; subst hu; rfl
      case c3 => unfold maxLen; omega
      case c4 => omega
      case c5 => rw [World.size_alloc]; have := HB.out.size; omega
      intro v' w2 hown' hgrow _
      have HB2 := Lib.hid (show Below w.heap.size w w2 from (HB.out.alloc HB.out.size _).grown hgrow (by rw [World.size_alloc]; have := HB.out.size; omega) (fun k hk => (HO.out.lt k hk).1))
      rw [show strs dn ++ [Value.string ⟨t.toArray⟩] = strs (dn ++ [t]) by simp [strs]] at hown'
      have HO2 := Lib.hid hown'
      clear hown' hgrow
      obtain ⟨A1, c1, rfl⟩ := own_slice HO2.out
      go_wp2_with fail
      go_roundw
      case rel => exact ⟨dn ++ [t], t2, r, by rw [← HTS.out]; simp, rfl, HJ2.out, by rw [List.length_append]; exact HO2.out, HB2.out⟩
      case measure => simp [sliceLen] <;> omega
end Go.Proofs.YthpcfnegfdcbjaaGreatDoor

/- The text of an address in its tokens. Plain. -/
namespace Go.Proofs.YthpcfnegfdcbjaaGreatDoor
open Go.RowKit
/-- The tokens of a text: names and values. -/
def toks (ps : List (Nat × List UInt8)) : List (List UInt8) := ps.flatMap fun p => nameOf p.1 :: (if p.2 = [] then [] else [p.2])
theorem join_slash : ∀ (t : List UInt8) (ts : List (List UInt8)), joinS (t :: ts) = t ++ ts.flatMap (fun u => 47 :: u)
  | t, [] => by simp [joinS]
  | t, t2 :: r => by
    show t ++ 47 :: joinS (t2 :: r) = _
    rw [join_slash t2 r]
    simp
theorem textOf_toks (ps : List (Nat × List UInt8)) : textOf ps = (toks ps).flatMap (fun u => 47 :: u) := by
  unfold textOf toks
  rw [List.flatMap_assoc]
  congr 1
  funext p
  unfold hopText
  split <;> simp
theorem textOf_join (ps : List (Nat × List UInt8)) : joinS ([] :: toks ps) = textOf ps := by
  rw [join_slash, List.nil_append, textOf_toks]
theorem name_ok (kd : Nat) : nameOf kd ≠ [] ∧ NoSl (nameOf kd) := by
  have h8 : kd % 8 < 8 := Nat.mod_lt _ (by omega)
  unfold nameOf codeOf
  rcases (by omega : kd % 8 = 0 ∨ kd % 8 = 1 ∨ kd % 8 = 2 ∨ kd % 8 = 3 ∨ kd % 8 = 4 ∨ kd % 8 = 5 ∨ kd % 8 = 6 ∨ kd % 8 = 7) with e | e | e | e | e | e | e | e <;> simp [e, protoOf, NoSl]
/-- Tokens as they may stand in a text. -/
def Toks (ts : List (List UInt8)) : Prop := ∀ t ∈ ts, t ≠ [] ∧ NoSl t
theorem toks_ok {cs : List (Hop × Nat)} {n : Nat} {ps : List (Nat × List UInt8)} (h : Txts cs n ps) (hn : n ≤ cs.length) : Toks (toks ps) := fun t ht => by
  obtain ⟨p, hp, ht⟩ := List.mem_flatMap.1 ht
  rcases List.mem_cons.1 ht with rfl | ht
  · exact name_ok p.1
  · obtain ⟨j, hj, rfl⟩ := List.mem_iff_getElem.1 hp
    have hv := (h.2 j (by have := h.1; omega) hj).2
    by_cases e : ps[j].2 = []
    · rw [if_pos e] at ht; simp at ht
    · rw [if_neg e] at ht
      simp at ht
      subst ht
      exact ⟨e, hv.text.1⟩
theorem text_end {ts : List (List UInt8)} (h : Toks ts) (hne : ts ≠ []) : ∃ (S : List UInt8) (c : UInt8), ts.flatMap (fun u => 47 :: u) = S ++ [c] ∧ c ≠ 47 := by
  obtain ⟨r, t, rfl⟩ : ∃ r t, ts = r ++ [t] := ⟨ts.dropLast, ts.getLast hne, (List.dropLast_concat_getLast hne).symm⟩
  obtain ⟨h1, h2⟩ := h t (by simp)
  obtain ⟨t', c, rfl⟩ : ∃ t' c, t = t' ++ [c] := ⟨t.dropLast, t.getLast h1, (List.dropLast_concat_getLast h1).symm⟩
  exact ⟨r.flatMap (fun u => 47 :: u) ++ 47 :: t', c, by simp, h2 c (by simp)⟩
end Go.Proofs.YthpcfnegfdcbjaaGreatDoor

/- The ID of data has two bytes at least. No condition. -/
namespace Go.Proofs.YthpcfnegfdcbjaaGreatDoor
open Go.RowKit
theorem idOf_two (l : List UInt8) : 2 ≤ (idOf l).length := by
  obtain ⟨x, y, v, d, hid, _⟩ := id_form l
  rw [hid]
  simp
end Go.Proofs.YthpcfnegfdcbjaaGreatDoor
