/- Lists of lists of parts: the guards of the laws, and the list of the addresses. -/
import Derived.Test.YtimakhadabenbaaGreatDoorPu
import Derived.Test.YtimakhadabenbaaGreatDoorQm
import Derived.Test.YtimakhadabenbaaGreatDoorEr
namespace Go.Proofs.YtimakhadabenbaaGreatDoor
open Go.RowKit
attribute [local go_sem ↓] Go.wp_at_zero Go.wp_at_succ
set_option maxRecDepth 100000 in
set_option maxHeartbeats 2000000 in
theorem fits3_any (A : Option Addr) (n c : Nat) (rs : List Row) (w : World) (h : RS w w.heap.size A n c rs) : Calls Tryz.prog 4 #[.slice A n c] w (OutT w) := by
  have HH := Lib.hid h
  have HL := Lib.hid h.len
  clear h
  go_enter Tryz.func4, Tryz.ntmps4
  by_cases hn : n ≤ 2147483647
  · have hd : decide ((2147483647 : Int) < (n : Int)) = false := by simp; omega
    go_wp2_with fail
    go_loopw [10] (fun i wr => ∃ k : Nat, k ≤ n ∧ i = .int .i64 k ∧ Below w.heap.size w wr) (fun i _ => n - (intOf i).toNat)
    case atStart => exact ⟨0, by omega, rfl, Below.refl _ _⟩
    case round =>
      obtain ⟨k, hk, rfl, hb⟩ := hrel
      have HB := Lib.hid hb
      clear hb
      by_cases hlt : k < n
      · obtain ⟨ad, rfl, hbk, c0, hr⟩ := (HH.out.below HB.out).at_ k (by rw [HL.out]; exact hlt)
        generalize rs[k]'(by rw [HL.out]; exact hlt) = r at *
        unfold Row.v at c0
        have HF := Lib.hid (fits1_any r.A r.n r.c r.hs wr (hr.more HB.out.size))
        clear hr
        go_wp2_with fail
        refine HF.out.mono ?_
        rintro e w3 ⟨b, rfl, hb3⟩
        have HB3 := Lib.hid (HB.out.trans (hb3.mono HB.out.size))
        clear hb3
        cases b
        · go_wp2_with fail
          go_ret
          exact ⟨_, rfl, HB3.out⟩
        · go_wp2_with fail
          exact ⟨⟨k + 1, by omega, by go_num, HB3.out⟩, by simp [intOf]; omega⟩
      · go_wp2_with fail
        go_ret
        exact ⟨_, rfl, HB.out⟩
  · have hd : decide ((2147483647 : Int) < (n : Int)) = true := by simp; omega
    go_wp2_with fail
    go_ret
    exact ⟨_, rfl, Below.refl _ _⟩
/-- A short list of parts. -/
structure Row.Short (r : Row) : Prop where
  pos : r.n ≠ 0
  le : r.n ≤ 20
  all : ∀ i (hi : i < r.hs.length), (r.hs[i]).n ≤ 100
set_option maxRecDepth 100000 in
set_option maxHeartbeats 2000000 in
theorem shorts_any (A : Option Addr) (n c : Nat) (rs : List Row) (w : World) (h : RS w w.heap.size A n c rs) :
    Calls Tryz.prog 6 #[.slice A n c] w fun e w' => (e = .returned (.bool false) ∨ e = .returned (.bool true) ∧ n ≤ 60 ∧ ∀ i (hi : i < rs.length), (rs[i]).Short) ∧ Below w.heap.size w w' := by
  have hmx : n ≤ 9223372036854775807 := Nat.le_trans h.cap h.max
  have HH := Lib.hid h
  have HL := Lib.hid h.len
  clear h
  go_enter Tryz.func6, Tryz.ntmps6
  go_wp2_with fail
  go_loopw [9] (fun i wr => ∃ k : Nat, k ≤ n ∧ i = .int .i64 k ∧ (∀ i (hi : i < rs.length), i < k → (rs[i]).Short) ∧ Below w.heap.size w wr) (fun i _ => n - (intOf i).toNat)
  case atStart => exact ⟨0, by omega, rfl, fun _ _ h => absurd h (by omega), Below.refl _ _⟩
  case round =>
    obtain ⟨k, hk, rfl, hor, hb⟩ := hrel
    have HB := Lib.hid hb
    have HOR := Lib.hid hor
    clear hb hor
    by_cases hlt : k < n
    · obtain ⟨ad, rfl, hbk, cw, hr⟩ := (HH.out.below HB.out).at_ k (by rw [HL.out]; exact hlt)
      generalize hrk : rs[k]'(by rw [HL.out]; exact hlt) = r at *
      have HRK := Lib.hid hrk
      have HR := Lib.hid hr
      have HRL := Lib.hid hr.len
      unfold Row.v at cw
      clear hrk hr
      by_cases hn0 : r.n = 0
      · have hd0 : ((r.n : Int) == 0) = true := by simp; omega
        clear hn0
        go_wp2_with fail
        go_ret
        exact ⟨Or.inl rfl, HB.out⟩
      · have hd0 : ((r.n : Int) == 0) = false := by simp; omega
        have HN0 := Lib.hid hn0
        clear hn0
        by_cases hn2 : r.n ≤ 20
        · have hd2 : decide ((20 : Int) < (r.n : Int)) = false := by simp; omega
          go_wp2_with fail
          go_loopw [23] (fun i wq => ∃ k : Nat, k ≤ r.n ∧ i = .int .i64 k ∧ (∀ i (hi : i < r.hs.length), i < k → (r.hs[i]).n ≤ 100) ∧ Below w.heap.size w wq ∧ Below wr.heap.size wr wq) (fun i _ => r.n - (intOf i).toNat)
          case atStart => exact ⟨0, by omega, rfl, fun _ _ h => absurd h (by omega), HB.out, Below.refl _ _⟩
          case round =>
            obtain ⟨j, hj, rfl, hall, hbq, hbr⟩ := hrel
            have HBQ := Lib.hid hbq
            have HBR := Lib.hid hbr
            have HALL := Lib.hid hall
            clear hbq hbr hall
            by_cases hjlt : j < r.n
            · obtain ⟨bd, hbd, hbk2, c0, c1, _⟩ := ((HR.out.more HB.out.size).below HBR.out).at_ j (by rw [HRL.out]; exact hjlt)
              generalize hhp : r.hs[j]'(by rw [HRL.out]; exact hjlt) = hp at *
              have HHP := Lib.hid hhp
              clear hhp
              rw [add_succ _ _ 1 (by decide)] at c1
              have HBW := Lib.hid (HBQ.out.alloc HBQ.out.size (.cells #[.int .u8 hp.kd, .slice hp.A hp.n hp.c] 29))
              have HBX := Lib.hid (HBR.out.alloc HBR.out.size (.cells #[.int .u8 hp.kd, .slice hp.A hp.n hp.c] 29))
              by_cases h100 : hp.n ≤ 100
              · have hd3 : decide ((100 : Int) < (hp.n : Int)) = false := by simp; omega
                rw [hbd]
                go_wp2_with fail
                go_roundw
                case rel =>
                  refine ⟨j + 1, by omega, by go_num, fun i hi hik => ?_, HBW.out, HBX.out⟩
                  by_cases e : i = j
                  · subst e; rw [HHP.out]; exact h100
                  · exact HALL.out i hi (by omega)
                case measure => simp [intOf]; omega
              · have hd3 : decide ((100 : Int) < (hp.n : Int)) = true := by simp; omega
                rw [hbd]
                go_wp2_with fail
                go_ret
                exact ⟨Or.inl rfl, HBW.out⟩
            · have hfin : r.Short := ⟨HN0.out, hn2, fun i hi => HALL.out i hi (by have := HRL.out; omega)⟩
              have HF := Lib.hid hfin
              clear hfin
              go_wp2_with fail
              go_roundw
              case rel =>
                refine ⟨k + 1, by omega, by go_num, fun i hi hik => ?_, HBQ.out⟩
                by_cases e : i = k
                · subst e; rw [HRK.out]; exact HF.out
                · exact HOR.out i hi (by omega)
              case measure => simp [intOf]; omega
        · have hd2 : decide ((20 : Int) < (r.n : Int)) = true := by simp; omega
          go_wp2_with fail
          go_ret
          exact ⟨Or.inl rfl, HB.out⟩
    · obtain rfl : n = k := by omega
      have hfin : ∀ i (hi : i < rs.length), (rs[i]).Short := fun i hi => HOR.out i hi (by have := HL.out; omega)
      have HF := Lib.hid hfin
      clear hfin
      by_cases h60 : n ≤ 60
      · have hd60 : decide ((n : Int) ≤ 60) = true := by simp; omega
        go_wp2_with fail
        go_ret
        exact ⟨Or.inr ⟨rfl, h60, HF.out⟩, HB.out⟩
      · have hd60 : decide ((n : Int) ≤ 60) = false := by simp; omega
        go_wp2_with fail
        go_ret
        exact ⟨Or.inl rfl, HB.out⟩
/-- The addresses of lists of parts. -/
def addrsOf (rs : List Row) : List (List UInt8) := rs.map fun r => addrBytes r.hs
set_option maxRecDepth 100000 in
set_option maxHeartbeats 2000000 in
theorem addrlist_any (A : Option Addr) (n c : Nat) (rs : List Row) (w : World) (h : RS w w.heap.size A n c rs) (hn : n ≤ 1000) (hs : ∀ i (hi : i < rs.length), (rs[i]).Short) :
    Calls Tryz.prog 9 #[.slice A n c] w fun e w' => ∃ v qs, e = .returned v ∧ w'.ownsRow w.heap.size 27 1 v n (partCells qs) ∧ qs.map (·.l) = addrsOf rs ∧ TBs w' qs ∧ Below w.heap.size w w' := by
  obtain ⟨j0, hj0, jz0, jz1, jz2⟩ := info_parts aslice_info
  have HH := Lib.hid h
  have HL := Lib.hid h.len
  have HS := Lib.hid hs
  clear h hs
  go_enter Tryz.func9, Tryz.ntmps9
  go_wp2_with fail
  go_loopw [3, 8] (fun v i wr => ∃ k : Nat, k ≤ n ∧ i = .int .i64 k ∧ ∃ qs : List Part, qs.map (·.l) = (addrsOf rs).take k ∧ wr.ownsRow w.heap.size 27 1 v k (partCells qs) ∧ TBs wr qs ∧ Below w.heap.size w wr) (fun _ i _ => n - (intOf i).toNat)
  case atStart => exact ⟨0, by omega, rfl, [], rfl, World.ownsRow_nil _ _ _ _, fun x hx => by simp at hx, Below.refl _ _⟩
  case round =>
    obtain ⟨k, hk, rfl, qs, hqs, hown, htb, hb⟩ := hrel
    have HQ := Lib.hid hqs
    have HO := Lib.hid hown
    have HTB := Lib.hid htb
    have HB := Lib.hid hb
    clear hqs hown htb hb
    by_cases hlt : k < n
    · have hlt' : k < rs.length := by rw [HL.out]; exact hlt
      obtain ⟨ad, rfl, hbk, c0, hr⟩ := (HH.out.below HB.out).at_ k hlt'
      have hsh := HS.out k hlt'
      have htk : (addrsOf rs).take (k + 1) = (addrsOf rs).take k ++ [addrBytes (rs[k]).hs] := by
        rw [List.take_succ_eq_append_getElem (by simp [addrsOf]; exact hlt')]
        simp [addrsOf]
      generalize rs[k] = r at *
      unfold Row.v at c0
      have HTK := Lib.hid htk
      have hle := addrBytes_le r.hs
      have hrl := hr.len
      have hr20 := hsh.le
      have HA := Lib.hid (addrof_any r.A r.n r.c r.hs wr (hr.more HB.out.size) (by omega) (fun i hi => Nat.le_trans (hsh.all i hi) (by decide)))
      have hM1 : (addrBytes r.hs).length ≤ 1000 := by omega
      obtain ⟨M, hM⟩ : ∃ M, M = addrBytes r.hs := ⟨_, rfl⟩
      rw [← hM] at HA HTK hM1
      clear htk hr hsh hle hM hlt' hrl hr20
      go_wp2_with fail
      refine HA.out.mono ?_
      rintro e w3 ⟨v3, rfl, ho3, hb3⟩
      obtain ⟨A3, c3, rfl⟩ := own_slice ho3
      have htb3 := TB.of_own ho3
      have hbq := (Below.refl _ w3).alloc (Nat.le_refl _) (.cells #[.slice A3 M.length c3] 27)
      have HBQ := Lib.hid (hb3.trans (hbq.mono hb3.size))
      have HTQ := Lib.hid (htb3.below hbq)
      have HOO := Lib.hid (own_below HO.out HBQ.out)
      have HRN := Lib.hid (reads_new w3 #[.slice A3 M.length c3] 27 1 1 rfl)
      clear ho3 hb3 htb3 hbq
      go_wp2_with (at_builtin; refine wpList_append_any _ rfl _ _ _ rfl w.heap.size 27 j0 _ 1 24 Tryz.underlying34 hj0 jz0 jz1 jz2 rfl (by decide) _ _ _ rfl HOO.out _ _ 1 1 _ rfl HRN.out ?c0 ?c1 ?c2 ?c3 ?_)
      case c0 => intro u hu; simp at hu; subst hu; rfl
      case c1 => unfold maxLen; omega
      case c2 => omega
      case c3 => exact Nat.le_trans HB.out.size HBQ.out.size
      intro v' w' hown hgrow _hat
      have HBF := Lib.hid ((HB.out.trans (HBQ.out.mono HB.out.size)).grown hgrow (Nat.le_trans HB.out.size HBQ.out.size) (fun g hg => (HOO.out.lt g hg).1))
      have htf : TBs w' (qs ++ [⟨A3, M.length, c3, M⟩]) := TBs.snoc (fun x hx => (((HTB.out x hx).below HBQ.out).grown HOO.out (by decide) hgrow)) (HTQ.out.grown HOO.out (by decide) hgrow)
      have hof : w'.ownsRow w.heap.size 27 1 v' (k + 1) (partCells (qs ++ [⟨A3, M.length, c3, M⟩])) := by
        rw [partCells_snoc]
        exact hown
      have HOF := Lib.hid hof
      have HTF := Lib.hid htf
      clear hown hgrow _hat hof htf
      go_wp2_with fail
      go_roundw
      case rel => exact ⟨k + 1, by omega, by go_num, qs ++ [⟨A3, M.length, c3, M⟩], by rw [List.map_append, HQ.out, HTK.out]; rfl, HOF.out, HTF.out, HBF.out⟩
      case measure => simp [intOf]; omega
    · obtain rfl : k = n := by omega
      have hq2 := HQ.out
      rw [List.take_of_length_le (by simp [addrsOf, HL.out])] at hq2
      have HQ2 := Lib.hid hq2
      clear hq2
      go_wp2_with fail
      go_ret
      exact ⟨_, qs, rfl, HO.out, HQ2.out, HTB.out, HB.out⟩
end Go.Proofs.YtimakhadabenbaaGreatDoor
