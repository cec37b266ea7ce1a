/- FnAddrIDs: the walk. -/
import Derived.Test.YtpddelepoaichaaGreatDoorPu
import Derived.Test.YtpddelepoaichaaGreatDoorQf
namespace Go.Proofs.YtpddelepoaichaaGreatDoor
open Go.RowKit
attribute [local go_sem ↓] Go.wp_at_zero Go.wp_at_succ
set_option maxRecDepth 100000 in
set_option maxHeartbeats 2000000 in
theorem fits4_any (A : Option Addr) (n c : Nat) (ps : List Part) (w : World) (h : LS w w.heap.size A n c ps) : Calls Tryz.prog 20 #[.slice A n c] w (OutT w) := by
  have HH := Lib.hid h
  have HL := Lib.hid h.len
  clear h
  go_enter Tryz.func20, Tryz.ntmps20
  by_cases hn : n ≤ 2147483647
  · have hd : decide ((2147483647 : Int) < (n : Int)) = false := by simp; omega
    go_wp2_with fail
    go_loopw [10] (fun i wr => ∃ k : Nat, k ≤ n ∧ i = .int .i64 k ∧ Below w.heap.size w wr) (fun i _ => n - (intOf i).toNat)
    case atStart => exact ⟨0, by omega, rfl, Below.refl _ _⟩
    case round =>
      obtain ⟨k, hk, rfl, hb⟩ := hrel
      have HB := Lib.hid hb
      clear hb
      by_cases hlt : k < n
      · obtain ⟨ad, rfl, hbk, c0, _⟩ := (HH.out.below HB.out).at_ k (by rw [HL.out]; exact hlt)
        generalize ps[k]'(by rw [HL.out]; exact hlt) = p at *
        unfold Part.v at c0
        by_cases hp : p.n ≤ 2147483647
        · have hd2 : decide ((2147483647 : Int) < (p.n : Int)) = false := by simp; omega
          go_wp2_with fail
          exact ⟨⟨k + 1, by omega, by go_num, HB.out⟩, by simp [intOf]; omega⟩
        · have hd2 : decide ((2147483647 : Int) < (p.n : Int)) = true := by simp; omega
          go_wp2_with fail
          go_ret
          exact ⟨_, rfl, HB.out⟩
      · go_wp2_with fail
        go_ret
        exact ⟨_, rfl, HB.out⟩
  · have hd : decide ((2147483647 : Int) < (n : Int)) = true := by simp; omega
    go_wp2_with fail
    go_ret
    exact ⟨_, rfl, Below.refl _ _⟩
set_option maxRecDepth 100000 in
set_option maxHeartbeats 2000000 in
theorem eqfunc_any (A B : Option Addr) (n c d : Nat) (ps qs : List Part) (w : World) (h : LS w w.heap.size A n c ps) (h' : LS w w.heap.size B n d qs) (he : ps.map (·.l) = qs.map (·.l)) :
    Calls Tryz.prog 21 #[.slice A n c, .slice B n d, .func (Fn.func 16) #[] #[]] w fun e w' => e = .returned (.bool true) ∧ Below w.heap.size w w' := by
  have HH := Lib.hid h
  have HK := Lib.hid h'
  have HL := Lib.hid h.len
  have HE := Lib.hid he
  have hmx : n ≤ 9223372036854775807 := Nat.le_trans h.cap h.max
  clear h h' he
  go_enter Tryz.func21, Tryz.ntmps21
  go_wp2_with fail
  go_loopw [17] (fun i wr => ∃ k : Nat, k ≤ n ∧ i = .int .i64 k ∧ Below w.heap.size w wr) (fun i _ => n - (intOf i).toNat)
  case atStart => exact ⟨0, by omega, rfl, Below.refl _ _⟩
  case round =>
    obtain ⟨k, hk, rfl, hb⟩ := hrel
    have HB := Lib.hid hb
    clear hb
    by_cases hlt : k < n
    · have hkp : k < ps.length := by rw [HL.out]; exact hlt
      have hkq : k < qs.length := by rw [HK.out.len]; exact hlt
      have hel : (ps[k]).l = (qs[k]).l := by
        have := congrArg (fun x => x[k]?) HE.out
        simpa [hkp, hkq] using this
      obtain ⟨ad, rfl, hbk, c0, hr⟩ := (HH.out.below HB.out).at_ k hkp
      obtain ⟨bd, rfl, hbk', c1, hr'⟩ := (HK.out.below HB.out).at_ k hkq
      generalize ps[k] = p at *
      generalize qs[k] = q at *
      unfold Part.v at c0 c1
      have heq := equal_any p.A q.A p.n p.c q.n q.c p.l q.l wr (hr.more HB.out.size) (hr'.more HB.out.size)
      rw [hel, beq_self_eq_true] at heq
      have HEQ := Lib.hid heq
      clear hr hr' hel heq hkp hkq
      go_wp2_with fail
      refine HEQ.out.mono ?_
      rintro e w3 ⟨rfl, rfl⟩
      go_wp2_with fail
      go_roundw
      case rel => exact ⟨k + 1, by omega, by go_num, HB.out⟩
      case measure => simp [intOf]; omega
    · go_wp2_with fail
      go_ret
      exact ⟨rfl, HB.out⟩
set_option maxRecDepth 100000 in
set_option maxHeartbeats 4000000 in
theorem law_ids (A : Option Addr) (n c : Nat) (ps : List Part) (w : World) (h : LS w w.heap.size A n c ps) :
    Calls Tryz.prog 7 #[.slice A n c] w fun e w' => e = .returned (.bool true) ∧ Below w.heap.size w w' := by
  have HAW := fun w6 (hb : Below w.heap.size w w6) => (awake (K := 100) w6 (Nat.le_refl _) ⟨fun h => absurd h (by decide)⟩).mono fun e w' (h1 : e = .returned (.bool true) ∧ Below w6.heap.size w6 w') => (⟨h1.1, hb.trans (h1.2.mono hb.size)⟩ : e = .returned (.bool true) ∧ Below w.heap.size w w')
  have HFIN := Lib.hid HAW
  have HF := Lib.hid (fits4_any A n c ps w h)
  have HH := Lib.hid h
  have HL := Lib.hid h.len
  clear h HAW
  go_enter Tryz.func7, Tryz.ntmps7
  go_wp2_with fail
  refine HF.out.mono ?_
  rintro e w1 ⟨b, rfl, hb1⟩
  have HB1 := Lib.hid hb1
  clear hb1
  cases b
  · go_wp2_with fail
    go_ret
    exact ⟨rfl, HB1.out⟩
  by_cases h60 : n ≤ 60
  · have hd : decide ((60 : Int) < (n : Int)) = false := by simp; omega
    obtain ⟨i0, hi0, hz0, hz1, hz2⟩ := info_parts iinfo_info
    obtain ⟨j0, hj0, jz0, jz1, jz2⟩ := info_parts aslice_info
    go_wp2_with fail
    go_loopw [3, 4, 17] (fun pv wv i wr => ∃ k : Nat, k ≤ n ∧ i = .int .i64 k ∧ ∃ qs : List Part, qs.length = k ∧ (∀ q ∈ qs, q.l.length ≤ 1000) ∧ wr.ownsRow w1.heap.size 40 2 pv k (peerCells qs) ∧ wr.ownsRow w1.heap.size 26 1 wv k (partCells qs) ∧ TBs wr qs ∧ Below w1.heap.size w1 wr) (fun _ _ i _ => n - (intOf i).toNat)
    case atStart => exact ⟨0, by omega, rfl, [], rfl, fun x hx => by simp at hx, World.ownsRow_nil _ _ _ _, World.ownsRow_nil _ _ _ _, fun x hx => by simp at hx, Below.refl _ _⟩
    case round =>
      obtain ⟨k, hk, rfl, qs, hql, hqs, ho1, ho2, htb, hb⟩ := hrel
      have HQL := Lib.hid hql
      have HQS := Lib.hid hqs
      have HO1 := Lib.hid ho1
      have HO2 := Lib.hid ho2
      have HTB := Lib.hid htb
      have HB2 := Lib.hid hb
      have HBW := Lib.hid (HB1.out.trans (hb.mono HB1.out.size))
      clear hql hqs ho1 ho2 htb hb
      by_cases hlt : k < n
      · obtain ⟨ad, rfl, hbk, c0, hr⟩ := (HH.out.below HBW.out).at_ k (by rw [HL.out]; exact hlt)
        generalize ps[k]'(by rw [HL.out]; exact hlt) = p at *
        unfold Part.v at c0
        have HR := Lib.hid (hr.more HBW.out.size)
        clear hr
        by_cases h100 : p.n ≤ 100
        · have hd2 : decide ((100 : Int) < (p.n : Int)) = false := by simp; omega
          have hid := id_any p.A p.n p.c p.l wr HR.out (by omega)
          obtain ⟨I, hI⟩ : ∃ I, I = idOf p.l := ⟨_, rfl⟩
          have hI1 : I.length ≤ 44 := by rw [hI]; exact idOf_le p.l
          rw [← hI] at hid
          have HID := Lib.hid hid
          clear hid hI
          go_wp2_with fail
          refine HID.out.mono ?_
          rintro e w3 ⟨v3, rfl, ho3, hb3⟩
          obtain ⟨A3, c3, rfl⟩ := own_slice ho3
          have HT3 := Lib.hid (TB.of_own ho3)
          have HB3 := Lib.hid hb3
          have hb4 := (Below.refl _ w3).alloc (Nat.le_refl _) (.cells #[.slice A3 I.length c3, .slice none 0 0] 40)
          have HB4 := Lib.hid (hb3.trans (hb4.mono hb3.size))
          have HP4 := Lib.hid (own_below HO1.out HB4.out)
          have HW4 := Lib.hid (own_below HO2.out HB4.out)
          have HT4 := Lib.hid (HT3.out.below hb4)
          have HRN := Lib.hid (reads_new w3 #[.slice A3 I.length c3, .slice none 0 0] 40 2 1 rfl)
          clear ho3 hb3 hb4
          go_wp2_with (at_builtin; refine wpList_append_any _ rfl (.tmp 27) (.tmp 30) _ rfl w1.heap.size 40 i0 _ 2 48 Tryz.underlying44 hi0 hz0 hz1 hz2 rfl (by decide) _ _ _ rfl HP4.out _ _ 1 1 _ rfl HRN.out ?c0 ?c1 ?c2 ?c3 ?_)
          case c0 => intro u hu; simp at hu; rcases hu with rfl | rfl <;> rfl
          case c1 => unfold maxLen; omega
          case c2 => omega
          case c3 => exact Nat.le_trans HB2.out.size (by have := HB4.out.size; simpa using this)
          intro v5 w5 hown5 hgrow5 _hat5
          have hp5 : w5.ownsRow w1.heap.size 40 2 v5 (k + 1) (peerCells (qs ++ [⟨A3, I.length, c3, I⟩])) := by rw [peerCells_snoc]; exact hown5
          have hw5 := HW4.out.kept hgrow5 (own_own_ne HW4.out HP4.out (by decide))
          have ht5 : TBs w5 (qs ++ [⟨A3, I.length, c3, I⟩]) := TBs.snoc (fun x hx => (((HTB.out x hx).below HB4.out).grown HP4.out (by decide) hgrow5)) (HT4.out.grown HP4.out (by decide) hgrow5)
          have hb5 := (HB2.out.trans (HB4.out.mono HB2.out.size)).grown hgrow5 (Nat.le_trans HB2.out.size HB4.out.size) (fun g hg => (HP4.out.lt g hg).1)
          have hb6 := (Below.refl _ w5).alloc (Nat.le_refl _) (.cells #[.slice A3 I.length c3] 26)
          have HP6 := Lib.hid (own_below hp5 hb6)
          have HW6 := Lib.hid (own_below hw5 hb6)
          have HT6 := Lib.hid (show TBs _ _ from fun x hx => (ht5 x hx).below hb6)
          have HB6 := Lib.hid (hb5.trans (hb6.mono hb5.size))
          have HRN6 := Lib.hid (reads_new w5 #[.slice A3 I.length c3] 26 1 1 rfl)
          clear hown5 hgrow5 _hat5 hp5 hw5 ht5 hb5 hb6
          go_wp2_with (at_builtin; refine wpList_append_any _ rfl (.tmp 32) (.tmp 34) _ rfl w1.heap.size 26 j0 _ 1 24 Tryz.underlying38 hj0 jz0 jz1 jz2 rfl (by decide) _ _ _ rfl HW6.out _ _ 1 1 _ rfl HRN6.out ?c0 ?c1 ?c2 ?c3 ?_)
          case c0 => rfl
          case c1 => unfold maxLen; omega
          case c2 => omega
          case c3 => have := HB6.out.size; simpa using this
          intro v7 w7 hown7 hgrow7 _hat7
          have hw7 : w7.ownsRow w1.heap.size 26 1 v7 (k + 1) (partCells (qs ++ [⟨A3, I.length, c3, I⟩])) := by rw [partCells_snoc]; exact hown7
          have HW7 := Lib.hid hw7
          have HP7 := Lib.hid (HP6.out.kept hgrow7 (own_own_ne HP6.out HW6.out (by decide)))
          have HT7 := Lib.hid (show TBs w7 (qs ++ [⟨A3, I.length, c3, I⟩]) from fun x hx => (HT6.out x hx).grown HW6.out (by decide) hgrow7)
          have HB7 := Lib.hid (HB6.out.grown hgrow7 HB6.out.size (fun g hg => (HW6.out.lt g hg).1))
          clear hown7 hgrow7 _hat7 hw7
          go_wp2_with fail
          go_roundw
          case rel =>
            refine ⟨k + 1, by omega, by go_num, qs ++ [⟨A3, I.length, c3, I⟩], by rw [List.length_append, HQL.out]; rfl, fun q hq => ?_, HP7.out, HW7.out, HT7.out, HB7.out⟩
            rcases List.mem_append.1 hq with hq | hq
            · exact HQS.out q hq
            · simp at hq
              subst hq
              show I.length ≤ 1000
              omega
          case measure => simp [intOf]; omega
        · have hd2 : decide ((100 : Int) < (p.n : Int)) = true := by simp; omega
          go_wp2_with fail
          refine (HFIN.out _ HBW.out).mono ?_
          rintro e w9 ⟨rfl, hb9⟩
          have HB9 := Lib.hid hb9
          clear hb9
          go_wp2_with fail
          go_ret
          exact ⟨rfl, HB9.out⟩
      · have hkn : k = n := by omega
        have hqn := HQL.out
        rw [hkn] at hqn
        have HQN := Lib.hid hqn
        have ho1 := HO1.out
        have ho2 := HO2.out
        rw [hkn] at ho1 ho2
        clear HO1 HO2 hqn
        subst hkn
        obtain ⟨A1, c1, rfl⟩ := own_slice ho1
        obtain ⟨A2, c2, rfl⟩ := own_slice ho2
        have HLS := Lib.hid (LS.of_own ho2 HTB.out)
        have HAI := Lib.hid (addrids_any qs A1 k c1 wr (Reads.of_own ho1) HTB.out HQN.out (by omega) HQS.out)
        clear ho1 ho2
        go_wp2_with fail
        refine HAI.out.mono ?_
        rintro e w3 ⟨A4, c4, rs, rfl, hls, hmap, hb3⟩
        have HE := Lib.hid (eqfunc_any A4 A2 k c4 c2 rs qs w3 hls ((HLS.out.below hb3).more hb3.size) hmap)
        have HB3 := Lib.hid (HBW.out.trans (hb3.mono HBW.out.size))
        clear hls hmap hb3
        go_wp2_with fail
        refine HE.out.mono ?_
        rintro e w4 ⟨rfl, hb4⟩
        have HB4 := Lib.hid (HB3.out.trans (hb4.mono HB3.out.size))
        clear hb4
        go_wp2_with fail
        refine (HFIN.out _ HB4.out).mono ?_
        rintro e w9 ⟨rfl, hb9⟩
        have HB9 := Lib.hid hb9
        clear hb9
        go_wp2_with fail
        go_ret
        exact ⟨rfl, HB9.out⟩
  · have hd : decide ((60 : Int) < (n : Int)) = true := by simp; omega
    go_wp2_with fail
    refine (HFIN.out _ HB1.out).mono ?_
    rintro e w9 ⟨rfl, hb9⟩
    have HB9 := Lib.hid hb9
    clear hb9
    go_wp2_with fail
    go_ret
    exact ⟨rfl, HB9.out⟩
end Go.Proofs.YtpddelepoaichaaGreatDoor
