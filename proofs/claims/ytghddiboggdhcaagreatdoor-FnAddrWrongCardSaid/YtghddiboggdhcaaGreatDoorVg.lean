/- net/url: a text escaped. Condition: the table of net/url holds bytes. -/
import Derived.Test.YtghddiboggdhcaaGreatDoorVo
import Derived.Test.YtghddiboggdhcaaGreatDoorSj
import Derived.Test.YtghddiboggdhcaaGreatDoorXc
import Derived.Test.YtghddiboggdhcaaGreatDoorPg
import Derived.Test.YtghddiboggdhcaaGreatDoorPa
import Derived.Test.YtghddiboggdhcaaGreatDoorXf
import Derived.Test.YtghddiboggdhcaaGreatDoorVi2
set_option maxRecDepth 100000
set_option maxHeartbeats 8000000
namespace Go.Proofs.YtghddiboggdhcaaGreatDoor
open Go.RowKit
attribute [local go_sem ↓] Go.wp_at_zero Go.wp_at_succ
def UrlT (f : Nat → Int) (w : World) : Prop := ∀ j, j < 256 → w.cell? ⟨20, j, none⟩ = some (.int .u8 (f j))
theorem UrlT.below {f : Nat → Int} {w w' : World} (h : UrlT f w) (hb : Below w.heap.size w w') : UrlT f w' := fun j hj => (hb.cell (World.block_lt_of_cell? _ _ (h j hj))).trans (h j hj)
def se (f : Nat → Int) (c : Nat) : Bool := bits .and .u8 (f c) 32 == 0
theorem shouldesc_x (f : Nat → Int) (c : Nat) (hc : c < 256) (w : World) (ht : UrlT f w) : Calls Tryz.prog 317 #[.int .u8 c, .int .u8 32] w fun e w' => e = .returned (.bool (se f c)) ∧ w = w' := by
  have hcell := ht c hc
  have hci : (c : Int) < 256 := by omega
  clear ht
  unfold se
  go_enter Tryz.func317, Tryz.ntmps317
  go_wp2_with fail
  go_ret
  exact ⟨rfl, rfl⟩
def hexes (f : Nat → Int) : List UInt8 → Nat
  | [] => 0
  | c :: l => (if se f c.toNat && !(c.toNat == 32) then 1 else 0) + hexes f l
theorem hexes_snoc (f : Nat → Int) (l : List UInt8) (c : UInt8) : hexes f (l ++ [c]) = hexes f l + (if se f c.toNat && !(c.toNat == 32) then 1 else 0) := by
  induction l with
  | nil => simp [hexes]
  | cons x l ih => simp only [List.cons_append, hexes, ih]; omega
theorem hexes_take (f : Nat → Int) (S : List UInt8) (j : Nat) (hj : j < S.length) : hexes f (S.take (j + 1)) = hexes f (S.take j) + (if se f (S[j]).toNat && !((S[j]).toNat == 32) then 1 else 0) := by
  rw [List.take_add_one, List.getElem?_eq_getElem hj]
  exact hexes_snoc f _ _
theorem hexes_mono (f : Nat → Int) (S : List UInt8) (j : Nat) : hexes f (S.take j) ≤ hexes f S := by
  induction S generalizing j with
  | nil => simp
  | cons x l ih =>
    cases j with
    | zero => simp [hexes]
    | succ j =>
      simp only [List.take_succ_cons, hexes]
      have := ih j
      omega
theorem conv_rb (S : List UInt8) (hS : S.length ≤ 1000000) (w : World) : ∃ G w', (convert 9 22 (.string ⟨S.toArray⟩)).run Tryz.prog w = .ok (.slice (some ⟨w.heap.size, 0, none⟩) S.length G) w' ∧ RB w' w'.heap.size (some ⟨w.heap.size, 0, none⟩) S.length G S ∧ Below w.heap.size w w' := by
  have hc := Lib.run_convert_string_bytes (P := Tryz.prog) w 9 22 5 ⟨S.toArray⟩ Tryz.underlying9 Tryz.underlying22 Tryz.underlying5
  rw [size_toArray S] at hc
  exact ⟨_, _, hc, RB.of_bytesWorld w 5 S (by unfold maxLen; omega), below_bytesWorld _ _ _⟩
def BufQ (w : World) (b N : Nat) : Prop := ∃ (l : List UInt8) (t : TypeId), l.length = N ∧ Blk w b t (bv l).toArray
theorem BufQ.put {w : World} {b N : Nat} (h : BufQ w b N) (i : Nat) (u : UInt8) : BufQ (w.setCell ⟨b, i, none⟩ (.int .u8 u.toNat)) b N := by
  obtain ⟨l, t, hl, hb⟩ := h
  refine ⟨l.set i u, t, by simp [hl], ?_⟩
  have := hb.set_ i (.int .u8 u.toNat)
  rwa [bvr_set] at this
theorem BufQ.at_ {w : World} {b N : Nat} (h : BufQ w b N) (i : Nat) (hi : i < N) : ∃ v, w.cell? ⟨b, i, none⟩ = some v := by
  obtain ⟨l, t, hl, hb⟩ := h
  exact ⟨.int .u8 (l[i]'(by omega)).toNat, (hb.cell i).trans (by simp [bv, hl, hi])⟩
theorem BufQ.frozen {w : World} {b N : Nat} (h : BufQ w b N) (i : Nat) : w.frozen? ⟨b, i, none⟩ = false := by
  obtain ⟨l, t, hl, hb⟩ := h
  exact hb.frozen i
theorem BufQ.drewN {w : World} {b N : Nat} (h : BufQ w b N) (k : Nat) : BufQ (w.drewN k) b N := by
  obtain ⟨l, t, hl, hb⟩ := h
  exact ⟨l, t, hl, hb.drewN k⟩
theorem BufQ.below {w w' : World} {b N : Nat} (h : BufQ w b N) (hb : Below w.heap.size w w') : BufQ w' b N := by
  obtain ⟨l, t, hl, hk⟩ := h
  exact ⟨l, t, hl, hk.below hb hk.lt⟩
theorem BufQ.text {w : World} {b G : Nat} (h : BufQ w b G) (n : Nat) (hn : n ≤ G) (hm : G ≤ maxLen) : ∃ l : List UInt8, l.length = n ∧ ∀ dst, Tryz.prog.underlying dst = some .string → (convert 22 dst (.slice (some ⟨b, 0, none⟩) n G)).run Tryz.prog w = .ok (.string ⟨l.toArray⟩) w := by
  obtain ⟨L, t, hl, hb⟩ := h
  have hr := (RB.of_fr hb (by omega)).take (k := n) (by omega)
  rw [hl] at hr
  exact ⟨L.take n, by simp [hl, hn], run_convert_RB hr 22 5 Tryz.underlying22 Tryz.underlying5⟩
theorem BufQ.copy {w : World} {b G : Nat} (h : BufQ w b G) (S : List UInt8) (R : Nat) (hS : S.length ≤ R) (hR : R ≤ G) : ∃ w', (∀ ty, (Builtin.copy_ #[22, 9] ty #[.slice (some ⟨b, 0, none⟩) R G, .string ⟨S.toArray⟩]).run Tryz.prog w = .ok (goInt S.length) w') ∧ BufQ w' b G ∧ ∀ B, B ≤ b → Below B w w' := by
  obtain ⟨L, t, hl, hb⟩ := h
  have hs := size_toArray S
  have hz : (bv L).toArray.size = G := by simp [bv, hl]
  refine ⟨w.setRow b (bv (S ++ L.drop S.length)).toArray, fun ty => ?_, ⟨S ++ L.drop S.length, t, by simp; omega, ?_⟩, ?_⟩
  · have := Lib.run_copy_row_string (P := Tryz.prog) w 22 9 ty 5 b 0 R G ⟨S.toArray⟩ _ t Tryz.underlying22 (by kernel_rfl) hb (by rw [hs]; exact hS) (by rw [hs, hz]; omega)
    rw [hs] at this
    rw [this]
    congr 2
    simp [Lib.byteCells, bv]
  · exact hb.row _
  · exact fun B hB => below_setRow (Below.refl _ _) hB _
theorem RB.farV {w : World} {B n c : Nat} {ad p : Addr} {l : List UInt8} (h : RB w B (some ad) n c l) (hp : ad.block ≠ p.block) (u : Value) : RB (w.setCell p u) B (some ad) n c l :=
  ⟨⟨h.reads.1, fun hn => by
    obtain ⟨ad', e, hb, hc⟩ := h.reads.2 hn
    injection e with e
    subst e
    exact ⟨ad, rfl, hb, fun j x hj => (World.cell?_setCell_other w p _ u (fun e => hp (by have := congrArg Addr.block e; rw [block_of_add] at this; first | exact this | exact this.symm))).trans (hc j x hj)⟩⟩, h.cap, h.max⟩
theorem escape_x (f : Nat → Int) (S : List UInt8) (hS : S.length ≤ 10000) (w : World) (ht : UrlT f w) : Calls Tryz.prog 260 #[.string ⟨S.toArray⟩, .int .u8 32] w (OutSN 100000 w) := by
  obtain ⟨G, w1, hcv, hrb, hbw⟩ := conv_rb S (by omega) w
  obtain ⟨n, hn⟩ : ∃ n, n = S.length := ⟨_, rfl⟩
  rw [← hn] at hcv hrb hS
  have HR := Lib.hid hrb
  have HBW := Lib.hid hbw
  have HT := Lib.hid ht
  have HN := Lib.hid hn
  have HCV := Lib.hid (conv_rb S (by omega))
  clear hrb hbw hn ht
  go_enter Tryz.func260, Tryz.ntmps260
  go_wp2_with fail
  go_loopw [5, 6, 8, 19] (fun a h c k wr => ∃ j sp H : Nat, j ≤ n ∧ k = .int .i64 j ∧ a = .int .i64 sp ∧ sp ≤ j ∧ h = .int .i64 H ∧ H ≤ j ∧ H = hexes f (S.take j) ∧ Below w1.heap.size w1 wr) (fun _ _ _ k _ => n - (intOf k).toNat)
  case atStart => exact ⟨0, 0, 0, by omega, rfl, rfl, by omega, rfl, by omega, rfl, Below.refl _ _⟩
  case round =>
    obtain ⟨j, sp, H, hj, rfl, rfl, hsp, rfl, hH, hHe, hb⟩ := hrel
    have HB := Lib.hid hb
    have HHe := Lib.hid hHe
    have HWr := Lib.hid (HBW.out.trans (hb.mono HBW.out.size))
    clear hb hHe hcv
    by_cases hlt : j < n
    · have hjs : j < S.length := by rw [← HN.out]; exact hlt
      have hcell := (HR.out.below HB.out).cellAt j S[j] (by simp [hjs])
      have HX := Lib.hid (hexes_take f S j hjs)
      generalize S[j] = X at hcell HX
      have hXl := X.toNat_lt
      generalize X.toNat = Y at hcell HX hXl
      have HS := Lib.hid (shouldesc_x f Y hXl wr (HT.out.below HWr.out))
      go_wp2_with fail
      refine HS.out.mono ?_
      rintro e w' ⟨rfl, rfl⟩
      rcases Bool.eq_false_or_eq_true (se f Y) with q | q
      · rw [q]
        by_cases h32 : Y = 32
        · subst h32
          go_wp2_with fail
          exact ⟨⟨j + 1, sp + 1, H, by omega, by go_num, by go_num, by omega, rfl, by omega, by rw [HX.out, q, HHe.out]; rfl, HB.out⟩, by simp [intOf]; omega⟩
        · have e1 : ((Y : Int) == 32) = false := by simp; omega
          go_wp2_with fail
          exact ⟨⟨j + 1, sp, H + 1, by omega, by go_num, rfl, by omega, by go_num, by omega, by rw [HX.out, q, HHe.out, if_pos (by simp [h32])], HB.out⟩, by simp [intOf]; omega⟩
      · rw [q]
        go_wp2_with fail
        exact ⟨⟨j + 1, sp, H, by omega, by go_num, rfl, by omega, rfl, by omega, by rw [HX.out, q, HHe.out]; rfl, HB.out⟩, by simp [intOf]; omega⟩
    · obtain rfl : j = n := by omega
      have HHf := Lib.hid (show H = hexes f S by rw [HHe.out, HN.out, List.take_length])
      by_cases hz : sp = 0 ∧ H = 0
      · obtain ⟨rfl, rfl⟩ := hz
        go_wp2_with fail
        go_ret
        exact ⟨S, rfl, by have := HN.out; omega, HWr.out⟩
      · obtain ⟨R, hR⟩ : ∃ R, R = S.length + 2 * H := ⟨_, rfl⟩
        have hR1 : wrap64 ((S.length : Int) + 2 * (H : Int)) = (R : Int) := by have := HN.out; unfold wrap64; omega
        have HRr := Lib.hid hR
        have hRle : R ≤ 30000 := by have := HN.out; omega
        clear hR
        by_cases hH0 : H = 0
        · subst hH0
          have hR0 : wrap64 (S.length : Int) = (R : Int) := by have := HN.out; have := HRr.out; unfold wrap64; omega
          have eS : ((sp : Int) == 0) = false := by simp; omega
          clear hz
          go_upto_if 50 with fail
          go_cut [10] (fun v wc => ∃ b G', v = .slice (some ⟨b, 0, none⟩) R G' ∧ R ≤ G' ∧ G' ≤ maxLen ∧ wr.heap.size ≤ b ∧ BufQ wc b G' ∧ Below wr.heap.size wr wc)
          case first =>
            by_cases h64 : R ≤ 64
            · have e64 : decide ((R : Int) ≤ 64) = true := by simp; omega
              have hal : Tryz.prog.arrayLen 247 = 64 := by kernel_rfl
              have hsl1 : ∀ W, (Instr.sliceAt 247 (.pointer (some ⟨wr.heap.size, 0, none⟩)) none (some (.int .i64 (R : Int))) none).run Tryz.prog W = .ok (.slice (some ⟨wr.heap.size, 0, none⟩) R 64) W := fun W => by
                rw [run_sliceAt_array_h W 247 ⟨wr.heap.size, 0, none⟩ (by kernel_rfl) .i64 (R : Int) (by omega) (by rw [hal]; omega)]
                go_simp
              clear hal
              go_wp2_with fail
              go_meet
              exact ⟨_, 64, rfl, h64, by decide, Nat.le_refl _, ⟨List.replicate 64 0, _, rfl, Blk.new _ _ _⟩, (Below.refl _ wr).alloc (Nat.le_refl _) _⟩
            · have e64 : decide ((R : Int) ≤ 64) = false := by simp; omega
              have hmk := make_zeros R (by omega)
              go_wp2_with fail
              go_meet
              exact ⟨_, R, rfl, Nat.le_refl _, by unfold maxLen; omega, by simp, ⟨List.replicate R 0, _, by simp, Blk.new_ (by simp) _ _⟩, ((Below.refl _ wr).alloc (Nat.le_refl _) _).alloc (by simp) _⟩
          case' rest =>
            obtain ⟨b, G', rfl, hRG, hGm, hbb, hq, hbw⟩ := hcut
            have HQ := Lib.hid hq
            have HW2 := Lib.hid (HWr.out.trans (hbw.mono HWr.out.size))
            have HBB := Lib.hid hbb
            clear hq hbw
            rename_i Q0 K0 hK0
            refine hK0 _ _ ?_
            clear hK0
            clear hR1
            try clear hR0
            have hSl : S.length ≤ 10000 := by have := HN.out; omega
            obtain ⟨w3, hcp, hq3, hb3⟩ := HQ.out.copy S R (by have := HRr.out; omega) hRG
            have HQ3 := Lib.hid hq3
            have HW3 := Lib.hid (HW2.out.trans (hb3 w.heap.size (by have := HBB.out; have := HWr.out.size; omega)))
            clear hq3 hb3
            go_wp2_with fail
            go_loopw [12] (fun i wr => ∃ k : Nat, k ≤ S.length ∧ i = .int .i64 k ∧ BufQ wr b G' ∧ Below w.heap.size w wr) (fun i _ => S.length - (intOf i).toNat)
            case atStart => exact ⟨0, by omega, rfl, HQ3.out, HW3.out⟩
            case round =>
              obtain ⟨k, hk, rfl, hq4, hb4⟩ := hrel
              have HQ4 := Lib.hid hq4
              have HW4 := Lib.hid hb4
              clear hq4 hb4
              by_cases hlt : k < S.length
              · have hx := ba_getq S k S[k] (by simp [hlt])
                obtain ⟨X, hX⟩ : ∃ X, X = S[k] := ⟨_, rfl⟩
                rw [← hX] at hx
                clear hX
                obtain ⟨v, hv⟩ := HQ4.out.at_ k (by have := HRr.out; omega)
                have hf := HQ4.out.frozen k
                have hkR : (k : Int) < (R : Int) := by have := HRr.out; omega
                by_cases h32 : X.toNat = 32
                · have e32 : ((X.toNat : Int) == 32) = true := by simp; omega
                  go_wp2_with fail
                  exact ⟨⟨k + 1, by omega, by go_num, HQ4.out.put k 43, HW4.out.setCell (p := ⟨b, k, none⟩) (by have := HBB.out; have := HWr.out.size; show w.heap.size ≤ b; omega) _⟩, by simp [intOf]; omega⟩
                · have e32 : ((X.toNat : Int) == 32) = false := by simp; omega
                  go_wp2_with fail
                  exact ⟨⟨k + 1, by omega, by go_num, HQ4.out, HW4.out⟩, by simp [intOf]; omega⟩
              · obtain rfl : k = S.length := by omega
                obtain ⟨l, hl, ht⟩ := HQ4.out.text R hRG hGm
                have hcv2 := ht 9 Tryz.underlying9
                clear ht
                go_wp2_with fail
                go_ret
                exact ⟨l, rfl, by omega, HW4.out⟩
        · have eH : ((H : Int) == 0) = false := by simp; omega
          clear hz
          obtain ⟨b1, hb1⟩ : ∃ b1 : Bool, ((sp : Int) == 0) = b1 := ⟨_, rfl⟩
          rcases b1 with _ | _
          all_goals (
          go_upto_if 50 with fail
          go_cut [10] (fun v wc => ∃ b G', v = .slice (some ⟨b, 0, none⟩) R G' ∧ R ≤ G' ∧ G' ≤ maxLen ∧ wr.heap.size ≤ b ∧ BufQ wc b G' ∧ Below wr.heap.size wr wc)
          case first =>
            by_cases h64 : R ≤ 64
            · have e64 : decide ((R : Int) ≤ 64) = true := by simp; omega
              have hal : Tryz.prog.arrayLen 247 = 64 := by kernel_rfl
              have hsl1 : ∀ W, (Instr.sliceAt 247 (.pointer (some ⟨wr.heap.size, 0, none⟩)) none (some (.int .i64 (R : Int))) none).run Tryz.prog W = .ok (.slice (some ⟨wr.heap.size, 0, none⟩) R 64) W := fun W => by
                rw [run_sliceAt_array_h W 247 ⟨wr.heap.size, 0, none⟩ (by kernel_rfl) .i64 (R : Int) (by omega) (by rw [hal]; omega)]
                go_simp
              clear hal
              go_wp2_with fail
              go_meet
              exact ⟨_, 64, rfl, h64, by decide, Nat.le_refl _, ⟨List.replicate 64 0, _, rfl, Blk.new _ _ _⟩, (Below.refl _ wr).alloc (Nat.le_refl _) _⟩
            · have e64 : decide ((R : Int) ≤ 64) = false := by simp; omega
              have hmk := make_zeros R (by omega)
              go_wp2_with fail
              go_meet
              exact ⟨_, R, rfl, Nat.le_refl _, by unfold maxLen; omega, by simp, ⟨List.replicate R 0, _, by simp, Blk.new_ (by simp) _ _⟩, ((Below.refl _ wr).alloc (Nat.le_refl _) _).alloc (by simp) _⟩
          case' rest =>
            obtain ⟨b, G', rfl, hRG, hGm, hbb, hq, hbw⟩ := hcut
            have HQ := Lib.hid hq
            have HW2 := Lib.hid (HWr.out.trans (hbw.mono HWr.out.size))
            have HBB := Lib.hid hbb
            clear hq hbw
            rename_i Q0 K0 hK0
            refine hK0 _ _ ?_
            clear hK0
            clear hR1
            try clear hR0
            have hSl : S.length ≤ 10000 := by have := HN.out; omega
            obtain ⟨G3, w3, hcv3, hrb3, hbw3⟩ := HCV.out wc
            have HR3 := Lib.hid hrb3
            have HW3 := Lib.hid (HW2.out.trans (hbw3.mono HW2.out.size))
            have HQ3 := Lib.hid (HQ.out.below hbw3)
            have hbl : b < wc.heap.size := by obtain ⟨_, _, _, hk⟩ := HQ.out; exact hk.lt
            have HBL := Lib.hid hbl
            clear hrb3 hbw3 hbl
            go_wp2_with fail
            go_loopw [13, 15, 78] (fun jv c k wr => ∃ (i H1 J : Nat), i ≤ S.length ∧ k = .int .i64 i ∧ jv = .int .i64 J ∧ J = i + 2 * H1 ∧ H1 = hexes f (S.take i) ∧ BufQ wr b G' ∧ RB wr wr.heap.size (some ⟨wc.heap.size, 0, none⟩) S.length G3 S ∧ Below w.heap.size w wr) (fun _ _ k _ => S.length - (intOf k).toNat)
            case atStart => exact ⟨0, 0, 0, by omega, rfl, rfl, rfl, rfl, HQ3.out, HR3.out, HW3.out⟩
            case round =>
              obtain ⟨i, H1, J, hi, rfl, rfl, hJ, hH1, hq4, hr4, hb4⟩ := hrel
              have HQ4 := Lib.hid hq4
              have HR4 := Lib.hid hr4
              have HW4 := Lib.hid hb4
              have HH1 := Lib.hid hH1
              clear hq4 hr4 hb4 hH1
              have HJ := Lib.hid hJ
              clear hJ
              by_cases hlt : i < S.length
              · have hcell := HR4.out.cellAt i S[i] (by simp [hlt])
                have HX := Lib.hid (hexes_take f S i hlt)
                have hmo : hexes f (S.take (i + 1)) ≤ H := by rw [HHf.out]; exact hexes_mono f S (i + 1)
                generalize S[i] = X at hcell HX
                have hXl := X.toNat_lt
                obtain ⟨Y, hY⟩ : ∃ Y, Y = X.toNat := ⟨_, rfl⟩
                rw [← hY] at hcell HX hXl
                have HY := Lib.hid hY
                clear hY
                have hle : H1 + (if se f Y && !(Y == 32) then 1 else 0) ≤ H := by rw [HX.out, ← HH1.out] at hmo; exact hmo
                have HS := Lib.hid (fun w h => shouldesc_x f Y hXl w h)
                by_cases h32 : Y = 32
                · subst h32
                  have hJR : J < R := by have := HRr.out; have := HJ.out; omega
                  obtain ⟨v, hv⟩ := HQ4.out.at_ J (by omega)
                  have hf := HQ4.out.frozen J
                  have hkR : (J : Int) < (R : Int) := by omega
                  go_wp2_with fail
                  exact ⟨⟨i + 1, H1, J + 1, by omega, by go_num, by go_num, by have := HJ.out; omega, by rw [HX.out, ← HH1.out]; simp, HQ4.out.put J 43, (HR4.out.farV (p := ⟨b, J, none⟩) (by have := HBL.out; show wc.heap.size ≠ b; omega) _).more (by simp [World.setCell]), HW4.out.setCell (p := ⟨b, J, none⟩) (by have := HBB.out; have := HWr.out.size; show w.heap.size ≤ b; omega) _⟩, by simp [intOf]; omega⟩
                · have e1 : ((Y : Int) == 32) = false := by simp; omega
                  go_wp2_with fail
                  refine (HS.out _ (HT.out.below HW4.out)).mono ?_
                  rintro e w' ⟨rfl, rfl⟩
                  rcases Bool.eq_false_or_eq_true (se f Y) with q | q
                  · rw [q] at hle ⊢
                    have hle2 : H1 + 1 ≤ H := by simpa [h32] using hle
                    have hJR : J + 2 < R := by have := HRr.out; have := HJ.out; omega
                    obtain ⟨v0, hv0⟩ := HQ4.out.at_ J (by omega)
                    have hf0 := HQ4.out.frozen J
                    have hk0 : (J : Int) < (R : Int) := by omega
                    obtain ⟨v1, hv1⟩ := HQ4.out.at_ (J + 1) (by omega)
                    have hf1 := HQ4.out.frozen (J + 1)
                    have hk1 : (J : Int) + 1 < (R : Int) := by omega
                    obtain ⟨v2, hv2⟩ := HQ4.out.at_ (J + 2) (by omega)
                    have hf2 := HQ4.out.frozen (J + 2)
                    have hk2 : (J : Int) + 2 < (R : Int) := by omega
                    have hya : 0 ≤ (Y : Int) / 16 := by omega
                    have hyb : (Y : Int) / 16 < 16 := by omega
                    have hyc : 0 ≤ (Y : Int) % 16 := by omega
                    have hyd : (Y : Int) % 16 < 16 := by omega
                    go_wp2_with fail
                    exact ⟨⟨i + 1, H1 + 1, J + 3, by omega, by go_num, by go_num, by have := HJ.out; omega, by rw [HX.out, ← HH1.out, q]; simp [h32], ((HQ4.out.put J 37).put (J + 1) _).put (J + 2) _, (((HR4.out.farV (p := ⟨b, J, none⟩) (by have := HBL.out; show wc.heap.size ≠ b; omega) _).farV (p := ⟨b, J + 1, none⟩) (by have := HBL.out; show wc.heap.size ≠ b; omega) _).farV (p := ⟨b, J + 2, none⟩) (by have := HBL.out; show wc.heap.size ≠ b; omega) _).more (by simp [World.setCell]), ((HW4.out.setCell (p := ⟨b, J, none⟩) (by have := HBB.out; have := HWr.out.size; show w.heap.size ≤ b; omega) _).setCell (p := ⟨b, J + 1, none⟩) (by have := HBB.out; have := HWr.out.size; show w.heap.size ≤ b; omega) _).setCell (p := ⟨b, J + 2, none⟩) (by have := HBB.out; have := HWr.out.size; show w.heap.size ≤ b; omega) _⟩, by simp [intOf]; omega⟩
                  · rw [q] at hle ⊢
                    have hJR : J < R := by have := HRr.out; have := HJ.out; omega
                    obtain ⟨v, hv⟩ := HQ4.out.at_ J (by omega)
                    have hf := HQ4.out.frozen J
                    have hkR : (J : Int) < (R : Int) := by omega
                    go_wp2_with fail
                    rw [HY.out]
                    exact ⟨⟨i + 1, H1, J + 1, by omega, by go_num, by go_num, by have := HJ.out; omega, by rw [HX.out, ← HH1.out, q]; simp, HY.out ▸ HQ4.out.put J X, (HR4.out.farV (p := ⟨b, J, none⟩) (by have := HBL.out; show wc.heap.size ≠ b; omega) _).more (by simp [World.setCell]), HW4.out.setCell (p := ⟨b, J, none⟩) (by have := HBB.out; have := HWr.out.size; show w.heap.size ≤ b; omega) _⟩, by simp [intOf]; omega⟩
              · obtain rfl : i = S.length := by omega
                obtain ⟨l, hl, ht⟩ := HQ4.out.text R hRG hGm
                have hcv2 := ht 9 Tryz.underlying9
                clear ht
                go_wp2_with fail
                go_ret
                exact ⟨l, rfl, by omega, HW4.out⟩)
end Go.Proofs.YtghddiboggdhcaaGreatDoor
/- Values checked and as text: /http-path, /memory, /ipcidr, names. Condition: the tables of strconv and of net/url. -/
namespace Go.Proofs.YtghddiboggdhcaaGreatDoor
open Go.RowKit
variable {K : Nat}
attribute [local go_sem ↓] Go.wp_at_zero Go.wp_at_succ
theorem qesc_x (f : Nat → Int) (S : List UInt8) (hS : S.length ≤ 10000) (w : World) (ht : UrlT f w) : Calls Tryz.prog 197 #[.string ⟨S.toArray⟩] w (OutSN 100000 w) := by
  have HE := Lib.hid (escape_x f S hS w ht)
  clear ht
  go_enter Tryz.func197, Tryz.ntmps197
  go_wp2_with fail
  refine HE.out.mono ?_
  rintro e w1 ⟨l, rfl, hl, hb⟩
  have HB := Lib.hid (And.intro hl hb)
  clear hb hl
  go_wp2_with fail
  go_ret
  exact ⟨l, rfl, HB.out⟩
theorem http_bts (f : Nat → Int) (A : Option Addr) (n c : Nat) (d : List UInt8) (w : World) (h : RB w w.heap.size A n c d) (hn : n ≤ 10000) (ht : UrlT f w) : Calls Tryz.prog 158 #[.slice A n c] w (OutBS (decide (d.length ≠ 0)) w) := by
  have hl := h.len
  have hcv := run_convert_RB h 22 5 Tryz.underlying22 Tryz.underlying5 9 Tryz.underlying9
  have HE := Lib.hid (fun s => errnew_any s w)
  have HQ := Lib.hid (qesc_x f d (by omega) w ht)
  clear h ht
  rw [hl]
  go_enter Tryz.func158, Tryz.ntmps158
  by_cases h0 : n = 0
  · have e1 : ((n : Int) == 0) = true := by simp; omega
    go_wp2_with fail
    refine (HE.out _).mono ?_
    rintro e w1 ⟨t, v, rfl, hb⟩
    have HB := Lib.hid hb
    clear hb
    go_wp2_with fail
    go_ret2
    exact ⟨.inr ⟨by simp [h0], _, t, v, rfl⟩, HB.out⟩
  · have e1 : ((n : Int) == 0) = false := by simp; omega
    go_wp2_with fail
    refine HQ.out.mono ?_
    rintro e w1 ⟨l, rfl, hl, hb⟩
    have HB := Lib.hid hb
    clear hb hl
    go_wp2_with fail
    go_ret2
    exact ⟨.inl ⟨by simp [h0], _, rfl⟩, HB.out⟩
theorem beNat8_lt (b0 b1 b2 b3 b4 b5 b6 b7 : UInt8) : Lib.beNat [b0, b1, b2, b3, b4, b5, b6, b7] < 18446744073709551616 := by
  have h0 := b0.toNat_lt
  have h1 := b1.toNat_lt
  have h2 := b2.toNat_lt
  have h3 := b3.toNat_lt
  have h4 := b4.toNat_lt
  have h5 := b5.toNat_lt
  have h6 := b6.toNat_lt
  have h7 := b7.toNat_lt
  simp only [Lib.beNat, Lib.beFrom]
  omega
theorem mem_bts (g n c : Nat) (d : List UInt8) (w : World) (h : RB w w.heap.size (some ⟨g, 0, none⟩) n c d) (hK : 18446744073709551616 ≤ K) (ht : Tab K w) : Calls Tryz.prog 167 #[.slice (some ⟨g, 0, none⟩) n c] w (OutBS (decide (d.length = 8)) w) := by
  have hl := h.len
  have HE := Lib.hid (fun s => errnew_any s w)
  have HT := Lib.hid ht
  rw [hl]
  clear ht
  by_cases hn : n = 8
  · subst hn
    obtain ⟨b0, b1, b2, b3, b4, b5, b6, b7, rfl⟩ : ∃ b0 b1 b2 b3 b4 b5 b6 b7, d = [b0, b1, b2, b3, b4, b5, b6, b7] := by
      match d, hl with
      | [b0, b1, b2, b3, b4, b5, b6, b7], _ => exact ⟨b0, b1, b2, b3, b4, b5, b6, b7, rfl⟩
    have HC := Lib.hid (Tryz.binary_BE_Uint64 g 0 8 c b0 b1 b2 b3 b4 b5 b6 b7 w (by omega) (h.cellAt 0 b0 rfl) (h.cellAt 1 b1 rfl) (h.cellAt 2 b2 rfl) (h.cellAt 3 b3 rfl) (h.cellAt 4 b4 rfl) (h.cellAt 5 b5 rfl) (h.cellAt 6 b6 rfl) (h.cellAt 7 b7 rfl))
    have hlt := beNat8_lt b0 b1 b2 b3 b4 b5 b6 b7
    obtain ⟨N, hN⟩ : ∃ N, N = Lib.beNat [b0, b1, b2, b3, b4, b5, b6, b7] := ⟨_, rfl⟩
    rw [← hN] at HC hlt
    clear h hN hl
    go_enter Tryz.func167, Tryz.ntmps167
    go_wp2_with fail
    refine HC.out.mono ?_
    rintro e w1 ⟨rfl, hb⟩
    have HB := Lib.hid hb
    clear hb
    go_wp2_with fail
    refine (sfuint_64 N hlt (by omega) w1 (HT.out.below HB.out)).mono ?_
    rintro e w2 ⟨s, rfl, _, hb⟩
    have HB2 := Lib.hid (HB.out.trans (hb.mono HB.out.size))
    clear hb
    go_wp2_with fail
    go_ret2
    exact ⟨.inl ⟨by simp, s, rfl⟩, HB2.out⟩
  · have e1 : ((n : Int) != 8) = true := by simp; omega
    clear h
    go_enter Tryz.func167, Tryz.ntmps167
    go_wp2_with fail
    refine (HE.out _).mono ?_
    rintro e w1 ⟨t, v, rfl, hb⟩
    have HB := Lib.hid hb
    clear hb
    go_wp2_with fail
    go_ret2
    exact ⟨.inr ⟨by simp [hn], _, t, v, rfl⟩, HB.out⟩
theorem cidr_bts (g n c : Nat) (d : List UInt8) (w : World) (h : RB w w.heap.size (some ⟨g, 0, none⟩) n c d) (hK : 256 ≤ K) (ht : Tab K w) : Calls Tryz.prog 140 #[.slice (some ⟨g, 0, none⟩) n c] w (OutBS (decide (d.length = 1)) w) := by
  have q0 : ∀ w : World, (binOp .neq 52 .nilIface .nilIface).run Tryz.prog w = .ok (.bool false) w := fun _ => by kernel_rfl
  have qn : ∀ (t : TypeId) (v : Value) (w : World), (binOp .neq 52 (.iface t v) .nilIface).run Tryz.prog w = .ok (.bool true) w := fun _ _ _ => by kernel_rfl
  have hl := h.len
  have HV := Lib.hid (cidr_val (some ⟨g, 0, none⟩) n c d w h)
  have HT := Lib.hid ht
  have HR := Lib.hid h
  clear h ht
  go_enter Tryz.func140, Tryz.ntmps140
  go_wp2_with fail
  refine HV.out.mono ?_
  rintro e w1 ⟨⟨hok, rfl⟩ | ⟨hok, t, v, rfl⟩, hb⟩
  · have HB := Lib.hid hb
    have hn : n = 1 := by have := of_decide_eq_true hok; omega
    subst hn
    obtain ⟨b0, rfl⟩ : ∃ b0, d = [b0] := by
      match d, hl with
      | [b0], _ => exact ⟨b0, rfl⟩
    have hcell := ((HR.out.below hb).more hb.size).cellAt 0 b0 rfl
    have HOK := Lib.hid hok
    have hb0 := b0.toNat_lt
    have HI := Lib.hid (itoa_any b0.toNat (by omega) (by omega) w1 (HT.out.below hb))
    clear hb hok hl
    go_wp2_with fail
    refine HI.out.mono ?_
    rintro e w2 ⟨s, rfl, _, hb2⟩
    have HB2 := Lib.hid (HB.out.trans (hb2.mono HB.out.size))
    clear hb2
    go_wp2_with fail
    go_ret2
    exact ⟨.inl ⟨HOK.out, s, rfl⟩, HB2.out⟩
  · have HB := Lib.hid hb
    have HOK := Lib.hid hok
    clear hb hok
    go_wp2_with fail
    go_ret2
    exact ⟨.inr ⟨HOK.out, _, t, v, rfl⟩, HB.out⟩
def nameOk (d : List UInt8) : Bool := decide (d.length ≠ 0) && decide (Lib.indexByte (Lib.bytesOf (d.map fun b => (b.toNat : Int))) 47 < 0)
theorem idx_at {A : Option Addr} {n c : Nat} {d : List UInt8} {w : World} (h : RB w w.heap.size A n c d) (hn : 0 < n) : Calls Tryz.prog 178 #[.slice A n c, .int .u8 47] w fun e w' => e = .returned (.int .i64 (Lib.indexByte (Lib.bytesOf (d.map fun b => (b.toNat : Int))) 47)) ∧ w = w' := by
  have hl := h.len
  obtain ⟨ad, rfl, _, _⟩ := h.at_ (k := 0) hn (by omega)
  refine (Tryz.bytes_IndexByte_at ad n c (d.map fun b => (b.toNat : Int)) 47 w (by simp [hl]) (fun i hi => ?_)).mono ?_
  · obtain ⟨ad', e, _, hc⟩ := h.at_ (k := i) hi (by omega)
    cases e
    rw [hc]
    simp [List.getD, List.getElem?_eq_getElem (by omega : i < d.length)]
  · rintro e w' ⟨rfl, rfl⟩
    exact ⟨rfl, rfl⟩
theorem dns_val (A : Option Addr) (n c : Nat) (d : List UInt8) (w : World) (h : RB w w.heap.size A n c d) : Calls Tryz.prog 133 #[.slice A n c] w (OutVal (nameOk d) w) := by
  have hl := h.len
  have HE := Lib.hid (fun s => errnew_any s w)
  have HI := Lib.hid (fun hn => idx_at h hn)
  unfold nameOk
  generalize Lib.indexByte (Lib.bytesOf (d.map fun b => (b.toNat : Int))) 47 = I at HI ⊢
  clear h
  rw [hl]
  go_enter Tryz.func133, Tryz.ntmps133
  by_cases hn : n = 0
  · have e1 : ((n : Int) == 0) = true := by simp; omega
    go_wp2_with fail
    refine (HE.out _).mono ?_
    rintro e w1 ⟨t, v, rfl, hb⟩
    have HB := Lib.hid hb
    clear hb
    go_wp2_with fail
    go_ret
    exact ⟨.inr ⟨by simp [hn], t, v, rfl⟩, HB.out⟩
  · have e1 : ((n : Int) == 0) = false := by simp; omega
    go_wp2_with fail
    refine (HI.out (by omega)).mono ?_
    rintro e w1 ⟨rfl, rfl⟩
    by_cases h0 : 0 ≤ I
    · have e2 : decide (0 ≤ I) = true := by simp; omega
      go_wp2_with fail
      refine (HE.out _).mono ?_
      rintro e w1 ⟨t, v, rfl, hb⟩
      have HB := Lib.hid hb
      clear hb
      go_wp2_with fail
      go_ret
      exact ⟨.inr ⟨by simp; omega, t, v, rfl⟩, HB.out⟩
    · have e2 : decide (0 ≤ I) = false := by simp; omega
      go_wp2_with fail
      go_ret
      exact ⟨.inl ⟨by simp; omega, rfl⟩, Below.refl _ _⟩
theorem zone_val (A : Option Addr) (n c : Nat) (d : List UInt8) (w : World) (h : RB w w.heap.size A n c d) : Calls Tryz.prog 138 #[.slice A n c] w (OutVal (nameOk d) w) := by
  have hl := h.len
  have HE := Lib.hid (fun s => errnew_any s w)
  have HI := Lib.hid (fun hn => idx_at h hn)
  unfold nameOk
  generalize Lib.indexByte (Lib.bytesOf (d.map fun b => (b.toNat : Int))) 47 = I at HI ⊢
  clear h
  rw [hl]
  go_enter Tryz.func138, Tryz.ntmps138
  by_cases hn : n = 0
  · have e1 : ((n : Int) == 0) = true := by simp; omega
    go_wp2_with fail
    refine (HE.out _).mono ?_
    rintro e w1 ⟨t, v, rfl, hb⟩
    have HB := Lib.hid hb
    clear hb
    go_wp2_with fail
    go_ret
    exact ⟨.inr ⟨by simp [hn], t, v, rfl⟩, HB.out⟩
  · have e1 : ((n : Int) == 0) = false := by simp; omega
    go_wp2_with fail
    refine (HI.out (by omega)).mono ?_
    rintro e w1 ⟨rfl, rfl⟩
    by_cases h0 : 0 ≤ I
    · have e2 : decide (0 ≤ I) = true := by simp; omega
      go_wp2_with fail
      refine (HE.out _).mono ?_
      rintro e w1 ⟨t, v, rfl, hb⟩
      have HB := Lib.hid hb
      clear hb
      go_wp2_with fail
      go_ret
      exact ⟨.inr ⟨by simp; omega, t, v, rfl⟩, HB.out⟩
    · have e2 : decide (0 ≤ I) = false := by simp; omega
      go_wp2_with fail
      go_ret
      exact ⟨.inl ⟨by simp; omega, rfl⟩, Below.refl _ _⟩
end Go.Proofs.YtghddiboggdhcaaGreatDoor
/- Varints as the package reads them, whatever the bytes. Condition: the three errors of varints are as laid. -/
namespace Go.Proofs.YtghddiboggdhcaaGreatDoor
open Go.RowKit
structure Vrs (w : World) : Prop where
  ov : ∃ t v, w.cell? ⟨2, 0, none⟩ = some (.iface t v)
  un : ∃ t v, w.cell? ⟨5, 0, none⟩ = some (.iface t v)
  nm : ∃ t v, w.cell? ⟨4, 0, none⟩ = some (.iface t v)
theorem Vrs.below {w w' : World} (h : Vrs w) (hb : Below w.heap.size w w') : Vrs w' := by
  obtain ⟨⟨t, v, h1⟩, ⟨t2, v2, h2⟩, ⟨t3, v3, h3⟩⟩ := h
  exact ⟨⟨t, v, (hb.cell (World.block_lt_of_cell? _ _ h1)).trans h1⟩, ⟨t2, v2, (hb.cell (World.block_lt_of_cell? _ _ h2)).trans h2⟩, ⟨t3, v3, (hb.cell (World.block_lt_of_cell? _ _ h3)).trans h3⟩⟩
def uvAt : Nat → Nat → List UInt8 → Option (Nat × Nat)
  | _, _, [] => none
  | i, x, b :: r => if i = 8 ∧ 128 ≤ b.toNat ∨ 9 ≤ i then none
    else if b.toNat < 128 then (if b.toNat = 0 ∧ 0 < i then none else some (x + b.toNat * 2 ^ (7 * i), i + 1))
    else uvAt (i + 1) (x + (b.toNat - 128) * 2 ^ (7 * i)) r
def uv (l : List UInt8) : Option (Nat × Nat) := uvAt 0 0 l
def OutUv (k : IntKind) (o : Option (Nat × Nat)) (w : World) (e : Ending) (w' : World) : Prop :=
  Below w.heap.size w w' ∧ ((∃ v n, o = some (v, n) ∧ e = .returned (.tuple #[.int k v, .int .i64 n, .nilIface])) ∨ (o = none ∧ ∃ t u, e = .returned (.tuple #[.int k 0, .int .i64 0, .iface t u])))
theorem or_sh (X D k : Nat) (hk : k ≤ 8) (hX : X < 2 ^ (7 * k)) (hD : D < 256) : bits .or .u64 (X : Int) ((D : Int) * 2 ^ (7 * k)) = ((X + D * 2 ^ (7 * k) : Nat) : Int) := by
  have h1 : 2 ^ (7 * k) ≤ 2 ^ 56 := Nat.pow_le_pow_right (by decide) (by omega)
  have h2 : D * 2 ^ (7 * k) ≤ 255 * 2 ^ 56 := Nat.mul_le_mul (by omega) h1
  have h := bits_or_u64_nat X (D * 2 ^ (7 * k)) (by omega) (by omega)
  have e : ((D * 2 ^ (7 * k) : Nat) : Int) = (D : Int) * 2 ^ (7 * k) := by push_cast; rfl
  rw [← e, h, Nat.or_comm, Nat.mul_comm D, ← Nat.two_pow_add_eq_or_of_lt hX D, Nat.add_comm]
theorem wrap_sh (D k : Nat) (hk : k ≤ 8) (hD : D < 256) : IntKind.u64.wrap ((D : Int) * 2 ^ (7 * k)) = (D : Int) * 2 ^ (7 * k) := by
  have h1 : 2 ^ (7 * k) ≤ 2 ^ 56 := Nat.pow_le_pow_right (by decide) (by omega)
  have h2 : D * 2 ^ (7 * k) ≤ 255 * 2 ^ 56 := Nat.mul_le_mul (by omega) h1
  have e : ((D * 2 ^ (7 * k) : Nat) : Int) = (D : Int) * 2 ^ (7 * k) := by push_cast; rfl
  rw [← e]
  simp [IntKind.wrap, IntKind.bits, IntKind.signed]
  omega
theorem wrap_d (D : Nat) (hD : D < 256) : IntKind.u64.wrap (D : Int) = D := by
  simp [IntKind.wrap, IntKind.bits, IntKind.signed]
  omega
theorem and_127 (D : Nat) (hD : D < 128) : bits .and .u8 (128 + (D : Int)) 127 = (D : Int) := by
  have h := bits_mask .u8 8 (by decide) wraps_u8 7 (by decide) (128 + (D : Int)) (by omega) (by omega)
  have e : (2 : Int) ^ 7 - 1 = 127 := by decide
  rw [e] at h
  rw [h]
  omega
theorem fromuv_x (A : Option Addr) (n c : Nat) (l : List UInt8) (w : World) (h : RB w w.heap.size A n c l) (hE : Vrs w) (hn : n ≤ 100000) : Calls Tryz.prog 68 #[.slice A n c] w (OutUv .u64 (uv l) w) := by
  have HR := Lib.hid h
  have HL := Lib.hid h.len
  have HE := Lib.hid hE
  clear h hE
  go_enter Tryz.func68, Tryz.ntmps68
  go_wp2_with fail
  go_loopw [5, 6, 11] (fun x s i wr => ∃ (k X : Nat), k ≤ n ∧ k ≤ 8 ∧ i = .int .i64 k ∧ x = .int .u64 X ∧ s = .int .u64 (7 * k : Nat) ∧ X < 2 ^ (7 * k) ∧ uvAt k X (l.drop k) = uv l ∧ Below w.heap.size w wr) (fun _ _ i _ => n - (intOf i).toNat)
  case atStart => exact ⟨0, 0, by omega, by omega, rfl, rfl, rfl, by simp, rfl, Below.refl _ _⟩
  case round =>
    obtain ⟨k, X, hk, hk8, rfl, rfl, rfl, hX, huv, hb⟩ := hrel
    have HB := Lib.hid hb
    obtain ⟨⟨ot, ov, hov⟩, ⟨ut, uv', hun⟩, ⟨mt, mv, hnm⟩⟩ := HE.out.below hb
    by_cases hlt : k < n
    · have hkl : k < l.length := by rw [HL.out]; exact hlt
      obtain ⟨ad, rfl, hbk, c0⟩ := (HR.out.below hb).at_ (k := k) hlt hkl
      have hdk : l.drop k = l[k] :: l.drop (k + 1) := List.drop_eq_getElem_cons hkl
      obtain ⟨b, hbb⟩ : ∃ b, b = l[k] := ⟨_, rfl⟩
      rw [← hbb] at c0 hdk
      rw [hdk] at huv
      have hbl := b.toNat_lt
      obtain ⟨B, hB⟩ : ∃ B, B = b.toNat := ⟨_, rfl⟩
      rw [← hB] at c0 hbl
      have HUV := Lib.hid huv
      have HBB := Lib.hid hB
      have HXX := Lib.hid hX
      clear huv hb hbb hB hdk hX
      by_cases h8 : k = 8
      · subst h8
        have c1 : wr.cell? ⟨ad.block, ad.off + 8, none⟩ = some (.int .u8 B) := by have := c0; rwa [show ad.add 8 = ⟨ad.block, ad.off + 8, none⟩ by simp [Addr.add]] at this
        by_cases hB : 128 ≤ B
        · have e2 : decide ((128 : Int) ≤ (B : Int)) = true := by simp; omega
          have e3 : decide ((8 : Int) < (n : Int)) = true := by simp; omega
          clear hk8
          go_wp2_with fail
          go_quiet (fail)
          go_wp2_with fail
          go_ret3
          exact ⟨below_drewN HB.out _, .inr ⟨by rw [← HUV.out, uvAt, if_pos (by have := HBB.out; omega)], ot, ov, rfl⟩⟩
        · have e2 : decide ((128 : Int) ≤ (B : Int)) = false := by simp; omega
          have e3 : decide ((8 : Int) < (n : Int)) = true := by simp; omega
          have e4 : decide ((B : Int) < 128) = true := by simp; omega
          by_cases h0 : B = 0
          · subst h0
            clear hk8
            go_wp2_with fail
            go_quiet (fail)
            go_wp2_with fail
            go_ret3
            exact ⟨below_drewN HB.out _, .inr ⟨by rw [← HUV.out, uvAt, if_neg (by have := HBB.out; omega), if_pos (by have := HBB.out; omega), if_pos (by have := HBB.out; omega)], mt, mv, rfl⟩⟩
          · have e5 : ((B : Int) == 0) = false := by simp; omega
            have hor : bits .or .u64 (X : Int) ((B : Int) * 72057594037927936) = ((X + B * 2 ^ (7 * 8) : Nat) : Int) := or_sh X B 8 (by omega) HXX.out hbl
            obtain ⟨Y, hY⟩ : ∃ Y, Y = X + B * 2 ^ (7 * 8) := ⟨_, rfl⟩
            rw [← hY] at hor
            have HY := Lib.hid hY
            clear hk8 hY
            go_wp2_with fail
            go_ret3
            exact ⟨HB.out, .inl ⟨Y, 9, by rw [← HUV.out, uvAt, if_neg (by have := HBB.out; omega), if_pos (by have := HBB.out; omega), if_neg (by have := HBB.out; omega), HY.out, HBB.out], rfl⟩⟩
      · have e1 : ((k : Int) == 8) = false := by simp; omega
        have e9 : decide ((9 : Int) ≤ (k : Int)) = false := by simp; omega
        by_cases hB : 128 ≤ B
        · obtain ⟨D, rfl⟩ : ∃ D, B = 128 + D := ⟨B - 128, by omega⟩
          have e4 : decide ((128 : Int) + (D : Int) < 128) = false := by simp; omega
          have h127 := and_127 D (by omega)
          have hw1 := wrap_d D (by omega)
          have hw2 := wrap_sh D k hk8 (by omega)
          have hor := or_sh X D k hk8 HXX.out (by omega)
          obtain ⟨Y, hY⟩ : ∃ Y, Y = X + D * 2 ^ (7 * k) := ⟨_, rfl⟩
          rw [← hY] at hor
          have HY := Lib.hid hY
          clear hY
          go_wp2_with fail
          refine ⟨⟨k + 1, Y, by omega, by omega, by go_num, rfl, by go_num, ?_, ?_, HB.out⟩, by simp [intOf]; omega⟩
          · rw [HY.out, show 7 * (k + 1) = 7 * k + 7 by omega, Nat.pow_add]
            have h1 := HXX.out
            have h2 : D * 2 ^ (7 * k) ≤ 127 * 2 ^ (7 * k) := Nat.mul_le_mul_right _ (by omega)
            omega
          · rw [← HUV.out, uvAt, if_neg (by have := HBB.out; omega), if_neg (by have := HBB.out; omega), HY.out]
            congr 2
            have := HBB.out
            rw [← this]
            congr 1
            omega
        · have e4 : decide ((B : Int) < 128) = true := by simp; omega
          have hw1 := wrap_d B (by omega)
          have hw2 := wrap_sh B k hk8 (by omega)
          have hor := or_sh X B k hk8 HXX.out (by omega)
          obtain ⟨Y, hY⟩ : ∃ Y, Y = X + B * 2 ^ (7 * k) := ⟨_, rfl⟩
          rw [← hY] at hor
          have HY := Lib.hid hY
          clear hY
          by_cases h0 : B = 0 ∧ 0 < k
          · obtain ⟨rfl, hk0⟩ := h0
            have e6 : decide ((0 : Int) < 7 * (k : Int)) = true := by simp; omega
            go_wp2_with fail
            go_quiet (fail)
            go_wp2_with fail
            go_ret3
            exact ⟨below_drewN HB.out _, .inr ⟨by rw [← HUV.out, uvAt, if_neg (by have := HBB.out; omega), if_pos (by have := HBB.out; omega), if_pos (by have := HBB.out; omega)], mt, mv, rfl⟩⟩
          · have hfin : uv l = some (Y, k + 1) := by rw [← HUV.out, uvAt, if_neg (by have := HBB.out; omega), if_pos (by have := HBB.out; omega), if_neg (by have := HBB.out; omega), HY.out, HBB.out]
            have HFIN := Lib.hid hfin
            have hgo : (B = 0 ∧ k = 0) ∨ B ≠ 0 := by omega
            clear hfin h0
            rcases hgo with ⟨rfl, rfl⟩ | h0
            · have e6 : decide ((0 : Int) < 0) = false := by decide
              have c1 : wr.cell? ad = some (.int .u8 0) := by have := c0; rwa [show ad.add 0 = ad by simp [Addr.add]] at this
              have hX0 : X = 0 := by have := HXX.out; simp at this; omega
              subst hX0
              have q1 : bits .or .u64 0 0 = 0 := by kernel_rfl
              have hY0 : Y = 0 := by rw [HY.out]
              subst hY0
              clear hw1 hw2 hor HY HXX
              go_wp2_with fail
              go_ret3
              exact ⟨HB.out, .inl ⟨0, 1, HFIN.out, rfl⟩⟩
            · have e5 : ((B : Int) == 0) = false := by simp; omega
              go_wp2_with fail
              go_ret3
              exact ⟨HB.out, .inl ⟨Y, k + 1, HFIN.out, rfl⟩⟩
    · go_wp2_with fail
      go_quiet (fail)
      go_wp2_with fail
      go_ret3
      exact ⟨below_drewN HB.out _, .inr ⟨by rw [← huv, List.drop_of_length_le (by rw [HL.out]; omega), uvAt], ut, uv', rfl⟩⟩
end Go.Proofs.YtghddiboggdhcaaGreatDoor
/- Multihashes read, whatever the bytes. Conditions: the three errors of varints are as laid; the error of too short a multihash is an error, or nil. -/
namespace Go.Proofs.YtghddiboggdhcaaGreatDoor
open Go.RowKit
attribute [local go_sem ↓] Go.wp_at_zero Go.wp_at_succ
theorem uvAt_facts : ∀ (l : List UInt8) (i x v n : Nat), uvAt i x l = some (v, n) → i < n ∧ n ≤ i + l.length ∧ n ≤ 9 ∧ (x < 2 ^ (7 * i) → v < 2 ^ (7 * n))
  | [], i, x, v, n, h => by simp [uvAt] at h
  | b :: r, i, x, v, n, h => by
    rw [uvAt] at h
    split at h
    · cases h
    · rename_i h9
      split at h
      · split at h
        · cases h
        · rename_i hb _
          injection h with h
          injection h with h1 h2
          subst h1 h2
          refine ⟨by omega, by simp, by omega, fun hx => ?_⟩
          rw [show 7 * (i + 1) = 7 * i + 7 by omega, Nat.pow_add]
          have : b.toNat * 2 ^ (7 * i) ≤ 127 * 2 ^ (7 * i) := Nat.mul_le_mul_right _ (by omega)
          omega
      · rename_i hb
        obtain ⟨h1, h2, h3, h4⟩ := uvAt_facts r (i + 1) _ v n h
        refine ⟨by omega, by simp; omega, h3, fun hx => h4 ?_⟩
        have hbl := b.toNat_lt
        rw [show 7 * (i + 1) = 7 * i + 7 by omega, Nat.pow_add]
        have : (b.toNat - 128) * 2 ^ (7 * i) ≤ 127 * 2 ^ (7 * i) := Nat.mul_le_mul_right _ (by omega)
        omega
theorem uv_facts {l : List UInt8} {v n : Nat} (h : uv l = some (v, n)) : 1 ≤ n ∧ n ≤ l.length ∧ n ≤ 9 ∧ v < 9223372036854775808 := by
  obtain ⟨h1, h2, h3, h4⟩ := uvAt_facts l 0 0 v n h
  have h5 := h4 (by simp)
  have h6 : 2 ^ (7 * n) ≤ 2 ^ 63 := Nat.pow_le_pow_right (by decide) (by omega)
  exact ⟨h1, by omega, h3, by omega⟩
def OutMuv (d : List UInt8) (w : World) (e : Ending) (w' : World) : Prop :=
  Below w.heap.size w w' ∧ ((∃ (v n : Nat) (A : Option Addr) (c : Nat), uv d = some (v, n) ∧ e = .returned (.tuple #[.int .u64 v, .slice A (d.length - n) c, .nilIface]) ∧ RB w' w'.heap.size A (d.length - n) c (d.drop n)) ∨
    (uv d = none ∧ ∃ x y t u, e = .returned (.tuple #[x, y, .iface t u])))
theorem muv_g (A : Option Addr) (n c : Nat) (d : List UInt8) (w : World) (h : RB w w.heap.size A n c d) (hE : Vrs w) (hn : n ≤ 100000) : Calls Tryz.prog 336 #[.slice A n c] w (OutMuv d w) := by
  have q0 : ∀ w : World, (binOp .neq 52 .nilIface .nilIface).run Tryz.prog w = .ok (.bool false) w := fun _ => by kernel_rfl
  have qn : ∀ (t : TypeId) (v : Value) (w : World), (binOp .neq 52 (.iface t v) .nilIface).run Tryz.prog w = .ok (.bool true) w := fun _ _ _ => by kernel_rfl
  have HF := Lib.hid (fromuv_x A n c d w h hE hn)
  have HR := Lib.hid h
  have hl := h.len
  have hcap := h.cap
  have hmax : c ≤ 9223372036854775807 := h.max
  clear h hE
  go_enter Tryz.func336, Tryz.ntmps336
  go_wp2_with fail
  refine HF.out.mono ?_
  rintro e w1 ⟨hb, ⟨v, k, huv, rfl⟩ | ⟨huv, t, u, rfl⟩⟩
  · obtain ⟨f1, f2, f3, f4⟩ := uv_facts huv
    obtain ⟨A1, hs1, hr1⟩ := run_from A n c k (by omega) hcap
    have HR1 := Lib.hid (hr1 _ _ _ (HR.out.next hb))
    have HB := Lib.hid hb
    have HU := Lib.hid huv
    have e1 : ((k : Int) == 0) = false := by simp; omega
    have e2 : decide ((k : Int) < 0) = false := by simp
    clear hb huv hr1 HF
    go_wp2_with fail
    go_quiet (fail)
    go_wp2_with fail
    go_ret3
    refine ⟨below_drewN HB.out _, .inl ⟨v, k, A1, c - k, HU.out, by rw [hl]; rfl, ?_⟩⟩
    rw [hl]
    exact HR1.out.drewN _
  · have HB := Lib.hid hb
    have HU := Lib.hid huv
    clear hb huv HF
    go_wp2_with fail
    go_ret3
    exact ⟨HB.out, .inr ⟨HU.out, _, _, t, u, rfl⟩⟩
structure Shr (w : World) : Prop where
  held : ∃ v, w.cell? ⟨18, 0, none⟩ = some v ∧ (v = .nilIface ∨ ∃ t u, v = .iface t u)
theorem Shr.below {w w' : World} (h : Shr w) (hb : Below w.heap.size w w') : Shr w' := by
  obtain ⟨v, h1, h2⟩ := h.held
  exact ⟨v, (hb.cell (World.block_lt_of_cell? _ _ h1)).trans h1, h2⟩
def mhRead (d : List UInt8) : Option (Nat × Nat × Nat) :=
  match uv d with
  | none => none
  | some (code, n) => match uv (d.drop n) with
    | none => none
    | some (len, m) => if 2147483647 < len then none else if (d.drop (n + m)).length < len then none else some (code, n + m, len)
def OutRmh (d : List UInt8) (w : World) (e : Ending) (w' : World) : Prop :=
  Below w.heap.size w w' ∧ ((2 ≤ d.length ∧ ∃ (code n len : Nat) (A : Option Addr) (c : Nat), mhRead d = some (code, n, len) ∧ e = .returned (.tuple #[.int .i64 (n + len : Nat), .int .u64 code, .slice A len c, .nilIface])) ∨
    (2 ≤ d.length ∧ mhRead d = none ∧ ∃ x y z t u, e = .returned (.tuple #[x, y, z, .iface t u])) ∨
    (d.length < 2 ∧ ∃ v, (v = .nilIface ∨ ∃ t u, v = .iface t u) ∧ e = .returned (.tuple #[.int .i64 0, .int .u64 0, .slice none 0 0, v])))
theorem rmh_g (A : Option Addr) (n c : Nat) (d : List UInt8) (w : World) (h : RB w w.heap.size A n c d) (hE : Vrs w) (hS : Shr w) (hn : n ≤ 100000) : Calls Tryz.prog 302 #[.slice A n c] w (OutRmh d w) := by
  have q0 : ∀ w : World, (binOp .neq 52 .nilIface .nilIface).run Tryz.prog w = .ok (.bool false) w := fun _ => by kernel_rfl
  have qn : ∀ (t : TypeId) (v : Value) (w : World), (binOp .neq 52 (.iface t v) .nilIface).run Tryz.prog w = .ok (.bool true) w := fun _ _ _ => by kernel_rfl
  have HF := Lib.hid (muv_g A n c d w h hE hn)
  have HE := Lib.hid hE
  have HN := Lib.hid (fun s => errnew_any s)
  have hl := h.len
  obtain ⟨sv, hsv, hso⟩ := hS.held
  have HSO := Lib.hid hso
  clear h hE hS hso
  go_enter Tryz.func302, Tryz.ntmps302
  by_cases h2 : n < 2
  · have e1 : decide ((n : Int) < 2) = true := by simp; omega
    go_wp2_with fail
    go_quiet (fail)
    go_wp2_with fail
    refine bodyPost_ret (results_tmp4 rfl _ _ _) rfl ?_
    exact ⟨below_drewN (Below.refl _ _) _, .inr (.inr ⟨by omega, sv, HSO.out, rfl⟩)⟩
  · have e1 : decide ((n : Int) < 2) = false := by simp; omega
    clear hsv
    go_wp2_with fail
    refine HF.out.mono ?_
    rintro e w1 ⟨hb, ⟨v, k, A1, c1, huv, rfl, hr⟩ | ⟨huv, x, y, t, u, rfl⟩⟩
    · obtain ⟨f1, f2, f3, f4⟩ := uv_facts huv
      rw [hl] at hr ⊢
      have hdl : (d.drop k).length = n - k := by rw [List.length_drop, hl]
      have HF2 := Lib.hid (muv_g A1 _ c1 (d.drop k) w1 hr (HE.out.below hb) (by omega))
      have HDL := Lib.hid hdl
      have HB := Lib.hid hb
      have HU := Lib.hid huv
      clear hb huv hr HF hdl
      go_wp2_with fail
      refine HF2.out.mono ?_
      rintro e w2 ⟨hb2, ⟨v2, k2, A2, c2, huv2, rfl, hr2⟩ | ⟨huv2, x, y, t, u, rfl⟩⟩
      · obtain ⟨g1, g2, g3, g4⟩ := uv_facts huv2
        rw [HDL.out] at hr2 g2 ⊢
        have HB2 := Lib.hid (HB.out.trans (hb2.mono HB.out.size))
        have HU2 := Lib.hid huv2
        have hcap := hr2.cap
        have hmax : c2 ≤ 9223372036854775807 := hr2.max
        clear hb2 huv2 hr2 HF2
        by_cases hv : 2147483647 < v2
        · have e3 : decide ((2147483647 : Int) < (v2 : Int)) = true := by simp; omega
          have hm : mhRead d = none := by simp only [mhRead, HU.out, HU2.out]; rw [if_pos hv]
          have HM := Lib.hid hm
          clear hm
          go_wp2_with fail
          refine (HN.out _ _).mono ?_
          rintro e w3 ⟨t, u, rfl, hb3⟩
          have HB3 := Lib.hid (HB2.out.trans (hb3.mono HB2.out.size))
          clear hb3
          go_wp2_with fail
          refine bodyPost_ret (results_tmp4 rfl _ _ _) rfl ?_
          exact ⟨HB3.out, .inr (.inl ⟨by omega, HM.out, _, _, _, t, u, rfl⟩)⟩
        · have e3 : decide ((2147483647 : Int) < (v2 : Int)) = false := by simp; omega
          obtain ⟨L, hL⟩ : ∃ L, L = n - k - k2 := ⟨_, rfl⟩
          have hL2 := hL
          rw [← hL] at hcap ⊢
          have hdr : (d.drop (k + k2)).length = L := by rw [List.length_drop]; omega
          have hw1 : IntKind.i64.wrap (v2 : Int) = v2 := IntWalk.i64_in _ (by omega)
          by_cases hv3 : L < v2
          · have e4 : decide ((L : Int) < (v2 : Int)) = true := by simp; omega
            have hm : mhRead d = none := by simp only [mhRead, HU.out, HU2.out]; rw [if_neg hv, if_pos (by omega)]
            have HM := Lib.hid hm
            clear hm hL hL2 hdr
            go_wp2_with fail
            refine (HN.out _ _).mono ?_
            rintro e w3 ⟨t, u, rfl, hb3⟩
            have HB3 := Lib.hid (HB2.out.trans (hb3.mono HB2.out.size))
            clear hb3
            go_wp2_with fail
            refine bodyPost_ret (results_tmp4 rfl _ _ _) rfl ?_
            exact ⟨HB3.out, .inr (.inl ⟨by omega, HM.out, _, _, _, t, u, rfl⟩)⟩
          · have e4 : decide ((L : Int) < (v2 : Int)) = false := by simp; omega
            have hm : mhRead d = some (v, k + k2, v2) := by simp only [mhRead, HU.out, HU2.out]; rw [if_neg hv, if_neg (by omega)]
            have HM := Lib.hid hm
            have hvL : (v2 : Int) ≤ (L : Int) := by omega
            have hvc : (v2 : Int) ≤ (c2 : Int) := by omega
            have hz : ((n : Int) - (L : Int)) + (v2 : Int) = ((k + k2 + v2 : Nat) : Int) := by omega
            have HZ := Lib.hid hz
            have hz1 : IntKind.i64.wrap ((n : Int) - (L : Int)) = (n : Int) - (L : Int) := IntWalk.i64_in _ (by omega)
            have hz2 : IntKind.i64.wrap ((n : Int) - (L : Int) + (v2 : Int)) = (n : Int) - (L : Int) + (v2 : Int) := IntWalk.i64_in _ (by omega)
            clear hm hL hL2 hdr hz
            go_wp2_with fail
            go_quiet (fail)
            go_wp2_with fail
            refine bodyPost_ret (results_tmp4 rfl _ _ _) rfl ?_
            refine ⟨below_drewN HB2.out _, .inl ⟨by omega, v, k + k2, v2, A2, c2, HM.out, ?_⟩⟩
            rw [← HZ.out]
            rfl
      · have HB2 := Lib.hid (HB.out.trans (hb2.mono HB.out.size))
        have HU2 := Lib.hid huv2
        clear hb2 huv2 HF2
        go_wp2_with fail
        refine bodyPost_ret (results_tmp4 rfl _ _ _) rfl ?_
        exact ⟨HB2.out, .inr (.inl ⟨by omega, by simp only [mhRead, HU.out, HU2.out], _, _, _, t, u, rfl⟩)⟩
    · have HB := Lib.hid hb
      have HU := Lib.hid huv
      clear hb huv HF
      go_wp2_with fail
      refine bodyPost_ret (results_tmp4 rfl _ _ _) rfl ?_
      exact ⟨HB.out, .inr (.inl ⟨by omega, by simp only [mhRead, HU.out], _, _, _, t, u, rfl⟩)⟩
end Go.Proofs.YtghddiboggdhcaaGreatDoor
/- Multihashes checked, whatever the bytes: Decode, Cast, the checks of IDs and of hashes of certificates. Conditions as ahead. -/
namespace Go.Proofs.YtghddiboggdhcaaGreatDoor
open Go.RowKit
attribute [local go_sem ↓] Go.wp_at_zero Go.wp_at_succ
def mhOk (d : List UInt8) : Option (Nat × Nat) :=
  match mhRead d with
  | none => none
  | some (code, n, len) => if d.length = n + len then some (code, len) else none
theorem uv_nil : uv [] = none := rfl
theorem mhOk_short {d : List UInt8} (h : d.length < 2) : mhOk d = none := by
  have e : mhRead d = none := by
    unfold mhRead
    cases hu : uv d with
    | none => rfl
    | some p =>
      obtain ⟨v, n⟩ := p
      obtain ⟨f1, f2, _⟩ := uv_facts hu
      have e2 : d.drop n = [] := List.drop_of_length_le (by omega)
      simp only [e2, uv_nil]
  simp only [mhOk, e]
def OutDec (d : List UInt8) (w : World) (e : Ending) (w' : World) : Prop :=
  Below w.heap.size w w' ∧ ((∃ (code len : Nat) (A : Option Addr) (c : Nat), mhOk d = some (code, len) ∧ e = .returned (.tuple #[.agg #[.int .u64 code, .string ⟨#[]⟩, .int .i64 len, .slice A len c], .nilIface])) ∨
    (mhOk d = none ∧ ∃ (x y : Int) (A : Option Addr) (m k : Nat) (t : TypeId) (u : Value), e = .returned (.tuple #[.agg #[.int .u64 x, .string ⟨#[]⟩, .int .i64 y, .slice A m k], .iface t u])))
theorem dec_g (A : Option Addr) (n c : Nat) (d : List UInt8) (w : World) (h : RB w w.heap.size A n c d) (hE : Vrs w) (hS : Shr w) (hn : n ≤ 100000) (hn0 : 0 < n) : Calls Tryz.prog 242 #[.slice A n c] w (OutDec d w) := by
  have q0 : ∀ w : World, (binOp .neq 52 .nilIface .nilIface).run Tryz.prog w = .ok (.bool false) w := fun _ => by kernel_rfl
  have qn : ∀ (t : TypeId) (v : Value) (w : World), (binOp .neq 52 (.iface t v) .nilIface).run Tryz.prog w = .ok (.bool true) w := fun _ _ _ => by kernel_rfl
  obtain ⟨w0, hw0⟩ : ∃ w0, w0 = w.alloc (.cells #[.int .u64 0, .string ⟨#[]⟩, .int .i64 0, .slice none 0 0] 192) := ⟨_, rfl⟩
  have hb0 : Below w.heap.size w w0 := by rw [hw0]; exact (Below.refl _ w).alloc (Nat.le_refl _) _
  have hk0 : Blk w0 w.heap.size 192 #[.int .u64 0, .string ⟨#[]⟩, .int .i64 0, .slice none 0 0] := by rw [hw0]; exact Blk.new _ _ _
  have HF := Lib.hid (rmh_g A n c d w0 ((h.below hb0).more hb0.size) (hE.below hb0) (hS.below hb0) hn)
  have hl := h.len
  have HB0 := Lib.hid hb0
  have HK0 := Lib.hid hk0
  have HW0 := Lib.hid hw0
  clear h hE hS hb0 hk0 hw0
  go_enter Tryz.func242, Tryz.ntmps242
  go_wp2_with fail
  rw [← HW0.out]
  refine HF.out.mono ?_
  rintro e w1 ⟨hb, ⟨h2, code, m, len, A1, c1, hm, rfl⟩ | ⟨h2, hm, x, y, z, t, u, rfl⟩ | ⟨h2, v, hv, rfl⟩⟩
  · have hk1 := HK0.out.below hb HK0.out.lt
    have c0 : w1.cell? ⟨w.heap.size, 0, none⟩ = some (.int .u64 0) := hk1.cell 0
    have c1' : w1.cell? ⟨w.heap.size, 1, none⟩ = some (.string ⟨#[]⟩) := hk1.cell 1
    have c2 : w1.cell? ⟨w.heap.size, 2, none⟩ = some (.int .i64 0) := hk1.cell 2
    have c3 : w1.cell? ⟨w.heap.size, 3, none⟩ = some (.slice none 0 0) := hk1.cell 3
    obtain ⟨f0, f1, f2, f3, _, _⟩ := six_frozen hk1
    have HK1 := Lib.hid hk1
    have HB := Lib.hid (HB0.out.trans (hb.mono HB0.out.size))
    have HM := Lib.hid hm
    clear hb hk1 hm HF
    by_cases hq : n = m + len
    · have e1 : ((n : Int) != ((m + len : Nat) : Int)) = false := by simp; omega
      have hmo : mhOk d = some (code, len) := by simp only [mhOk, HM.out]; rw [if_pos (by omega)]
      have HMO := Lib.hid hmo
      have HQ := Lib.hid hq
      clear hmo hq
      go_wp2_with fail
      have hst := ((((((((HK1.out.set_ 0 (.int .u64 code)).set_ 1 (.string ⟨#[]⟩)).set_ 2 (.int .i64 len)).set_ 3 (.slice A1 len c1)).set_ 0 (.int .u64 code)).set_ 1 (.string ⟨#[]⟩)).set_ 2 (.int .i64 len)).set_ 3 (.slice A1 len c1))
      refine bodyPost_ret (results_cell_tmp rfl _ _ w.heap.size 192 #[.int .u64 code, .string ⟨#[]⟩, .int .i64 len, .slice A1 len c1] (0, 0) _ rfl hst Tryz.underlying192 rfl dm_size) rfl ?_
      have hbs := (((((((HB.out.setCell (p := ⟨w.heap.size, 0, none⟩) (Nat.le_refl _) (.int .u64 code)).setCell (p := ⟨w.heap.size, 1, none⟩) (Nat.le_refl _) (.string ⟨#[]⟩)).setCell (p := ⟨w.heap.size, 2, none⟩) (Nat.le_refl _) (.int .i64 len)).setCell (p := ⟨w.heap.size, 3, none⟩) (Nat.le_refl _) (.slice A1 len c1)).setCell (p := ⟨w.heap.size, 0, none⟩) (Nat.le_refl _) (.int .u64 code)).setCell (p := ⟨w.heap.size, 1, none⟩) (Nat.le_refl _) (.string ⟨#[]⟩)).setCell (p := ⟨w.heap.size, 2, none⟩) (Nat.le_refl _) (.int .i64 len)).setCell (p := ⟨w.heap.size, 3, none⟩) (Nat.le_refl _) (.slice A1 len c1)
      exact ⟨hbs, .inl ⟨code, len, A1, c1, HMO.out, rfl⟩⟩
    · have e1 : ((n : Int) != ((m + len : Nat) : Int)) = true := by simp; omega
      have hmo : mhOk d = none := by simp only [mhOk, HM.out]; rw [if_neg (by omega)]
      have HMO := Lib.hid hmo
      clear hmo hq
      go_wp2_with fail
      have hst := ((((((((HK1.out.set_ 0 (.int .u64 code)).set_ 1 (.string ⟨#[]⟩)).set_ 2 (.int .i64 len)).set_ 3 (.slice A1 len c1)).set_ 0 (.int .u64 code)).set_ 1 (.string ⟨#[]⟩)).set_ 2 (.int .i64 len)).set_ 3 (.slice A1 len c1))
      refine bodyPost_ret (results_cell_tmp rfl _ _ w.heap.size 192 #[.int .u64 code, .string ⟨#[]⟩, .int .i64 len, .slice A1 len c1] (0, 0) _ rfl hst Tryz.underlying192 rfl dm_size) rfl ?_
      have hbs := (((((((HB.out.setCell (p := ⟨w.heap.size, 0, none⟩) (Nat.le_refl _) (.int .u64 code)).setCell (p := ⟨w.heap.size, 1, none⟩) (Nat.le_refl _) (.string ⟨#[]⟩)).setCell (p := ⟨w.heap.size, 2, none⟩) (Nat.le_refl _) (.int .i64 len)).setCell (p := ⟨w.heap.size, 3, none⟩) (Nat.le_refl _) (.slice A1 len c1)).setCell (p := ⟨w.heap.size, 0, none⟩) (Nat.le_refl _) (.int .u64 code)).setCell (p := ⟨w.heap.size, 1, none⟩) (Nat.le_refl _) (.string ⟨#[]⟩)).setCell (p := ⟨w.heap.size, 2, none⟩) (Nat.le_refl _) (.int .i64 len)).setCell (p := ⟨w.heap.size, 3, none⟩) (Nat.le_refl _) (.slice A1 len c1)
      exact ⟨hbs, .inr ⟨HMO.out, _, _, _, _, _, _, _, rfl⟩⟩
  · have hk1 := HK0.out.below hb HK0.out.lt
    have c0 : w1.cell? ⟨w.heap.size, 0, none⟩ = some (.int .u64 0) := hk1.cell 0
    have c1' : w1.cell? ⟨w.heap.size, 1, none⟩ = some (.string ⟨#[]⟩) := hk1.cell 1
    have c2 : w1.cell? ⟨w.heap.size, 2, none⟩ = some (.int .i64 0) := hk1.cell 2
    have c3 : w1.cell? ⟨w.heap.size, 3, none⟩ = some (.slice none 0 0) := hk1.cell 3
    obtain ⟨f0, f1, f2, f3, _, _⟩ := six_frozen hk1
    have HK1 := Lib.hid hk1
    have HB := Lib.hid (HB0.out.trans (hb.mono HB0.out.size))
    have HM := Lib.hid hm
    clear hb hk1 hm HF
    go_wp2_with fail
    have hst := ((((HK1.out.set_ 0 (.int .u64 0)).set_ 1 (.string ⟨#[]⟩)).set_ 2 (.int .i64 0)).set_ 3 (.slice none 0 0))
    refine bodyPost_ret (results_cell_tmp rfl _ _ w.heap.size 192 #[.int .u64 0, .string ⟨#[]⟩, .int .i64 0, .slice none 0 0] (0, 0) _ rfl hst Tryz.underlying192 rfl dm_size) rfl ?_
    have hbs := (((HB.out.setCell (p := ⟨w.heap.size, 0, none⟩) (Nat.le_refl _) (.int .u64 0)).setCell (p := ⟨w.heap.size, 1, none⟩) (Nat.le_refl _) (.string ⟨#[]⟩)).setCell (p := ⟨w.heap.size, 2, none⟩) (Nat.le_refl _) (.int .i64 0)).setCell (p := ⟨w.heap.size, 3, none⟩) (Nat.le_refl _) (.slice none 0 0)
    exact ⟨hbs, .inr ⟨by simp only [mhOk, HM.out], _, _, _, _, _, t, u, rfl⟩⟩
  · have hk1 := HK0.out.below hb HK0.out.lt
    have c0 : w1.cell? ⟨w.heap.size, 0, none⟩ = some (.int .u64 0) := hk1.cell 0
    have c1' : w1.cell? ⟨w.heap.size, 1, none⟩ = some (.string ⟨#[]⟩) := hk1.cell 1
    have c2 : w1.cell? ⟨w.heap.size, 2, none⟩ = some (.int .i64 0) := hk1.cell 2
    have c3 : w1.cell? ⟨w.heap.size, 3, none⟩ = some (.slice none 0 0) := hk1.cell 3
    obtain ⟨f0, f1, f2, f3, _, _⟩ := six_frozen hk1
    have HK1 := Lib.hid hk1
    have HB := Lib.hid (HB0.out.trans (hb.mono HB0.out.size))
    have HM := Lib.hid (mhOk_short h2)
    clear hb hk1 HF
    rcases hv with rfl | ⟨t, u, rfl⟩
    · have e1 : ((n : Int) != 0) = true := by simp; omega
      go_wp2_with fail
      have hst := ((((((((HK1.out.set_ 0 (.int .u64 0)).set_ 1 (.string ⟨#[]⟩)).set_ 2 (.int .i64 0)).set_ 3 (.slice none 0 0)).set_ 0 (.int .u64 0)).set_ 1 (.string ⟨#[]⟩)).set_ 2 (.int .i64 0)).set_ 3 (.slice none 0 0))
      refine bodyPost_ret (results_cell_tmp rfl _ _ w.heap.size 192 #[.int .u64 0, .string ⟨#[]⟩, .int .i64 0, .slice none 0 0] (0, 0) _ rfl hst Tryz.underlying192 rfl dm_size) rfl ?_
      have hbs := (((((((HB.out.setCell (p := ⟨w.heap.size, 0, none⟩) (Nat.le_refl _) (.int .u64 0)).setCell (p := ⟨w.heap.size, 1, none⟩) (Nat.le_refl _) (.string ⟨#[]⟩)).setCell (p := ⟨w.heap.size, 2, none⟩) (Nat.le_refl _) (.int .i64 0)).setCell (p := ⟨w.heap.size, 3, none⟩) (Nat.le_refl _) (.slice none 0 0)).setCell (p := ⟨w.heap.size, 0, none⟩) (Nat.le_refl _) (.int .u64 0)).setCell (p := ⟨w.heap.size, 1, none⟩) (Nat.le_refl _) (.string ⟨#[]⟩)).setCell (p := ⟨w.heap.size, 2, none⟩) (Nat.le_refl _) (.int .i64 0)).setCell (p := ⟨w.heap.size, 3, none⟩) (Nat.le_refl _) (.slice none 0 0)
      exact ⟨hbs, .inr ⟨HM.out, _, _, _, _, _, _, _, rfl⟩⟩
    · go_wp2_with fail
      have hst := ((((HK1.out.set_ 0 (.int .u64 0)).set_ 1 (.string ⟨#[]⟩)).set_ 2 (.int .i64 0)).set_ 3 (.slice none 0 0))
      refine bodyPost_ret (results_cell_tmp rfl _ _ w.heap.size 192 #[.int .u64 0, .string ⟨#[]⟩, .int .i64 0, .slice none 0 0] (0, 0) _ rfl hst Tryz.underlying192 rfl dm_size) rfl ?_
      have hbs := (((HB.out.setCell (p := ⟨w.heap.size, 0, none⟩) (Nat.le_refl _) (.int .u64 0)).setCell (p := ⟨w.heap.size, 1, none⟩) (Nat.le_refl _) (.string ⟨#[]⟩)).setCell (p := ⟨w.heap.size, 2, none⟩) (Nat.le_refl _) (.int .i64 0)).setCell (p := ⟨w.heap.size, 3, none⟩) (Nat.le_refl _) (.slice none 0 0)
      exact ⟨hbs, .inr ⟨HM.out, _, _, _, _, _, t, u, rfl⟩⟩
def OutMd (d : List UInt8) (w : World) (e : Ending) (w' : World) : Prop :=
  Below w.heap.size w w' ∧ ((∃ (code len g : Nat) (A : Option Addr) (c : Nat), mhOk d = some (code, len) ∧ e = .returned (.tuple #[.pointer (some ⟨g, 0, none⟩), .nilIface]) ∧ Blk w' g 192 #[.int .u64 code, .string ⟨#[]⟩, .int .i64 len, .slice A len c]) ∨
    (mhOk d = none ∧ ∃ t u, e = .returned (.tuple #[.pointer none, .iface t u])))
theorem md_g (A : Option Addr) (n c : Nat) (d : List UInt8) (w : World) (h : RB w w.heap.size A n c d) (hE : Vrs w) (hS : Shr w) (hn : n ≤ 100000) (hn0 : 0 < n) : Calls Tryz.prog 194 #[.slice A n c] w (OutMd d w) := by
  have q0 : ∀ w : World, (binOp .neq 52 .nilIface .nilIface).run Tryz.prog w = .ok (.bool false) w := fun _ => by kernel_rfl
  have qn : ∀ (t : TypeId) (v : Value) (w : World), (binOp .neq 52 (.iface t v) .nilIface).run Tryz.prog w = .ok (.bool true) w := fun _ _ _ => by kernel_rfl
  have HD := Lib.hid (dec_g A n c d w h hE hS hn hn0)
  clear h hE hS
  go_enter Tryz.func194, Tryz.ntmps194
  go_wp2_with fail
  refine HD.out.mono ?_
  rintro e w1 ⟨hb, ⟨code, len, A1, c1, hm, rfl⟩ | ⟨hm, x, y, A1, m1, k1, t, u, rfl⟩⟩
  · have HB := Lib.hid hb
    have HM := Lib.hid hm
    clear hb hm HD
    go_wp2_with fail
    go_ret2
    exact ⟨HB.out.alloc HB.out.size _, .inl ⟨code, len, w1.heap.size, A1, c1, HM.out, rfl, Blk.new _ _ _⟩⟩
  · have HB := Lib.hid hb
    have HM := Lib.hid hm
    clear hb hm HD
    go_wp2_with fail
    go_ret2
    exact ⟨HB.out.alloc HB.out.size _, .inr ⟨HM.out, t, u, rfl⟩⟩
theorem cast_g (A : Option Addr) (n c : Nat) (d : List UInt8) (w : World) (h : RB w w.heap.size A n c d) (hE : Vrs w) (hS : Shr w) (hn : n ≤ 100000) (hn0 : 0 < n) : Calls Tryz.prog 203 #[.slice A n c] w fun e w' =>
    Below w.heap.size w w' ∧ (((mhOk d).isSome = true ∧ e = .returned (.tuple #[.slice A n c, .nilIface])) ∨ ((mhOk d).isSome = false ∧ ∃ x t u, e = .returned (.tuple #[x, .iface t u]))) := by
  have q0 : ∀ w : World, (binOp .neq 52 .nilIface .nilIface).run Tryz.prog w = .ok (.bool false) w := fun _ => by kernel_rfl
  have qn : ∀ (t : TypeId) (v : Value) (w : World), (binOp .neq 52 (.iface t v) .nilIface).run Tryz.prog w = .ok (.bool true) w := fun _ _ _ => by kernel_rfl
  have HD := Lib.hid (md_g A n c d w h hE hS hn hn0)
  clear h hE hS
  go_enter Tryz.func203, Tryz.ntmps203
  go_wp2_with fail
  refine HD.out.mono ?_
  rintro e w1 ⟨hb, ⟨code, len, g, A1, c1, hm, rfl, _⟩ | ⟨hm, t, u, rfl⟩⟩
  · have HB := Lib.hid hb
    have HM := Lib.hid hm
    clear hb hm HD
    go_wp2_with fail
    go_ret2
    exact ⟨HB.out, .inl ⟨by rw [HM.out]; rfl, rfl⟩⟩
  · have HB := Lib.hid hb
    have HM := Lib.hid hm
    clear hb hm HD
    go_wp2_with fail
    go_ret2
    exact ⟨by first | exact HB.out | exact HB.out.alloc HB.out.size _, .inr ⟨by rw [HM.out]; rfl, _, t, u, rfl⟩⟩
theorem cert_val (A : Option Addr) (n c : Nat) (d : List UInt8) (w : World) (h : RB w w.heap.size A n c d) (hE : Vrs w) (hS : Shr w) (hn : n ≤ 100000) (hn0 : 0 < n) : Calls Tryz.prog 156 #[.slice A n c] w (OutVal (mhOk d).isSome w) := by
  have HD := Lib.hid (md_g A n c d w h hE hS hn hn0)
  clear h hE hS
  go_enter Tryz.func156, Tryz.ntmps156
  go_wp2_with fail
  refine HD.out.mono ?_
  rintro e w1 ⟨hb, ⟨code, len, g, A1, c1, hm, rfl, _⟩ | ⟨hm, t, u, rfl⟩⟩
  · have HB := Lib.hid hb
    have HM := Lib.hid hm
    clear hb hm HD
    go_wp2_with fail
    go_ret
    exact ⟨.inl ⟨by rw [HM.out]; rfl, rfl⟩, HB.out⟩
  · have HB := Lib.hid hb
    have HM := Lib.hid hm
    clear hb hm HD
    go_wp2_with fail
    go_ret
    exact ⟨.inr ⟨by rw [HM.out]; rfl, t, u, rfl⟩, HB.out⟩
def idOk (d : List UInt8) : Bool :=
  match mhOk d with
  | none => false
  | some (code, len) => decide ((code = 18 ∧ len = 32) ∨ code = 0)
theorem id_val (A : Option Addr) (n c : Nat) (d : List UInt8) (w : World) (h : RB w w.heap.size A n c d) (hE : Vrs w) (hS : Shr w) (hn : n ≤ 100000) (hn0 : 0 < n) : Calls Tryz.prog 162 #[.slice A n c] w (OutVal (idOk d) w) := by
  have q0 : ∀ w : World, (binOp .neq 52 .nilIface .nilIface).run Tryz.prog w = .ok (.bool false) w := fun _ => by kernel_rfl
  have qn : ∀ (t : TypeId) (v : Value) (w : World), (binOp .neq 52 (.iface t v) .nilIface).run Tryz.prog w = .ok (.bool true) w := fun _ _ _ => by kernel_rfl
  have HD := Lib.hid (md_g A n c d w h hE hS hn hn0)
  have HN := Lib.hid (fun s => errnew_any s)
  clear h hE hS
  go_enter Tryz.func162, Tryz.ntmps162
  go_wp2_with fail
  refine HD.out.mono ?_
  rintro e w1 ⟨hb, ⟨code, len, g, A1, c1, hm, rfl, hk⟩ | ⟨hm, t, u, rfl⟩⟩
  · have HB := Lib.hid hb
    have c0 : w1.cell? ⟨g, 0, none⟩ = some (.int .u64 code) := hk.cell 0
    have c2 : w1.cell? ⟨g, 2, none⟩ = some (.int .i64 len) := hk.cell 2
    have HM := Lib.hid (show idOk d = decide ((code = 18 ∧ len = 32) ∨ code = 0) by simp only [idOk, hm])
    clear hb hm HD hk
    by_cases k18 : code = 18
    · subst k18
      by_cases l32 : len = 32
      · subst l32
        go_wp2_with fail
        go_ret
        exact ⟨.inl ⟨by rw [HM.out]; rfl, rfl⟩, HB.out⟩
      · have e1 : ((len : Int) != 32) = true := by simp; omega
        have hv : idOk d = false := by rw [HM.out]; simp [l32]
        have HV := Lib.hid hv
        clear hv l32
        go_wp2_with fail
        refine (HN.out _ _).mono ?_
        rintro e w2 ⟨t, u, rfl, hb2⟩
        have HB2 := Lib.hid (HB.out.trans (hb2.mono HB.out.size))
        clear hb2
        go_wp2_with fail
        go_ret
        exact ⟨.inr ⟨HV.out, t, u, rfl⟩, HB2.out⟩
    · by_cases k0 : code = 0
      · subst k0
        go_wp2_with fail
        go_ret
        exact ⟨.inl ⟨by rw [HM.out]; rfl, rfl⟩, HB.out⟩
      · have e1 : ((code : Int) != 18) = true := by simp; omega
        have e2 : ((code : Int) != 0) = true := by simp; omega
        have hv : idOk d = false := by rw [HM.out]; simp [k18, k0]
        have HV := Lib.hid hv
        clear hv k18 k0
        go_wp2_with fail
        refine (HN.out _ _).mono ?_
        rintro e w2 ⟨t, u, rfl, hb2⟩
        have HB2 := Lib.hid (HB.out.trans (hb2.mono HB.out.size))
        clear hb2
        go_wp2_with fail
        go_ret
        exact ⟨.inr ⟨HV.out, t, u, rfl⟩, HB2.out⟩
  · have HB := Lib.hid hb
    have HM := Lib.hid hm
    clear hb hm HD
    go_wp2_with fail
    refine (HN.out _ _).mono ?_
    rintro e w2 ⟨t, u, rfl, hb2⟩
    have HB2 := Lib.hid (HB.out.trans (hb2.mono HB.out.size))
    clear hb2
    go_wp2_with fail
    go_ret
    exact ⟨.inr ⟨by simp only [idOk, HM.out], t, u, rfl⟩, HB2.out⟩
end Go.Proofs.YtghddiboggdhcaaGreatDoor
