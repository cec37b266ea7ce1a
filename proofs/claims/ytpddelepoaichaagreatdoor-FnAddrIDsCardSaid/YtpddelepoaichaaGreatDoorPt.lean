/- The guards of the laws: the sizes, and the short addresses. -/
import Derived.Test.YtpddelepoaichaaGreatDoorPs
namespace Go.Proofs.YtpddelepoaichaaGreatDoor
open Go.RowKit
attribute [local go_sem ↓] Go.wp_at_zero Go.wp_at_succ
/-- Some truth value. -/
def OutT (w : World) (e : Ending) (w' : World) : Prop := ∃ b, e = .returned (.bool b) ∧ Below w.heap.size w w'
set_option maxRecDepth 100000 in
set_option maxHeartbeats 2000000 in
theorem fits2_any (kd : Nat) (A : Option Addr) (n c : Nat) (w : World) : Calls Tryz.prog 23 #[.agg #[.int .u8 kd, .slice A n c]] w (OutT w) := by
  have HB := Lib.hid ((Below.refl _ w).alloc (Nat.le_refl _) (.cells #[.int .u8 kd, .slice A n c] 36))
  go_enter Tryz.func23, Tryz.ntmps23
  by_cases hn : n ≤ 2147483647
  · have hd : decide ((2147483647 : Int) < (n : Int)) = false := by simp; omega
    go_wp2_with fail
    go_ret
    exact ⟨_, rfl, HB.out⟩
  · have hd : decide ((2147483647 : Int) < (n : Int)) = true := by simp; omega
    go_wp2_with fail
    go_ret
    exact ⟨_, rfl, HB.out⟩
set_option maxRecDepth 100000 in
set_option maxHeartbeats 2000000 in
theorem fits1_any (A : Option Addr) (n c : Nat) (hs : List Hop) (w : World) (h : HS w w.heap.size A n c hs) : Calls Tryz.prog 8 #[.slice A n c] w (OutT w) := by
  have HH := Lib.hid h
  have HL := Lib.hid h.len
  clear h
  go_enter Tryz.func8, Tryz.ntmps8
  by_cases hn : n ≤ 2147483647
  · have hd : decide ((2147483647 : Int) < (n : Int)) = false := by simp; omega
    go_wp2_with fail
    go_loopw [10] (fun i wr => ∃ k : Nat, k ≤ n ∧ i = .int .i64 k ∧ Below w.heap.size w wr) (fun i _ => n - (intOf i).toNat)
    case atStart => exact ⟨0, by omega, rfl, Below.refl _ _⟩
    case round =>
      obtain ⟨k, hk, rfl, hb⟩ := hrel
      have HB := Lib.hid hb
      clear hb
      by_cases hlt : k < n
      · obtain ⟨ad, rfl, hbk, c0, c1, _⟩ := (HH.out.below HB.out).at_ k (by rw [HL.out]; exact hlt)
        generalize hs[k]'(by rw [HL.out]; exact hlt) = hp at *
        rw [add_succ _ _ 1 (by decide)] at c1
        have HBW := Lib.hid (HB.out.alloc HB.out.size (.cells #[.int .u8 hp.kd, .slice hp.A hp.n hp.c] 36))
        go_wp2_with fail
        refine (fits2_any hp.kd hp.A hp.n hp.c _).mono ?_
        rintro e w3 ⟨b, rfl, hb3⟩
        have HB3 := Lib.hid (HBW.out.trans (hb3.mono HBW.out.size))
        clear hb3
        cases b
        · go_wp2_with fail
          go_ret
          exact ⟨_, rfl, HB3.out⟩
        · go_wp2_with fail
          exact ⟨⟨k + 1, by omega, by go_num, HB3.out⟩, by simp [intOf]; omega⟩
      · go_wp2_with fail
        go_ret
        exact ⟨_, rfl, HB.out⟩
  · have hd : decide ((2147483647 : Int) < (n : Int)) = true := by simp; omega
    go_wp2_with fail
    go_ret
    exact ⟨_, rfl, Below.refl _ _⟩
set_option maxRecDepth 100000 in
set_option maxHeartbeats 2000000 in
theorem short_any (A : Option Addr) (n c g : Nat) (hs : List Hop) (w : World) (h : HS w w.heap.size A n c hs) (hg : w.cell? ⟨g, 0, none⟩ = some (.slice A n c)) :
    Calls Tryz.prog 9 #[.slice (some ⟨g, 0, none⟩) 1 1] w fun e w' => (e = .returned (.bool false) ∨ e = .returned (.bool true) ∧ n ≠ 0 ∧ n ≤ 20 ∧ ∀ i (hi : i < hs.length), (hs[i]).n ≤ 100) ∧ Below w.heap.size w w' := by
  have HH := Lib.hid h
  have HL := Lib.hid h.len
  have HG := Lib.hid hg
  clear h hg
  go_enter Tryz.func9, Tryz.ntmps9
  go_wp2_with fail
  go_loopw [9] (fun i wr => ∃ k : Nat, k ≤ 1 ∧ i = .int .i64 k ∧ (k = 0 ∨ n ≠ 0 ∧ n ≤ 20 ∧ ∀ i (hi : i < hs.length), (hs[i]).n ≤ 100) ∧ Below w.heap.size w wr) (fun i _ => 1 - (intOf i).toNat)
  case atStart => exact ⟨0, by omega, rfl, Or.inl rfl, Below.refl _ _⟩
  case round =>
    obtain ⟨k, hk, rfl, hor, hb⟩ := hrel
    have HB := Lib.hid hb
    clear hb
    by_cases hlt : k < 1
    · obtain rfl : k = 0 := by omega
      have hgw : wr.cell? ⟨g, 0, none⟩ = some (.slice A n c) := (HB.out.cell (World.block_lt_of_cell? _ _ HG.out)).trans HG.out
      clear hor
      by_cases hn0 : n = 0
      · have hd0 : ((n : Int) == 0) = true := by simp; omega
        clear hn0
        go_wp2_with fail
        go_ret
        exact ⟨Or.inl rfl, HB.out⟩
      · have hd0 : ((n : Int) == 0) = false := by simp; omega
        have HN0 := Lib.hid hn0
        clear hn0
        by_cases hn2 : n ≤ 20
        · have hd2 : decide ((20 : Int) < (n : Int)) = false := by simp; omega
          go_wp2_with fail
          go_loopw [23] (fun i wr => ∃ k : Nat, k ≤ n ∧ i = .int .i64 k ∧ (∀ i (hi : i < hs.length), i < k → (hs[i]).n ≤ 100) ∧ Below w.heap.size w wr) (fun i _ => n - (intOf i).toNat)
          case atStart => exact ⟨0, by omega, rfl, fun _ _ h => absurd h (by omega), HB.out⟩
          case round =>
            obtain ⟨k, hk, rfl, hall, hb⟩ := hrel
            have HB := Lib.hid hb
            have HALL := Lib.hid hall
            clear hb hall
            by_cases hlt : k < n
            · obtain ⟨ad, rfl, hbk, c0, c1, _⟩ := (HH.out.below HB.out).at_ k (by rw [HL.out]; exact hlt)
              generalize hhp : hs[k]'(by rw [HL.out]; exact hlt) = hp at *
              have HHP := Lib.hid hhp
              clear hhp
              rw [add_succ _ _ 1 (by decide)] at c1
              have HBW := Lib.hid (HB.out.alloc HB.out.size (.cells #[.int .u8 hp.kd, .slice hp.A hp.n hp.c] 36))
              by_cases h100 : hp.n ≤ 100
              · have hd3 : decide ((100 : Int) < (hp.n : Int)) = false := by simp; omega
                go_wp2_with fail
                go_roundw
                case rel =>
                  refine ⟨k + 1, by omega, by go_num, fun i hi hik => ?_, HBW.out⟩
                  by_cases e : i = k
                  · subst e; rw [HHP.out]; exact h100
                  · exact HALL.out i hi (by omega)
                case measure => simp [intOf]; omega
              · have hd3 : decide ((100 : Int) < (hp.n : Int)) = true := by simp; omega
                go_wp2_with fail
                go_ret
                exact ⟨Or.inl rfl, HBW.out⟩
            · have hfin : ∀ i (hi : i < hs.length), (hs[i]).n ≤ 100 := fun i hi => HALL.out i hi (by have := HL.out; omega)
              have HF := Lib.hid hfin
              clear hfin
              go_wp2_with fail
              go_roundw
              case rel => exact ⟨1, by omega, rfl, Or.inr ⟨HN0.out, hn2, HF.out⟩, HB.out⟩
              case measure => simp [intOf]
        · have hd2 : decide ((20 : Int) < (n : Int)) = true := by simp; omega
          go_wp2_with fail
          go_ret
          exact ⟨Or.inl rfl, HB.out⟩
    · obtain rfl : k = 1 := by omega
      have HOR := Lib.hid hor
      clear hor
      go_wp2_with fail
      go_ret
      exact ⟨Or.inr ⟨rfl, by have := HOR.out; simpa using this⟩, HB.out⟩
end Go.Proofs.YtpddelepoaichaaGreatDoor
