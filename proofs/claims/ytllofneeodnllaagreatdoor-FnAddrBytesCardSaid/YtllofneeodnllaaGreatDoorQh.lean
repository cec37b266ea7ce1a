/- slices.EqualFunc of lists of byte slices. -/
import Derived.Test.YtllofneeodnllaaGreatDoorPu
import Derived.Test.YtllofneeodnllaaGreatDoorQn
namespace Go.Proofs.YtllofneeodnllaaGreatDoor
open Go.RowKit
attribute [local go_sem ↓] Go.wp_at_zero Go.wp_at_succ
set_option maxRecDepth 100000 in
set_option maxHeartbeats 2000000 in
theorem eqfunc_any (A B : Option Addr) (n c d : Nat) (ps qs : List Part) (w : World) (h : LS w w.heap.size A n c ps) (h' : LS w w.heap.size B n d qs) (he : ps.map (·.l) = qs.map (·.l)) :
    Calls Tryz.prog 20 #[.slice A n c, .slice B n d, .func (Fn.func 15) #[] #[]] w fun e w' => e = .returned (.bool true) ∧ Below w.heap.size w w' := by
  have HH := Lib.hid h
  have HK := Lib.hid h'
  have HL := Lib.hid h.len
  have HE := Lib.hid he
  have hmx : n ≤ 9223372036854775807 := Nat.le_trans h.cap h.max
  clear h h' he
  go_enter Tryz.func20, Tryz.ntmps20
  go_wp2_with fail
  go_loopw [17] (fun i wr => ∃ k : Nat, k ≤ n ∧ i = .int .i64 k ∧ Below w.heap.size w wr) (fun i _ => n - (intOf i).toNat)
  case atStart => exact ⟨0, by omega, rfl, Below.refl _ _⟩
  case round =>
    obtain ⟨k, hk, rfl, hb⟩ := hrel
    have HB := Lib.hid hb
    clear hb
    by_cases hlt : k < n
    · have hkp : k < ps.length := by rw [HL.out]; exact hlt
      have hkq : k < qs.length := by rw [HK.out.len]; exact hlt
      have hel : (ps[k]).l = (qs[k]).l := by
        have := congrArg (fun x => x[k]?) HE.out
        simpa [hkp, hkq] using this
      obtain ⟨ad, rfl, hbk, c0, hr⟩ := (HH.out.below HB.out).at_ k hkp
      obtain ⟨bd, rfl, hbk', c1, hr'⟩ := (HK.out.below HB.out).at_ k hkq
      generalize ps[k] = p at *
      generalize qs[k] = q at *
      unfold Part.v at c0 c1
      have heq := equal_any p.A q.A p.n p.c q.n q.c p.l q.l wr (hr.more HB.out.size) (hr'.more HB.out.size)
      rw [hel, beq_self_eq_true] at heq
      have HEQ := Lib.hid heq
      clear hr hr' hel heq hkp hkq
      go_wp2_with fail
      refine HEQ.out.mono ?_
      rintro e w3 ⟨rfl, rfl⟩
      go_wp2_with fail
      go_roundw
      case rel => exact ⟨k + 1, by omega, by go_num, HB.out⟩
      case measure => simp [intOf]; omega
    · go_wp2_with fail
      go_ret
      exact ⟨rfl, HB.out⟩
end Go.Proofs.YtllofneeodnllaaGreatDoor
