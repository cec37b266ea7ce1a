/- The argument: a slice of parts, out of what the row says of it. -/
import Derived.Test.YtimakhadabenbaaGreatDoorXm
import Derived.ChangeSlices
import Derived.ChangeArms
namespace Go.Proofs.YtimakhadabenbaaGreatDoor
open Go.ChangeShapes Go.RowKit
theorem u8_of_wf {n : Int} (h : (Lit.int .u8 n).wf = true) : ∃ b : UInt8, n = b.toNat := by
  have h2 : 0 ≤ n ∧ n ≤ 255 := by
    unfold Lit.wf at h
    rw [Bool.and_eq_true] at h
    exact ⟨by have := of_decide_eq_true h.1; exact this, by have := of_decide_eq_true h.2; exact this⟩
  exact ⟨UInt8.ofNat n.toNat, by simp; omega⟩
section
variable {H : Type} {enc : TypeId × Value → H} {W : World} {base : Nat} {spare : Nat → Bool} {held : Bool}
theorem bytes_of {fuel : Nat} {v : Value} {x : DataW H × List MemPlace} (h : DataW.trod enc Tryz.prog W base spare held fuel 27 [v] = some x) : ∃ A n c l, v = .slice A n c ∧ RB W W.heap.size A n c l := by
  rcases open_ints Tryz.underlying27 Tryz.underlying5 (by kernel_rfl) h with ⟨hcs, _⟩ | ⟨a, len, cap, zs, hcs, _, hl, hm, hz, _, hcell, hwf⟩
  · injection hcs with hv _
    exact ⟨none, 0, 0, [], hv, RB.nil_ _ _⟩
  · injection hcs with hv _
    have hzl : len ≤ zs.length := by rw [hz]; split <;> omega
    have hf : ∀ i, i < len → ∃ b : UInt8, W.cell? (a.add i) = some (.int .u8 b.toNat) := fun i hi => by
      have hc := hcell i (by omega)
      have hmem : zs.getD i 0 ∈ zs := by simp [List.getD, List.getElem?_eq_getElem (show i < zs.length by omega)]
      obtain ⟨b, hb⟩ := u8_of_wf (hwf _ hmem)
      exact ⟨b, by rw [hc, hb]⟩
    refine ⟨some a, len, cap, (List.range len).map fun i => if h : i < len then Classical.choose (hf i h) else 0, hv, ⟨⟨by simp [bv], fun hn => ⟨a, rfl, ?_, fun j u hu => ?_⟩⟩, hl, hm⟩⟩
    · obtain ⟨b, hb⟩ := hf 0 hn
      have := World.block_lt_of_cell? _ _ hb
      rwa [block_of_add] at this
    · have hj : j < len := by
        have := (List.getElem?_eq_some_iff.1 hu).1
        simpa [bv] using this
      have : u = .int .u8 (Classical.choose (hf j hj)).toNat := by
        simp [bv, hj] at hu
        exact hu.symm
      rw [this]
      exact Classical.choose_spec (hf j hj)
theorem hops_of {fuel : Nat} {v : Value} {x : DataW H × List MemPlace} (h : DataW.trod enc Tryz.prog W base spare held fuel 23 [v] = some x) : ∃ A n c hs, v = .slice A n c ∧ HS W W.heap.size A n c hs := by
  rcases open_slice_fields Tryz.underlying23 Tryz.underlying29 (by kernel_rfl) (by kernel_rfl) h with ⟨hcs, _⟩ | ⟨a, len, cap, m, D, Pl, hcs, _, hl, hmx, hm, _, hel⟩
  · injection hcs with hv _
    exact ⟨none, 0, 0, [], hv, ⟨rfl, by decide, by simp [maxLen], fun i hi => absurd hi (by simp)⟩⟩
  · injection hcs with hv _
    have hml : len ≤ m := by rw [hm]; split <;> omega
    have hf : ∀ i, i < len → ∃ hp : Hop, W.cell? (a.add (i * 2)) = some (.int .u8 hp.kd) ∧ W.cell? (a.add (i * 2 + 1)) = some (.slice hp.A hp.n hp.c) ∧ RB W W.heap.size hp.A hp.n hp.c hp.l := fun i hi => by
      obtain ⟨ys, n, _, _, _, hfl⟩ := hel i (by omega)
      obtain ⟨v0, y0, c0, _, t0⟩ := hfl 0 _ rfl
      obtain ⟨v1, y1, c1, _, t1⟩ := hfl 1 _ rfl
      obtain ⟨k, e0, _, hwf⟩ := DataW.trod_int Tryz.underlying5 t0
      injection e0 with e0 _
      obtain ⟨b, rfl⟩ := u8_of_wf hwf
      obtain ⟨A, n1, c', l, rfl, hr⟩ := bytes_of t1
      refine ⟨⟨b.toNat, A, n1, c', l⟩, ?_, ?_, hr⟩
      · rw [e0] at c0
        exact c0
      · exact c1
    refine ⟨some a, len, cap, (List.range len).map fun i => if h : i < len then Classical.choose (hf i h) else ⟨0, none, 0, 0, []⟩, hv, ⟨by simp, hl, hmx, fun i hi => ?_⟩⟩
    have hil : i < len := by simpa using hi
    have hs := Classical.choose_spec (hf i hil)
    refine ⟨a, rfl, ?_, ?_⟩
    · have := World.block_lt_of_cell? _ _ hs.1
      rwa [block_of_add] at this
    · simp only [List.getElem_map, List.getElem_range, dif_pos hil]
      exact hs
end
end Go.Proofs.YtimakhadabenbaaGreatDoor
