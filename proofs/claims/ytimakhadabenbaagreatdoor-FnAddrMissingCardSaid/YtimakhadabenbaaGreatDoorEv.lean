/- The argument: a slice of slices of parts, out of what the row says of it. -/
import Derived.Test.YtimakhadabenbaaGreatDoorEr
import Derived.Test.YtimakhadabenbaaGreatDoorPv
namespace Go.Proofs.YtimakhadabenbaaGreatDoor
open Go.ChangeShapes Go.RowKit Go.WideShapes Go.Deep
section
variable {H : Type} {enc : TypeId × Value → H} {W : World} {base : Nat} {spare : Nat → Bool} {held : Bool}
theorem cells_hslice : Tryz.prog.cellsOf 23 = 1 := by kernel_rfl
theorem rows_of {fuel : Nat} {v : Value} {x : DataW H × List MemPlace} (h : DataW.trod enc Tryz.prog W base spare held fuel 22 [v] = some x) : ∃ A n c rs, v = .slice A n c ∧ RS W W.heap.size A n c rs := by
  rcases open_slice Tryz.underlying22 h with ⟨hcs, _⟩ | ⟨a, len, cap, m, k, D, Pl, hcs, _, hl, hmx, hm, _, hel⟩
  · injection hcs with hv _
    exact ⟨none, 0, 0, [], hv, ⟨rfl, by decide, by simp [maxLen], fun i hi => absurd hi (by simp)⟩⟩
  · injection hcs with hv _
    have hml : len ≤ m := by rw [hm]; split <;> omega
    have hf : ∀ i, i < len → ∃ p : Row, W.cell? (a.add i) = some p.v ∧ HS W W.heap.size p.A p.n p.c p.hs := fun i hi => by
      obtain ⟨cs', hc, ht'⟩ := hel i (by omega)
      rw [cells_hslice, Nat.mul_one] at hc
      obtain ⟨_, hcl, hat⟩ := World.cells?_some hc
      obtain ⟨u, rfl⟩ : ∃ u, cs' = [u] := by
        rcases cs' with _ | ⟨u, _ | ⟨u2, cs'⟩⟩
        · simp at hcl
        · exact ⟨u, rfl⟩
        · simp at hcl
      obtain ⟨A, n1, c', l, rfl, hr⟩ := hops_of ht'
      refine ⟨⟨A, n1, c', l⟩, ?_, hr⟩
      have := hat 0 (by decide)
      simpa [Addr.add, Row.v] using this
    refine ⟨some a, len, cap, (List.range len).map fun i => if h : i < len then Classical.choose (hf i h) else ⟨none, 0, 0, []⟩, hv, ⟨by simp, hl, hmx, fun i hi => ?_⟩⟩
    have hil : i < len := by simpa using hi
    have hs := Classical.choose_spec (hf i hil)
    refine ⟨a, rfl, ?_, ?_⟩
    · have := World.block_lt_of_cell? _ _ hs.1
      rwa [block_of_add] at this
    · simp only [List.getElem_map, List.getElem_range, dif_pos hil]
      exact hs
end
end Go.Proofs.YtimakhadabenbaaGreatDoor
