/- Addresses in memory: what a row of them holds. No condition. -/
import Derived.Test.YtimakhadabenbaaGreatDoorPq
import Derived.Test.YtimakhadabenbaaGreatDoorQm
namespace Go.Proofs.YtimakhadabenbaaGreatDoor
open Go.RowKit
set_option maxRecDepth 100000
/-- An address in memory: its block, its components. -/
structure Tr where
  g : Nat
  c : Nat
  cs : List (Hop × Nat)
def Tr.v (t : Tr) : Value := .slice (some ⟨t.g, 0, none⟩) t.cs.length t.c
def trCells (ts : List Tr) : List Value := ts.map Tr.v
theorem trCells_length (ts : List Tr) : (trCells ts).length = ts.length := by simp [trCells]
theorem trCells_snoc (ts : List Tr) (t : Tr) : trCells (ts ++ [t]) = trCells ts ++ [t.v] := by simp [trCells]
theorem trCells_one (ts : List Tr) : ∀ u ∈ trCells ts, u.oneCell' = true := by
  intro u hu
  simp only [trCells, List.mem_map] at hu
  obtain ⟨t, _, rfl⟩ := hu
  rfl
structure TrOk (w : World) (t : Tr) : Prop where
  ms : MS w t.g t.cs.length t.c t.cs
  pr : PR w t.cs
  pos : 0 < t.cs.length
theorem TrOk.below {w w' : World} {t : Tr} (h : TrOk w t) (hb : Below w.heap.size w w') : TrOk w' t := ⟨h.ms.below hb, h.pr.below hb, h.pos⟩
theorem TrOk.first {w : World} {t : Tr} (h : TrOk w t) : ∃ s, w.cell? ⟨t.g, 0, none⟩ = some (.string s) := by
  obtain ⟨g, c, cs⟩ := t
  rcases cs with _ | ⟨x, cs⟩
  · exact absurd h.pos (by simp)
  · exact ⟨_, h.ms.cell 0 (.string ⟨x.1.bytes.toArray⟩) rfl⟩
theorem TrOk.kept {w w' : World} {t : Tr} {row : Option Nat} (h : TrOk w t) (hg : w.grownBy w' row) (h1 : some t.g ≠ row) (h2 : ∀ x ∈ t.cs, some x.2 ≠ row) : TrOk w' t := by
  refine ⟨⟨h.ms.len, fun j u hu => hg.cell (h.ms.cell j u hu) h1, Nat.lt_of_lt_of_le h.ms.lt hg.size, h.ms.cap, h.ms.max⟩, fun x hx => ?_, h.pos⟩
  obtain ⟨g, hb⟩ := h.pr x hx
  exact ⟨g, hb.grown hg (h2 x hx)⟩
/-- A row of addresses is no address's own block. -/
theorem TrOk.off_row {w : World} {t : Tr} (h : TrOk w t) {base : Nat} {v : Value} {ts : List Tr} (ho : w.ownsRow base 46 1 v ts.length (trCells ts)) (hn : ts = [] → v.ownBlock = none) : some t.g ≠ v.ownBlock ∧ ∀ x ∈ t.cs, some x.2 ≠ v.ownBlock := by
  refine ⟨fun e => ?_, fun x hx e => ?_⟩
  · rcases ts with _ | ⟨t0, ts⟩
    · rw [hn rfl] at e; cases e
    · obtain ⟨s, hs⟩ := h.first
      have := ho.cells e.symm 0 t0.v rfl
      rw [show (⟨t.g, 0, none⟩ : Addr).add 0 = ⟨t.g, 0, none⟩ from rfl, hs] at this
      injection this with this
      cases this
  · obtain ⟨g, hb⟩ := h.pr x hx
    exact own_blk_ne ho hb (by decide) e.symm
theorem TrOk.off_map {w : World} {t : Tr} (h : TrOk w t) {b : Nat} {es : Array MapEntry} {clock : Nat} (hb : w.heap[b]? = some (.map es clock)) : some t.g ≠ some b ∧ ∀ x ∈ t.cs, some x.2 ≠ some b := by
  refine ⟨fun e => ?_, fun x hx e => ?_⟩
  · obtain ⟨s, hs⟩ := h.first
    injection e with e
    subst e
    simp [World.cell?, hb] at hs
  · obtain ⟨g, hk⟩ := h.pr x hx
    injection e with e
    subst e
    unfold Blk at hk
    rw [hb] at hk
    cases hk
theorem mad_info : (Tryz.prog.info? 46).map (fun i => (i.zero, i.size, i.bytes)) = some (some (.slice none 0 0), 1, 24) := by kernel_rfl
/-- What addresses are read of. -/
structure AOk (K : Nat) (hs : List Hop) : Prop where
  ne : hs ≠ []
  le : hs.length ≤ 100
  ok : ∀ x ∈ hs, HopOk K x.kd x.l
theorem TrOk.grown_row {w w' : World} {t : Tr} (h : TrOk w t) {base : Nat} {v : Value} {ts : List Tr} (ho : w.ownsRow base 46 1 v ts.length (trCells ts)) (hn : ts = [] → v.ownBlock = none) (hg : w.grownBy w' v.ownBlock) : TrOk w' t :=
  h.kept hg (h.off_row ho hn).1 (h.off_row ho hn).2
end Go.Proofs.YtimakhadabenbaaGreatDoor
