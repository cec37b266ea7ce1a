/- Words for slices of slices of parts. No condition. -/
import Derived.Test.YtimakhadabenbaaGreatDoorXm
namespace Go.Proofs.YtimakhadabenbaaGreatDoor
open Go.RowKit
/-- A list of parts, as a slice. -/
structure Row where
  A : Option Addr
  n : Nat
  c : Nat
  hs : List Hop
def Row.v (r : Row) : Value := .slice r.A r.n r.c
/-- A slice of slices of parts, below block B. -/
structure RS (w : World) (B : Nat) (A : Option Addr) (n c : Nat) (rs : List Row) : Prop where
  len : rs.length = n
  cap : n ≤ c
  max : c ≤ maxLen
  at_ : ∀ i (hi : i < rs.length), ∃ ad, A = some ad ∧ ad.block < B ∧ w.cell? (ad.add i) = some (rs[i]).v ∧ HS w B (rs[i]).A (rs[i]).n (rs[i]).c (rs[i]).hs
theorem RS.below {w w' : World} {B : Nat} {A : Option Addr} {n c : Nat} {rs : List Row} (h : RS w B A n c rs) (hb : Below B w w') : RS w' B A n c rs :=
  ⟨h.len, h.cap, h.max, fun i hi => by
    obtain ⟨ad, e, hlt, c0, hr⟩ := h.at_ i hi
    exact ⟨ad, e, hlt, (hb.cell (by rw [block_of_add]; exact hlt)).trans c0, hr.below hb⟩⟩
theorem RS.more {w : World} {B B' : Nat} {A : Option Addr} {n c : Nat} {rs : List Row} (h : RS w B A n c rs) (hB : B ≤ B') : RS w B' A n c rs :=
  ⟨h.len, h.cap, h.max, fun i hi => by
    obtain ⟨ad, e, hlt, c0, hr⟩ := h.at_ i hi
    exact ⟨ad, e, by omega, c0, hr.more hB⟩⟩
end Go.Proofs.YtimakhadabenbaaGreatDoor
