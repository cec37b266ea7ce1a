/- Words for lists of byte slices: a slice whose block's type is known; slices of slices. No condition. -/
import Derived.Test.YtimakhadabenbaaGreatDoorPs
namespace Go.Proofs.YtimakhadabenbaaGreatDoor
open Go.RowKit
/-- A part that reads as bytes, in a block of bytes. -/
structure TB (w : World) (p : Part) : Prop where
  rb : RB w w.heap.size p.A p.n p.c p.l
  ty : ∀ ad, p.A = some ad → ∃ cs fr, w.heap[ad.block]? = some (.cells cs 5 fr)
theorem heap_lt {w : World} {g : Nat} {o : Obj} (h : w.heap[g]? = some o) : g < w.heap.size := by
  rcases Nat.lt_or_ge g w.heap.size with hlt | hge
  · exact hlt
  · rw [Array.getElem?_eq_none hge] at h; cases h
theorem TB.below {w w' : World} {p : Part} (h : TB w p) (hb : Below w.heap.size w w') : TB w' p :=
  ⟨h.rb.next hb, fun ad e => by
    obtain ⟨cs, fr, hc⟩ := h.ty ad e
    exact ⟨cs, fr, (hb.block _ (heap_lt hc)).trans hc⟩⟩
theorem TB.kept {w w' : World} {p : Part} {row : Option Nat} (h : TB w p) (hg : w.grownBy w' row) (hne : ∀ ad, p.A = some ad → some ad.block ≠ row) : TB w' p := by
  refine ⟨⟨⟨h.rb.reads.1, fun hn => ?_⟩, h.rb.cap, h.rb.max⟩, fun ad e => ?_⟩
  · obtain ⟨ad, e, hlt, hc⟩ := h.rb.reads.2 hn
    exact ⟨ad, e, Nat.lt_of_lt_of_le hlt hg.size, fun j u hu => (World.cell?_of_block (hg.block _ (by rw [block_of_add]; exact hlt) (by rw [block_of_add]; exact hne ad e))).trans (hc j u hu)⟩
  · obtain ⟨cs, fr, hc⟩ := h.ty ad e
    exact ⟨cs, fr, (hg.block _ (heap_lt hc) (hne ad e)).trans hc⟩
theorem TB.grown {w w' : World} {p : Part} {base : Nat} {e : TypeId} {size n : Nat} {v : Value} {xs : List Value} (h : TB w p) (ho : w.ownsRow base e size v n xs) (hne : e ≠ 5) (hg : w.grownBy w' v.ownBlock) : TB w' p :=
  h.kept hg fun ad e1 e2 => by
    obtain ⟨cs, fr, hc⟩ := h.ty ad e1
    rcases ho.2 with ⟨rfl, _⟩ | ⟨g, cap, cur, rfl, _, hh, _⟩
    · simp [Value.ownBlock] at e2
    · simp [Value.ownBlock] at e2
      rw [e2, hh] at hc
      injection hc with hc
      injection hc with _ ht
      exact hne ht
theorem TB.of_own {w : World} {base : Nat} {A : Option Addr} {c : Nat} {l : List UInt8} (h : w.ownsRow base 5 1 (.slice A l.length c) l.length (bv l)) : TB w ⟨A, l.length, c, l⟩ :=
  ⟨RB.of_own h, fun ad e => by
    rcases h.2 with ⟨hv, _⟩ | ⟨g, cap, cur, hv, _, hh, _⟩
    · injection hv with hA
      rw [hA] at e
      cases e
    · injection hv with hA
      rw [hA] at e
      injection e with e
      subst e
      exact ⟨_, _, hh⟩⟩
theorem own_own_ne {w : World} {b b' : Nat} {e e' : TypeId} {s s' n n' : Nat} {v v' : Value} {xs xs' : List Value} (h : w.ownsRow b e s v n xs) (h' : w.ownsRow b' e' s' v' n' xs') (hne : e ≠ e') : v.ownBlock = none ∨ v.ownBlock ≠ v'.ownBlock := by
  rcases h.2 with ⟨rfl, _⟩ | ⟨g, cap, cur, rfl, _, hh, _⟩
  · exact .inl rfl
  · rcases h'.2 with ⟨rfl, _⟩ | ⟨g', cap', cur', rfl, _, hh', _⟩
    · exact .inr (by simp [Value.ownBlock])
    · refine .inr fun e1 => ?_
      simp [Value.ownBlock] at e1
      subst e1
      rw [hh] at hh'
      injection hh' with hh'
      injection hh' with _ ht
      exact hne ht
def TBs (w : World) (ps : List Part) : Prop := ∀ p ∈ ps, TB w p
theorem TBs.snoc {w : World} {ps : List Part} {p : Part} (h : TBs w ps) (hp : TB w p) : TBs w (ps ++ [p]) := fun x hx => by
  rcases List.mem_append.1 hx with hx | hx
  · exact h x hx
  · simp at hx; subst hx; exact hp
/-- The cells of slices; of peers without addresses. -/
def partCells (ps : List Part) : List Value := ps.map Part.v
def peerCells (ps : List Part) : List Value := ps.flatMap fun p => [p.v, .slice none 0 0]
theorem partCells_snoc (ps : List Part) (p : Part) : partCells (ps ++ [p]) = partCells ps ++ [p.v] := by simp [partCells]
theorem peerCells_snoc (ps : List Part) (p : Part) : peerCells (ps ++ [p]) = peerCells ps ++ [p.v, .slice none 0 0] := by simp [peerCells]
theorem partCells_length (ps : List Part) : (partCells ps).length = ps.length := by simp [partCells]
theorem peerCells_cons (p : Part) (ps : List Part) : peerCells (p :: ps) = p.v :: .slice none 0 0 :: peerCells ps := by simp [peerCells]
theorem peerCells_length (ps : List Part) : (peerCells ps).length = ps.length * 2 := by
  induction ps with
  | nil => rfl
  | cons h hs ih => rw [peerCells_cons]; simp only [List.length_cons, ih]; omega
theorem partCells_one (ps : List Part) : ∀ u ∈ partCells ps, u.oneCell' = true := by
  intro u hu
  simp only [partCells, List.mem_map] at hu
  obtain ⟨x, _, rfl⟩ := hu
  rfl
theorem peerCells_get (ps : List Part) : ∀ i (hi : i < ps.length), (peerCells ps)[i * 2]? = some (ps[i]).v ∧ (peerCells ps)[i * 2 + 1]? = some (.slice none 0 0) := by
  induction ps with
  | nil => intro i hi; exact absurd hi (by simp)
  | cons h hs ih =>
    intro i hi
    rw [peerCells_cons]
    rcases i with _ | i
    · exact ⟨rfl, rfl⟩
    · have := ih i (by simpa using hi)
      rw [show (i + 1) * 2 = i * 2 + 1 + 1 by omega]
      simpa using this
/-- Peers without addresses, as the package has them; strings. -/
def strV (l : List UInt8) : Value := .string ⟨l.toArray⟩
def infoCells (ls : List (List UInt8)) : List Value := ls.flatMap fun l => [strV l, .slice none 0 0]
theorem infoCells_cons (l : List UInt8) (ls : List (List UInt8)) : infoCells (l :: ls) = strV l :: .slice none 0 0 :: infoCells ls := by simp [infoCells]
theorem infoCells_snoc (ls : List (List UInt8)) (l : List UInt8) : infoCells (ls ++ [l]) = infoCells ls ++ [strV l, .slice none 0 0] := by simp [infoCells]
theorem infoCells_length (ls : List (List UInt8)) : (infoCells ls).length = ls.length * 2 := by
  induction ls with
  | nil => rfl
  | cons h hs ih => rw [infoCells_cons]; simp only [List.length_cons, ih]; omega
theorem infoCells_get (ls : List (List UInt8)) : ∀ i (hi : i < ls.length), (infoCells ls)[i * 2]? = some (strV ls[i]) ∧ (infoCells ls)[i * 2 + 1]? = some (.slice none 0 0) := by
  induction ls with
  | nil => intro i hi; exact absurd hi (by simp)
  | cons h hs ih =>
    intro i hi
    rw [infoCells_cons]
    rcases i with _ | i
    · exact ⟨rfl, rfl⟩
    · have := ih i (by simpa using hi)
      rw [show (i + 1) * 2 = i * 2 + 1 + 1 by omega]
      simpa using this
/-- Strings set one by one in a row of empty ones. -/
def strRow (ls : List (List UInt8)) (k : Nat) : List Value := (ls.take k).map strV ++ List.replicate (ls.length - k) (strV [])
theorem strRow_length (ls : List (List UInt8)) (k : Nat) (hk : k ≤ ls.length) : (strRow ls k).length = ls.length := by simp [strRow]; omega
theorem strRow_set (ls : List (List UInt8)) (k : Nat) (hk : k < ls.length) : (strRow ls k).set k (strV ls[k]) = strRow ls (k + 1) := by
  unfold strRow
  have hl : ((ls.take k).map strV).length = k := by simp; omega
  rw [List.set_append_right _ _ (by omega), hl, Nat.sub_self, List.take_succ_eq_append_getElem hk, List.map_append, List.append_assoc]
  congr 1
  rw [show ls.length - k = (ls.length - (k + 1)) + 1 by omega, List.replicate_succ, List.set_cons_zero]
  rfl
theorem strRow_all (ls : List (List UInt8)) : strRow ls ls.length = ls.map strV := by simp [strRow]
/-- A slice of slices of bytes, below block B. -/
structure LS (w : World) (B : Nat) (A : Option Addr) (n c : Nat) (ps : List Part) : Prop where
  len : ps.length = n
  cap : n ≤ c
  max : c ≤ maxLen
  at_ : ∀ i (hi : i < ps.length), ∃ ad, A = some ad ∧ ad.block < B ∧ w.cell? (ad.add i) = some (ps[i]).v ∧ RB w B (ps[i]).A (ps[i]).n (ps[i]).c (ps[i]).l
theorem LS.below {w w' : World} {B : Nat} {A : Option Addr} {n c : Nat} {ps : List Part} (h : LS w B A n c ps) (hb : Below B w w') : LS w' B A n c ps :=
  ⟨h.len, h.cap, h.max, fun i hi => by
    obtain ⟨ad, e, hlt, c0, hr⟩ := h.at_ i hi
    exact ⟨ad, e, hlt, (hb.cell (by rw [block_of_add]; exact hlt)).trans c0, hr.below hb⟩⟩
theorem LS.more {w : World} {B B' : Nat} {A : Option Addr} {n c : Nat} {ps : List Part} (h : LS w B A n c ps) (hB : B ≤ B') : LS w B' A n c ps :=
  ⟨h.len, h.cap, h.max, fun i hi => by
    obtain ⟨ad, e, hlt, c0, hr⟩ := h.at_ i hi
    exact ⟨ad, e, by omega, c0, hr.more hB⟩⟩
theorem LS.of_own {w : World} {base : Nat} {e : TypeId} {A : Option Addr} {n c : Nat} {ps : List Part} (h : w.ownsRow base e 1 (.slice A n c) n (partCells ps)) (hr : TBs w ps) : LS w w.heap.size A n c ps := by
  have hrd := Reads.of_own h
  have hln : ps.length = n := by have := hrd.1; rw [partCells_length] at this; omega
  refine ⟨hln, ?_, ?_, fun i hi => ?_⟩
  · rcases h.2 with ⟨hv, h0⟩ | ⟨g, cap, cur, hv, _, _, hle, _⟩
    · injection hv with _ h1 hc; omega
    · injection hv with _ _ hc; omega
  · rcases h.2 with ⟨hv, h0⟩ | ⟨g, cap, cur, hv, _, _, _, hle, _⟩
    · injection hv with _ _ hc; subst hc; simp [maxLen]
    · injection hv with _ _ hc; subst hc; exact hle
  · obtain ⟨ad, e1, hlt, hc⟩ := hrd.2 (by omega)
    exact ⟨ad, e1, hlt, hc i _ (by simp [partCells, hi]), (hr _ (List.getElem_mem hi)).rb⟩
end Go.Proofs.YtimakhadabenbaaGreatDoor

/- Facts of types, and of a text turned to bytes. No condition. -/
namespace Go.Proofs.YtimakhadabenbaaGreatDoor
open Go.RowKit
theorem aslice_info : (Tryz.prog.info? 27).map (fun i => (i.zero, i.size, i.bytes)) = some (some (.slice none 0 0), 1, 24) := by kernel_rfl
theorem pinfo_size : (Tryz.prog.info? 56).map (·.size) = some 2 := by kernel_rfl
theorem conv_id_tb (w : World) (L : List UInt8) (h : L.length ≤ 1000000) : ∃ c w', (convert 54 27 (.string ⟨L.toArray⟩)).run Tryz.prog w = .ok (.slice (some ⟨w.heap.size, 0, none⟩) L.length c) w' ∧
    TB w' ⟨some ⟨w.heap.size, 0, none⟩, L.length, c, L⟩ ∧ Below w.heap.size w w' ∧ w.heap.size < w'.heap.size := by
  refine ⟨grownCap w L.length 0 5, Lib.bytesWorld w 5 ⟨L.toArray⟩, ?_, ⟨RB.of_bytesWorld w 5 L (by unfold maxLen; omega), fun ad e => by injection e with e; subst e; exact ⟨_, _, Lib.bytesWorld_at_new w 5 _⟩⟩, below_bytesWorld _ _ _, by rw [Lib.bytesWorld_size]; omega⟩
  exact Lib.run_convert_string_bytes (P := Tryz.prog) w 54 27 5 ⟨L.toArray⟩ Tryz.underlying54 Tryz.underlying27 Tryz.underlying5
theorem own_caps {w : World} {base : Nat} {e : TypeId} {size n c : Nat} {A : Option Addr} {xs : List Value} (h : w.ownsRow base e size (.slice A n c) n xs) : n ≤ c ∧ c ≤ maxLen := by
  rcases h.2 with ⟨hv, h0⟩ | ⟨g, cap, cur, hv, _, _, hle, hmx, _⟩
  · injection hv with _ h1 hc
    subst hc
    exact ⟨by omega, by simp [maxLen]⟩
  · injection hv with _ _ hc
    subst hc
    exact ⟨hle, hmx⟩
end Go.Proofs.YtimakhadabenbaaGreatDoor

/- The ID of data has two bytes at least. No condition. -/
namespace Go.Proofs.YtimakhadabenbaaGreatDoor
open Go.RowKit
theorem idOf_two (l : List UInt8) : 2 ≤ (idOf l).length := by
  obtain ⟨x, y, v, d, hid, _⟩ := id_form l
  rw [hid]
  simp
end Go.Proofs.YtimakhadabenbaaGreatDoor
