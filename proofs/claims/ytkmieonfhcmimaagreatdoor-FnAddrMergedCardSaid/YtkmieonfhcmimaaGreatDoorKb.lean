/- impl.AddrSplit at the bytes of an address. -/
import Derived.Test.YtkmieonfhcmimaaGreatDoorPr
import Derived.Lib.Bytealg
import Derived.Sort.Statements
import Derived.Shelf.SlSortCmp.Insertion1
namespace Go.Proofs.YtkmieonfhcmimaaGreatDoor
open Go.RowKit
variable {K : Nat}
attribute [local go_sem ↓] Go.wp_at_zero Go.wp_at_succ
/-- Two slices of bytes, and true. -/
def OutBBT (t u : List UInt8) (w : World) (e : Ending) (w' : World) : Prop :=
  ∃ A c B d, e = .returned (.tuple #[.slice A t.length c, .slice B u.length d, .bool true]) ∧ RB w' w'.heap.size A t.length c t ∧ RB w' w'.heap.size B u.length d u ∧ Below w.heap.size w w'
theorem conv_id (w : World) (L : List UInt8) (h : L.length ≤ 1000000) : ∃ c w', (convert 64 32 (.string ⟨L.toArray⟩)).run Tryz.prog w = .ok (.slice (some ⟨w.heap.size, 0, none⟩) L.length c) w' ∧
    RB w' w'.heap.size (some ⟨w.heap.size, 0, none⟩) L.length c L ∧ Below w.heap.size w w' ∧ w.heap.size < w'.heap.size := by
  refine ⟨_, _, ?_, RB.of_bytesWorld w 5 L (by unfold maxLen; omega), below_bytesWorld _ _ _, by rw [Lib.bytesWorld_size]; omega⟩
  have := Lib.run_convert_string_bytes (P := Tryz.prog) w 64 32 5 ⟨L.toArray⟩ Tryz.underlying64 Tryz.underlying32 Tryz.underlying5
  simpa [ByteArray.size] using this
theorem idOf_le (l : List UInt8) : (idOf l).length ≤ 44 := by
  obtain ⟨x, y, v, d, hid, _, _, hd, _⟩ := id_form l
  rw [hid]
  simp
  omega
set_option maxRecDepth 100000 in
set_option maxHeartbeats 2000000 in
theorem isplit_id (A : Option Addr) (n c : Nat) (hs : List Hop) (h : Hop) (w : World) (ht : Tab K w) (hok : ∀ x ∈ hs ++ [h], HopOk K x.kd x.l) (hr : RB w w.heap.size A n c (addrBytes (hs ++ [h]))) (hn : hs.length ≤ 99) (hk : h.kd % 8 = 6) :
    Calls Tryz.prog 22 #[.slice A n c] w (OutBBT (addrBytes hs) (idOf h.l) w) := by
  have q : ∀ (w : World) (a : Option Addr) (n c n' c' : Nat), (binOp .neq 56 (.slice a n c) (.slice none n' c')).run Tryz.prog w = .ok (.bool (!a.isNone)) w := fun w a n c n' c' => run_neq_slice_nil_any w _ _ a n c n' c' Tryz.underlying56
  have HC := Lib.hid (addrof_impl A n c (hs ++ [h]) w ht hok hr (by simp; omega) (by simp))
  have HK := Lib.hid hk
  clear ht hok hr hk
  go_enter Tryz.func22, Tryz.ntmps22
  go_wp2_with fail
  refine HC.out.mono ?_
  rintro e w1 ⟨g, c1, cs1, rfl, hcs, hpr, hms, hb⟩
  have hl1 : cs1.length = hs.length + 1 := by have := congrArg List.length hcs; simpa using this
  obtain ⟨cs, x, rfl⟩ : ∃ cs x, cs1 = cs ++ [x] := ⟨cs1.dropLast, cs1.getLast (by intro e; simp [e] at hl1), (List.dropLast_concat_getLast _).symm⟩
  rw [List.map_append, List.map_cons, List.map_nil] at hcs
  obtain ⟨hcs, hx⟩ := List.append_inj' hcs rfl
  have hx : x.1 = h := by simpa using hx
  have hl : cs.length = hs.length := by rw [← hcs, List.length_map]
  rw [List.length_append, List.length_singleton] at hms ⊢
  have HP := Lib.hid (splitaddr_id g c1 cs x w1 (by omega) (by rw [hx]; exact HK.out) hpr hms)

  have HB := Lib.hid hb
  have HCS := Lib.hid hcs
  have HX := Lib.hid hx
  have HL := Lib.hid hl
  have hidl := idOf_le h.l
  clear hpr hms hcs hx hb hl1 hl
  go_wp2_with fail
  refine HP.out.mono ?_
  rintro e w2 ⟨T, rfl, hT, hb2⟩
  rw [HX.out]
  have HB2 := Lib.hid (HB.out.trans (hb2.mono HB.out.size))
  obtain ⟨L, hL⟩ : ∃ L, L = idOf h.l := ⟨_, rfl⟩
  rw [← hL] at hidl ⊢
  have HLq := Lib.hid hL
  clear hb2 hL
  rcases hT with ⟨rfl, rfl⟩ | ⟨hpos, b, rfl, hm2⟩
  · have h0 : hs = [] := by rw [← HCS.out]; rfl
    subst h0
    obtain ⟨c5, w5, hcv, hr5, hb5, _⟩ := conv_id w2 L (by omega)
    have HR5 := Lib.hid hr5
    have HB5 := Lib.hid (HB2.out.trans (hb5.mono HB2.out.size))
    clear hr5 hb5
    go_wp2_with fail
    go_ret3
    obtain rfl := HLq.out
    exact ⟨none, 0, _, c5, rfl, RB.nil_ _ _, HR5.out, HB5.out⟩
  · have hcl : cs.length ≤ 1000 := by rw [HL.out]; omega
    have HBY := Lib.hid (bytes_any b cs.length cs.length cs w2 hm2 hcl)
    have hcb : compBytes cs = addrBytes hs := by unfold compBytes; rw [HCS.out]
    rw [hcb] at HBY
    have hab := addrBytes_le hs
    obtain ⟨M, hM⟩ : ∃ M, M = addrBytes hs := ⟨_, rfl⟩
    rw [← hM] at HBY hab ⊢
    have HMq := Lib.hid hM
    clear hm2 hcb hM
    go_wp2_with fail
    refine HBY.out.mono ?_
    rintro e w3 ⟨A3, c3, rfl, hr3, hb3⟩
    have HC3 := Lib.hid (clone_any A3 _ c3 M w3 hr3 (by omega))
    have HB3 := Lib.hid (HB2.out.trans (hb3.mono HB2.out.size))
    clear hr3 hb3
    go_wp2_with fail
    refine HC3.out.mono ?_
    rintro e w4 ⟨A4, c4, rfl, hr4, hb4⟩
    obtain ⟨c5, w5, hcv, hr5, hb5, _⟩ := conv_id w4 L (by omega)
    have HR5 := Lib.hid hr5
    have HR4 := Lib.hid (hr4.next hb5)
    have HB5 := Lib.hid ((HB3.out.trans (hb4.mono HB3.out.size)).trans (hb5.mono (Nat.le_trans HB3.out.size hb4.size)))
    clear hr5 hb5 hr4 hb4
    go_wp2_with fail
    go_ret3
    obtain rfl := HLq.out
    obtain rfl := HMq.out
    exact ⟨A4, c4, _, c5, rfl, HR4.out, HR5.out, HB5.out⟩
set_option maxRecDepth 100000 in
set_option maxHeartbeats 2000000 in
theorem isplit_other (A : Option Addr) (n c : Nat) (hs : List Hop) (h : Hop) (w : World) (ht : Tab K w) (hok : ∀ x ∈ hs ++ [h], HopOk K x.kd x.l) (hr : RB w w.heap.size A n c (addrBytes (hs ++ [h]))) (hn : hs.length ≤ 99) (hk : h.kd % 8 ≠ 6) :
    Calls Tryz.prog 22 #[.slice A n c] w (OutBBT (addrBytes (hs ++ [h])) [] w) := by
  have q : ∀ (w : World) (a : Option Addr) (n c n' c' : Nat), (binOp .neq 56 (.slice a n c) (.slice none n' c')).run Tryz.prog w = .ok (.bool (!a.isNone)) w := fun w a n c n' c' => run_neq_slice_nil_any w _ _ a n c n' c' Tryz.underlying56
  have HC := Lib.hid (addrof_impl A n c (hs ++ [h]) w ht hok hr (by simp; omega) (by simp))
  have HK := Lib.hid hk
  clear ht hok hr hk
  go_enter Tryz.func22, Tryz.ntmps22
  go_wp2_with fail
  refine HC.out.mono ?_
  rintro e w1 ⟨g, c1, cs1, rfl, hcs, hpr, hms, hb⟩
  have hcs0 := Lib.hid hcs
  have hl1 : cs1.length = hs.length + 1 := by have := congrArg List.length hcs; simpa using this
  obtain ⟨cs, x, rfl⟩ : ∃ cs x, cs1 = cs ++ [x] := ⟨cs1.dropLast, cs1.getLast (by intro e; simp [e] at hl1), (List.dropLast_concat_getLast _).symm⟩
  rw [List.map_append, List.map_cons, List.map_nil] at hcs
  obtain ⟨hcs, hx⟩ := List.append_inj' hcs rfl
  have hx : x.1 = h := by simpa using hx
  have hl : cs.length = hs.length := by rw [← hcs, List.length_map]
  rw [List.length_append, List.length_singleton] at hms ⊢
  have HP := Lib.hid (splitaddr_other g c1 cs x w1 (by omega) (by rw [hx]; exact HK.out) hpr hms)
  have HB := Lib.hid hb
  have HL := Lib.hid hl
  have HM := Lib.hid hms
  have hab := addrBytes_le (hs ++ [h])
  have hlh : (hs ++ [h]).length ≤ 100 := by simp; omega
  have hcb : compBytes (cs ++ [x]) = addrBytes (hs ++ [h]) := by unfold compBytes; rw [hcs0.out]
  have HCB := Lib.hid hcb
  obtain ⟨M, hM⟩ : ∃ M, M = addrBytes (hs ++ [h]) := ⟨_, rfl⟩
  rw [← hM] at HCB hab ⊢
  have HMq := Lib.hid hM
  clear hpr hms hcs hx hb hl1 hl hcs0 hcb hM
  go_wp2_with fail
  refine HP.out.mono ?_
  rintro e w2 ⟨rfl, hb2⟩
  have hcl : cs.length + 1 ≤ 1000 := by rw [HL.out]; omega
  have HBY := Lib.hid (bytes_any g (cs.length + 1) c1 (cs ++ [x]) w2 (HM.out.below hb2) hcl)
  rw [HCB.out] at HBY
  have HB2 := Lib.hid (HB.out.trans (hb2.mono HB.out.size))
  clear hb2
  go_wp2_with fail
  refine HBY.out.mono ?_
  rintro e w3 ⟨A3, c3, rfl, hr3, hb3⟩
  have HC3 := Lib.hid (clone_any A3 _ c3 M w3 hr3 (by omega))
  have HB3 := Lib.hid (HB2.out.trans (hb3.mono HB2.out.size))
  clear hr3 hb3
  go_wp2_with fail
  refine HC3.out.mono ?_
  rintro e w4 ⟨A4, c4, rfl, hr4, hb4⟩
  obtain ⟨c5, w5, hcv, hr5, hb5, _⟩ := conv_id w4 [] (by decide)
  have HR5 := Lib.hid hr5
  have HR4 := Lib.hid (hr4.next hb5)
  have HB5 := Lib.hid ((HB3.out.trans (hb4.mono HB3.out.size)).trans (hb5.mono (Nat.le_trans HB3.out.size hb4.size)))
  clear hr5 hb5 hr4 hb4
  go_wp2_with fail
  go_ret3
  obtain rfl := HMq.out
  exact ⟨A4, c4, _, c5, rfl, HR4.out, HR5.out, HB5.out⟩
end Go.Proofs.YtkmieonfhcmimaaGreatDoor

/- Words for lists of byte slices: a slice whose block's type is known; slices of slices. No condition. -/
namespace Go.Proofs.YtkmieonfhcmimaaGreatDoor
open Go.RowKit
/-- A part that reads as bytes, in a block of bytes. -/
structure TB (w : World) (p : Part) : Prop where
  rb : RB w w.heap.size p.A p.n p.c p.l
  ty : ∀ ad, p.A = some ad → ∃ cs fr, w.heap[ad.block]? = some (.cells cs 5 fr)
theorem heap_lt {w : World} {g : Nat} {o : Obj} (h : w.heap[g]? = some o) : g < w.heap.size := by
  rcases Nat.lt_or_ge g w.heap.size with hlt | hge
  · exact hlt
  · rw [Array.getElem?_eq_none hge] at h; cases h
theorem TB.below {w w' : World} {p : Part} (h : TB w p) (hb : Below w.heap.size w w') : TB w' p :=
  ⟨h.rb.next hb, fun ad e => by
    obtain ⟨cs, fr, hc⟩ := h.ty ad e
    exact ⟨cs, fr, (hb.block _ (heap_lt hc)).trans hc⟩⟩
theorem TB.kept {w w' : World} {p : Part} {row : Option Nat} (h : TB w p) (hg : w.grownBy w' row) (hne : ∀ ad, p.A = some ad → some ad.block ≠ row) : TB w' p := by
  refine ⟨⟨⟨h.rb.reads.1, fun hn => ?_⟩, h.rb.cap, h.rb.max⟩, fun ad e => ?_⟩
  · obtain ⟨ad, e, hlt, hc⟩ := h.rb.reads.2 hn
    exact ⟨ad, e, Nat.lt_of_lt_of_le hlt hg.size, fun j u hu => (World.cell?_of_block (hg.block _ (by rw [block_of_add]; exact hlt) (by rw [block_of_add]; exact hne ad e))).trans (hc j u hu)⟩
  · obtain ⟨cs, fr, hc⟩ := h.ty ad e
    exact ⟨cs, fr, (hg.block _ (heap_lt hc) (hne ad e)).trans hc⟩
theorem TB.grown {w w' : World} {p : Part} {base : Nat} {e : TypeId} {size n : Nat} {v : Value} {xs : List Value} (h : TB w p) (ho : w.ownsRow base e size v n xs) (hne : e ≠ 5) (hg : w.grownBy w' v.ownBlock) : TB w' p :=
  h.kept hg fun ad e1 e2 => by
    obtain ⟨cs, fr, hc⟩ := h.ty ad e1
    rcases ho.2 with ⟨rfl, _⟩ | ⟨g, cap, cur, rfl, _, hh, _⟩
    · simp [Value.ownBlock] at e2
    · simp [Value.ownBlock] at e2
      rw [e2, hh] at hc
      injection hc with hc
      injection hc with _ ht
      exact hne ht
theorem TB.of_own {w : World} {base : Nat} {A : Option Addr} {c : Nat} {l : List UInt8} (h : w.ownsRow base 5 1 (.slice A l.length c) l.length (bv l)) : TB w ⟨A, l.length, c, l⟩ :=
  ⟨RB.of_own h, fun ad e => by
    rcases h.2 with ⟨hv, _⟩ | ⟨g, cap, cur, hv, _, hh, _⟩
    · injection hv with hA
      rw [hA] at e
      cases e
    · injection hv with hA
      rw [hA] at e
      injection e with e
      subst e
      exact ⟨_, _, hh⟩⟩
theorem own_own_ne {w : World} {b b' : Nat} {e e' : TypeId} {s s' n n' : Nat} {v v' : Value} {xs xs' : List Value} (h : w.ownsRow b e s v n xs) (h' : w.ownsRow b' e' s' v' n' xs') (hne : e ≠ e') : v.ownBlock = none ∨ v.ownBlock ≠ v'.ownBlock := by
  rcases h.2 with ⟨rfl, _⟩ | ⟨g, cap, cur, rfl, _, hh, _⟩
  · exact .inl rfl
  · rcases h'.2 with ⟨rfl, _⟩ | ⟨g', cap', cur', rfl, _, hh', _⟩
    · exact .inr (by simp [Value.ownBlock])
    · refine .inr fun e1 => ?_
      simp [Value.ownBlock] at e1
      subst e1
      rw [hh] at hh'
      injection hh' with hh'
      injection hh' with _ ht
      exact hne ht
def TBs (w : World) (ps : List Part) : Prop := ∀ p ∈ ps, TB w p
theorem TBs.snoc {w : World} {ps : List Part} {p : Part} (h : TBs w ps) (hp : TB w p) : TBs w (ps ++ [p]) := fun x hx => by
  rcases List.mem_append.1 hx with hx | hx
  · exact h x hx
  · simp at hx; subst hx; exact hp
/-- The cells of slices; of peers without addresses. -/
def partCells (ps : List Part) : List Value := ps.map Part.v
def peerCells (ps : List Part) : List Value := ps.flatMap fun p => [p.v, .slice none 0 0]
theorem partCells_snoc (ps : List Part) (p : Part) : partCells (ps ++ [p]) = partCells ps ++ [p.v] := by simp [partCells]
theorem peerCells_snoc (ps : List Part) (p : Part) : peerCells (ps ++ [p]) = peerCells ps ++ [p.v, .slice none 0 0] := by simp [peerCells]
theorem partCells_length (ps : List Part) : (partCells ps).length = ps.length := by simp [partCells]
theorem peerCells_cons (p : Part) (ps : List Part) : peerCells (p :: ps) = p.v :: .slice none 0 0 :: peerCells ps := by simp [peerCells]
theorem peerCells_length (ps : List Part) : (peerCells ps).length = ps.length * 2 := by
  induction ps with
  | nil => rfl
  | cons h hs ih => rw [peerCells_cons]; simp only [List.length_cons, ih]; omega
theorem partCells_one (ps : List Part) : ∀ u ∈ partCells ps, u.oneCell' = true := by
  intro u hu
  simp only [partCells, List.mem_map] at hu
  obtain ⟨x, _, rfl⟩ := hu
  rfl
theorem peerCells_get (ps : List Part) : ∀ i (hi : i < ps.length), (peerCells ps)[i * 2]? = some (ps[i]).v ∧ (peerCells ps)[i * 2 + 1]? = some (.slice none 0 0) := by
  induction ps with
  | nil => intro i hi; exact absurd hi (by simp)
  | cons h hs ih =>
    intro i hi
    rw [peerCells_cons]
    rcases i with _ | i
    · exact ⟨rfl, rfl⟩
    · have := ih i (by simpa using hi)
      rw [show (i + 1) * 2 = i * 2 + 1 + 1 by omega]
      simpa using this
/-- Peers without addresses, as the package has them; strings. -/
def strV (l : List UInt8) : Value := .string ⟨l.toArray⟩
def infoCells (ls : List (List UInt8)) : List Value := ls.flatMap fun l => [strV l, .slice none 0 0]
theorem infoCells_cons (l : List UInt8) (ls : List (List UInt8)) : infoCells (l :: ls) = strV l :: .slice none 0 0 :: infoCells ls := by simp [infoCells]
theorem infoCells_snoc (ls : List (List UInt8)) (l : List UInt8) : infoCells (ls ++ [l]) = infoCells ls ++ [strV l, .slice none 0 0] := by simp [infoCells]
theorem infoCells_length (ls : List (List UInt8)) : (infoCells ls).length = ls.length * 2 := by
  induction ls with
  | nil => rfl
  | cons h hs ih => rw [infoCells_cons]; simp only [List.length_cons, ih]; omega
theorem infoCells_get (ls : List (List UInt8)) : ∀ i (hi : i < ls.length), (infoCells ls)[i * 2]? = some (strV ls[i]) ∧ (infoCells ls)[i * 2 + 1]? = some (.slice none 0 0) := by
  induction ls with
  | nil => intro i hi; exact absurd hi (by simp)
  | cons h hs ih =>
    intro i hi
    rw [infoCells_cons]
    rcases i with _ | i
    · exact ⟨rfl, rfl⟩
    · have := ih i (by simpa using hi)
      rw [show (i + 1) * 2 = i * 2 + 1 + 1 by omega]
      simpa using this
/-- Strings set one by one in a row of empty ones. -/
def strRow (ls : List (List UInt8)) (k : Nat) : List Value := (ls.take k).map strV ++ List.replicate (ls.length - k) (strV [])
theorem strRow_length (ls : List (List UInt8)) (k : Nat) (hk : k ≤ ls.length) : (strRow ls k).length = ls.length := by simp [strRow]; omega
theorem strRow_set (ls : List (List UInt8)) (k : Nat) (hk : k < ls.length) : (strRow ls k).set k (strV ls[k]) = strRow ls (k + 1) := by
  unfold strRow
  have hl : ((ls.take k).map strV).length = k := by simp; omega
  rw [List.set_append_right _ _ (by omega), hl, Nat.sub_self, List.take_succ_eq_append_getElem hk, List.map_append, List.append_assoc]
  congr 1
  rw [show ls.length - k = (ls.length - (k + 1)) + 1 by omega, List.replicate_succ, List.set_cons_zero]
  rfl
theorem strRow_all (ls : List (List UInt8)) : strRow ls ls.length = ls.map strV := by simp [strRow]
/-- A slice of slices of bytes, below block B. -/
structure LS (w : World) (B : Nat) (A : Option Addr) (n c : Nat) (ps : List Part) : Prop where
  len : ps.length = n
  cap : n ≤ c
  max : c ≤ maxLen
  at_ : ∀ i (hi : i < ps.length), ∃ ad, A = some ad ∧ ad.block < B ∧ w.cell? (ad.add i) = some (ps[i]).v ∧ RB w B (ps[i]).A (ps[i]).n (ps[i]).c (ps[i]).l
theorem LS.below {w w' : World} {B : Nat} {A : Option Addr} {n c : Nat} {ps : List Part} (h : LS w B A n c ps) (hb : Below B w w') : LS w' B A n c ps :=
  ⟨h.len, h.cap, h.max, fun i hi => by
    obtain ⟨ad, e, hlt, c0, hr⟩ := h.at_ i hi
    exact ⟨ad, e, hlt, (hb.cell (by rw [block_of_add]; exact hlt)).trans c0, hr.below hb⟩⟩
theorem LS.more {w : World} {B B' : Nat} {A : Option Addr} {n c : Nat} {ps : List Part} (h : LS w B A n c ps) (hB : B ≤ B') : LS w B' A n c ps :=
  ⟨h.len, h.cap, h.max, fun i hi => by
    obtain ⟨ad, e, hlt, c0, hr⟩ := h.at_ i hi
    exact ⟨ad, e, by omega, c0, hr.more hB⟩⟩
theorem LS.of_own {w : World} {base : Nat} {e : TypeId} {A : Option Addr} {n c : Nat} {ps : List Part} (h : w.ownsRow base e 1 (.slice A n c) n (partCells ps)) (hr : TBs w ps) : LS w w.heap.size A n c ps := by
  have hrd := Reads.of_own h
  have hln : ps.length = n := by have := hrd.1; rw [partCells_length] at this; omega
  refine ⟨hln, ?_, ?_, fun i hi => ?_⟩
  · rcases h.2 with ⟨hv, h0⟩ | ⟨g, cap, cur, hv, _, _, hle, _⟩
    · injection hv with _ h1 hc; omega
    · injection hv with _ _ hc; omega
  · rcases h.2 with ⟨hv, h0⟩ | ⟨g, cap, cur, hv, _, _, _, hle, _⟩
    · injection hv with _ _ hc; subst hc; simp [maxLen]
    · injection hv with _ _ hc; subst hc; exact hle
  · obtain ⟨ad, e1, hlt, hc⟩ := hrd.2 (by omega)
    exact ⟨ad, e1, hlt, hc i _ (by simp [partCells, hi]), (hr _ (List.getElem_mem hi)).rb⟩
end Go.Proofs.YtkmieonfhcmimaaGreatDoor

/- The order of bytes, as strings.Compare has it; lists that rise. No condition. -/
namespace Go.Proofs.YtkmieonfhcmimaaGreatDoor
open Go.RowKit
abbrev cmpB := Lib.compareBytes
theorem cmp_refl (a : List UInt8) : cmpB a a = 0 := by
  induction a with
  | nil => rfl
  | cons x a ih => unfold cmpB Lib.compareBytes; rw [if_neg (by simp), if_neg (by simp)]; exact ih
theorem cmp_eq_zero : ∀ (a b : List UInt8), cmpB a b = 0 → a = b
  | [], [], _ => rfl
  | [], _ :: _, h => by simp [cmpB, Lib.compareBytes] at h
  | _ :: _, [], h => by simp [cmpB, Lib.compareBytes] at h
  | x :: a, y :: b, h => by
    unfold cmpB Lib.compareBytes at h
    split at h
    · simp at h
    · split at h
      · simp at h
      · rename_i h1 h2
        have e : x = y := UInt8.le_antisymm (UInt8.not_lt.1 h2) (UInt8.not_lt.1 h1)
        rw [e, cmp_eq_zero a b h]
theorem cmp_swap : ∀ (a b : List UInt8), cmpB b a = - cmpB a b
  | [], [] => rfl
  | [], _ :: _ => by simp [cmpB, Lib.compareBytes]
  | _ :: _, [] => by simp [cmpB, Lib.compareBytes]
  | x :: a, y :: b => by
    unfold cmpB Lib.compareBytes
    by_cases h1 : x < y
    · rw [if_neg (UInt8.not_lt.2 (UInt8.le_of_lt h1)), if_pos h1, if_pos h1]; rfl
    · by_cases h2 : y < x
      · rw [if_pos h2, if_neg h1, if_pos h2]
      · rw [if_neg h2, if_neg h1, if_neg h1, if_neg h2]
        exact cmp_swap a b
theorem cmp_trans : ∀ (a b c : List UInt8), cmpB a b < 0 → cmpB b c < 0 → cmpB a c < 0
  | a, [], c, h, _ => by cases a <;> simp [cmpB, Lib.compareBytes] at h
  | a, _ :: _, [], _, h => by simp [cmpB, Lib.compareBytes] at h
  | [], _ :: _, _ :: _, _, _ => by simp [cmpB, Lib.compareBytes]
  | x :: a, y :: b, z :: c, h1, h2 => by
    unfold cmpB Lib.compareBytes at h1 h2 ⊢
    by_cases xy : x < y
    · by_cases yz : y < z
      · rw [if_pos (UInt8.lt_trans xy yz)]; decide
      · rw [if_neg yz] at h2
        by_cases zy : z < y
        · rw [if_pos zy] at h2; simp at h2
        · have e : y = z := UInt8.le_antisymm (UInt8.not_lt.1 zy) (UInt8.not_lt.1 yz)
          rw [← e, if_pos xy]; decide
    · rw [if_neg xy] at h1
      by_cases yx : y < x
      · rw [if_pos yx] at h1; simp at h1
      · have e : x = y := UInt8.le_antisymm (UInt8.not_lt.1 yx) (UInt8.not_lt.1 xy)
        rw [if_neg yx] at h1
        subst e
        by_cases xz : x < z
        · rw [if_pos xz]; decide
        · rw [if_neg xz] at h2 ⊢
          by_cases zx : z < x
          · rw [if_pos zx] at h2; simp at h2
          · rw [if_neg zx] at h2 ⊢
            exact cmp_trans a b c h1 h2
theorem cmp_cases (a b : List UInt8) : cmpB a b < 0 ∨ a = b ∨ cmpB b a < 0 := by
  have h := cmp_swap a b
  rcases Int.lt_trichotomy (cmpB a b) 0 with h1 | h1 | h1
  · exact .inl h1
  · exact .inr (.inl (cmp_eq_zero a b h1))
  · exact .inr (.inr (by omega))
theorem cmp_irrefl (a : List UInt8) : ¬ cmpB a a < 0 := by rw [cmp_refl]; decide
theorem cmp_ntrans (a b c : List UInt8) (h1 : ¬ cmpB a b < 0) (h2 : ¬ cmpB b c < 0) : ¬ cmpB a c < 0 := by
  intro h
  rcases cmp_cases a b with h3 | h3 | h3
  · exact h1 h3
  · subst h3; exact h2 h
  · exact h2 (cmp_trans b a c h3 h)
/-- A list that rises. -/
def Rises (l : List (List UInt8)) : Prop := l.Pairwise fun a b => cmpB a b < 0
theorem rises_unique : ∀ (l k : List (List UInt8)), Rises l → Rises k → (∀ x, x ∈ l ↔ x ∈ k) → l = k
  | [], [], _, _, _ => rfl
  | [], y :: k, _, _, h => by have := (h y).2 (by simp); simp at this
  | x :: l, [], _, _, h => by have := (h x).1 (by simp); simp at this
  | x :: l, y :: k, hl, hk, h => by
    obtain ⟨hx, hl'⟩ := List.pairwise_cons.1 hl
    obtain ⟨hy, hk'⟩ := List.pairwise_cons.1 hk
    have e : x = y := by
      have h1 := (h x).1 (by simp)
      have h2 := (h y).2 (by simp)
      rcases List.mem_cons.1 h1 with h1 | h1
      · exact h1
      · rcases List.mem_cons.1 h2 with h2 | h2
        · exact h2.symm
        · exact absurd (cmp_trans _ _ _ (hx y h2) (hy x h1)) (cmp_irrefl x)
    subst e
    rw [rises_unique l k hl' hk' (fun z => ?_)]
    have hz := h z
    simp only [List.mem_cons] at hz
    constructor
    · intro hz1
      rcases hz.1 (.inr hz1) with e | h1
      · subst e; exact absurd (hx z hz1) (cmp_irrefl z)
      · exact h1
    · intro hz1
      rcases hz.2 (.inr hz1) with e | h1
      · subst e; exact absurd (hy z hz1) (cmp_irrefl z)
      · exact h1
/-- Each one that is not its forerunner. -/
def dd : List (List UInt8) → List (List UInt8)
  | [] => []
  | [x] => [x]
  | x :: y :: l => if x = y then dd (y :: l) else x :: dd (y :: l)
theorem dd_mem : ∀ (l : List (List UInt8)) (x : List UInt8), x ∈ dd l ↔ x ∈ l
  | [], _ => by simp [dd]
  | [y], _ => by simp [dd]
  | y :: z :: l, x => by
    unfold dd
    split
    · rename_i e
      rw [dd_mem (z :: l) x]
      simp [e]
    · simp [dd_mem (z :: l) x]
theorem dd_rises : ∀ (l : List (List UInt8)), l.Pairwise (fun a b => ¬ cmpB b a < 0) → Rises (dd l)
  | [], _ => by simp [dd, Rises]
  | [_], _ => by simp [dd, Rises]
  | x :: y :: l, h => by
    obtain ⟨hx, hl⟩ := List.pairwise_cons.1 h
    have ih := dd_rises (y :: l) hl
    unfold dd
    split
    · exact ih
    · rename_i hne
      refine List.pairwise_cons.2 ⟨fun z hz => ?_, ih⟩
      have hxy : cmpB x y < 0 := by
        rcases cmp_cases x y with h1 | h1 | h1
        · exact h1
        · exact absurd h1 hne
        · exact absurd h1 (hx y (by simp))
      have hz' := (dd_mem (y :: l) z).1 hz
      rcases List.mem_cons.1 hz' with rfl | hz'
      · exact hxy
      · rcases cmp_cases y z with h1 | h1 | h1
        · exact cmp_trans _ _ _ hxy h1
        · subst h1; exact hxy
        · exact absurd h1 ((List.pairwise_cons.1 hl).1 z hz')
/-- .. from the front: what the loop has kept of the first k + 1. -/
theorem dd_snoc : ∀ (l : List (List UInt8)) (x y : List UInt8), dd (l ++ [x, y]) = if x = y then dd (l ++ [x]) else dd (l ++ [x]) ++ [y]
  | [], x, y => by
    simp only [List.nil_append]
    unfold dd
    split
    · rename_i e; simp [dd, e]
    · simp [dd]
  | [z], x, y => by
    simp only [List.cons_append, List.nil_append]
    have h1 := dd_snoc [] x y
    simp only [List.nil_append] at h1
    unfold dd
    split
    · exact h1.trans (by simp [dd])
    · rw [h1]
      split <;> simp
  | z :: u :: l, x, y => by
    have h1 := dd_snoc (u :: l) x y
    simp only [List.cons_append] at h1 ⊢
    unfold dd
    split
    · rw [h1]
    · rw [h1]
      split <;> simp
end Go.Proofs.YtkmieonfhcmimaaGreatDoor

/- bytes.Compare and the comparison of bytes in memory: the world stays. No condition. -/
namespace Go.Proofs.YtkmieonfhcmimaaGreatDoor
open Go.RowKit
attribute [local go_sem ↓] Go.wp_at_zero Go.wp_at_succ
theorem run_load_bytes {P : Program} (w : World) : ∀ (l : List UInt8) (a : Addr) (acc : ByteArray), (∀ j u, (bv l)[j]? = some u → w.cell? (a.add j) = some u) → (Extern.Bytes.loadBytes a l.length acc).run P w = .ok ⟨acc.data ++ l.toArray⟩ w
  | [], a, acc, _ => by simp [Extern.Bytes.loadBytes]
  | x :: l, a, acc, h => by
    have h0 : w.cell? a = some (.int .u8 x.toNat) := by have := h 0 (.int .u8 x.toNat) (by simp [bv]); simpa [Addr.add] using this
    have ih := run_load_bytes (P := P) w l (a.add 1) (acc.push x) (fun j u hj => by
      have := h (j + 1) u (by simpa [bv] using hj)
      rw [add_of_add, Nat.add_comm 1 j]
      exact this)
    have hx : (x.toNat : Int).toNat.toUInt8 = x := by simp
    simp only [List.length_cons, Extern.Bytes.loadBytes]
    have hld : Sem.run P (Sem.load Mode.plain a Sem.pure) w = .ok (.int .u8 x.toNat) w := by simp [Sem.run, h0]
    simp [load, hld, ih, Result.andThen]
theorem run_bytes_of {P : Program} {w : World} {B : Nat} {A : Option Addr} {n c : Nat} {l : List UInt8} (h : RB w B A n c l) : (Extern.Bytes.bytesOf (.slice A n c)).run P w = .ok ⟨l.toArray⟩ w := by
  have hl := h.len
  rcases A with _ | a
  · have h0 : l = [] := by
      rcases Nat.eq_zero_or_pos n with h0 | h0
      · exact List.eq_nil_of_length_eq_zero (by omega)
      · obtain ⟨ad, e1, _⟩ := h.reads.2 h0
        cases e1
    subst h0
    rfl
  · rcases Nat.eq_zero_or_pos n with h0 | h0
    · subst h0
      obtain rfl := List.eq_nil_of_length_eq_zero hl
      rfl
    · obtain ⟨ad, e1, _, hc⟩ := h.reads.2 h0
      injection e1 with e1
      subst e1
      have := run_load_bytes (P := P) w l a .empty hc
      rw [hl] at this
      simpa [Extern.Bytes.bytesOf] using this
theorem cmp_range (a b : List UInt8) : cmpB a b = -1 ∨ cmpB a b = 0 ∨ cmpB a b = 1 := by
  induction a generalizing b with
  | nil => cases b <;> simp [cmpB, Lib.compareBytes]
  | cons x a ih =>
    cases b with
    | nil => simp [cmpB, Lib.compareBytes]
    | cons y b =>
      unfold cmpB Lib.compareBytes
      split
      · simp
      · split
        · simp
        · exact ih b
theorem run_cmp {P : Program} (A B : Option Addr) (n c m d : Nat) (l l' : List UInt8) (w : World) {b b' : Nat} (h : RB w b A n c l) (h' : RB w b' B m d l') :
    (Extern.BytealgCompare.compare #[.slice A n c, .slice B m d]).run P w = .ok (.int .i64 (cmpB l l')) w := by
  change Sem.run P (do pure (goInt (Extern.BytealgCompare.cmp (← Extern.Bytes.bytesOf (.slice A n c)) (← Extern.Bytes.bytesOf (.slice B m d))))) w = _
  simp only [Sem.run_bind, Sem.run_pure, run_bytes_of h, run_bytes_of h', Result.andThen]
  rw [Lib.cmp_eq]
  rfl
set_option maxRecDepth 100000 in
set_option maxHeartbeats 1000000 in
theorem cmp_bytes (A B : Option Addr) (n c m d : Nat) (l l' : List UInt8) (w : World) {b b' : Nat} (h : RB w b A n c l) (h' : RB w b' B m d l') :
    Calls Tryz.prog 12 #[.slice A n c, .slice B m d] w fun e w' => e = .returned (.int .i64 (cmpB l l')) ∧ w' = w := by
  have hov : (callFunc 33 #[.slice A n c, .slice B m d]).run Tryz.prog w = .ok (.value (.int .i64 (cmpB l l'))) w := by
    rw [run_callFunc_extern Tryz.func33 (by kernel_rfl) (by kernel_rfl) (by kernel_rfl) (e := Extern.BytealgCompare.compare) (by kernel_rfl)]
    rw [run_cmp A B n c m d l l' w h h']
    rfl
  go_enter Tryz.func12, Tryz.ntmps12
  go_wp2_with (simp only [hov])
  go_ret
  exact ⟨rfl, rfl⟩
end Go.Proofs.YtkmieonfhcmimaaGreatDoor

/- The comparison of two peers by their IDs: strings.Compare and the closure. No condition. -/
namespace Go.Proofs.YtkmieonfhcmimaaGreatDoor
open Go Go.RowKit Go.Sort
attribute [local go_sem ↓] Go.wp_at_zero Go.wp_at_succ
set_option maxRecDepth 100000 in
set_option maxHeartbeats 1000000 in
theorem cmp_strn (a b : ByteArray) (w : World) : Calls Tryz.prog 49 #[.string a, .string b] w fun e w' => e = .returned (.int .i64 (cmpB a.data.toList b.data.toList)) ∧ w' = w := by
  have hov : (callFunc 82 #[.string a, .string b]).run Tryz.prog w = .ok (.value (.int .i64 (cmpB a.data.toList b.data.toList))) w := by
    rw [run_callFunc_extern Tryz.func82 (by kernel_rfl) (by kernel_rfl) (by kernel_rfl) (e := Extern.BytealgCompare.compare) (by kernel_rfl)]
    rw [Lib.run_compareString a b w]
    rfl
  generalize cmpB a.data.toList b.data.toList = r at *
  go_enter Tryz.func49, Tryz.ntmps49
  go_wp2_with (simp only [hov])
  go_ret
  exact ⟨rfl, rfl⟩
set_option maxRecDepth 100000 in
set_option maxHeartbeats 1000000 in
theorem cmp_str (a b : ByteArray) (w : World) : Calls Tryz.prog 29 #[.string a, .string b] w fun e w' => e = .returned (.int .i64 (cmpB a.data.toList b.data.toList)) ∧ w' = w := by
  have HC := Lib.hid (cmp_strn a b w)
  generalize cmpB a.data.toList b.data.toList = r at *
  go_enter Tryz.func29, Tryz.ntmps29
  go_wp2_with fail
  refine HC.out.mono ?_
  rintro e w' ⟨rfl, rfl⟩
  go_wp2_with fail
  go_ret
  exact ⟨rfl, rfl⟩
set_option maxRecDepth 100000 in
set_option maxHeartbeats 2000000 in
theorem cmp_infos (A B : Option Addr) (n c m d : Nat) (l l' : List UInt8) (A2 B2 : Option Addr) (n2 c2 m2 d2 : Nat) (w : World) (h : RB w w.heap.size A n c l) (h' : RB w w.heap.size B m d l') :
    Calls Tryz.prog 28 #[.agg #[.slice A n c, .slice A2 n2 c2], .agg #[.slice B m d, .slice B2 m2 d2]] w fun e w' => e = .returned (.int .i64 (cmpB l l')) ∧ ∃ q os', w' = grow (w.drewN q) os' := by
  have hb := ((Below.refl _ w).alloc (Nat.le_refl _) (.cells #[.slice A n c, .slice A2 n2 c2] 44)).alloc (by simp) (.cells #[.slice B m d, .slice B2 m2 d2] 44)
  have cv1 := run_convert_RB (h.next hb) 32 5 Tryz.underlying32 Tryz.underlying5 9 Tryz.underlying9
  have cv2 := run_convert_RB (h'.next hb) 32 5 Tryz.underlying32 Tryz.underlying5 9 Tryz.underlying9
  have HC := Lib.hid (fun W => cmp_str ⟨l.toArray⟩ ⟨l'.toArray⟩ W)
  have e1 : (⟨l.toArray⟩ : ByteArray).data.toList = l := by simp
  have e2 : (⟨l'.toArray⟩ : ByteArray).data.toList = l' := by simp
  rw [e1, e2] at HC
  generalize cmpB l l' = r at *
  clear hb h h'
  go_enter Tryz.func28, Tryz.ntmps28
  go_wp2_with fail
  refine (HC.out _).mono ?_
  rintro e w' ⟨rfl, rfl⟩
  go_wp2_with fail
  go_ret
  exact ⟨rfl, 0, _, by rw [alloc_eq_grow, alloc_eq_grow, grow_grow]; rfl⟩
end Go.Proofs.YtkmieonfhcmimaaGreatDoor
