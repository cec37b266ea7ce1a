/- stringToBytes: the bytes of an address out of its text. No condition beyond. -/
import Derived.Test.YthpcfnegfdcbjaaGreatDoorMw
import Derived.Test.YthpcfnegfdcbjaaGreatDoorMv
import Derived.Test.YthpcfnegfdcbjaaGreatDoorQm
namespace Go.Proofs.YthpcfnegfdcbjaaGreatDoor
open Go.RowKit
attribute [local go_sem ↓] Go.wp_at_zero Go.wp_at_succ
/-- A slice of texts in a row of its own. -/
structure SL (w : World) (A : Option Addr) (m c : Nat) (xs : List (List UInt8)) : Prop where
  len : xs.length = m
  cells : 0 < m → ∃ (g o : Nat) (cur : Array Value), A = some ⟨g, o, none⟩ ∧ Blk w g 9 cur ∧ ∀ j (h : j < xs.length), cur[o + j]? = some (.string ⟨(xs[j]).toArray⟩)
  cap : m ≤ c
  max : c ≤ maxLen
theorem SL.kept {w w' : World} {A : Option Addr} {m c : Nat} {xs : List (List UInt8)} (h : SL w A m c xs) (hk : ∀ g cur, Blk w g 9 cur → Blk w' g 9 cur) : SL w' A m c xs :=
  ⟨h.len, fun hm => by
    obtain ⟨g, o, cur, h1, h2, h3⟩ := h.cells hm
    exact ⟨g, o, cur, h1, hk g cur h2, h3⟩, h.cap, h.max⟩
theorem SL.below {w w' : World} {A : Option Addr} {m c : Nat} {xs : List (List UInt8)} (h : SL w A m c xs) (hb : Below w.heap.size w w') : SL w' A m c xs := h.kept fun _ _ hk => hk.below hb hk.lt
theorem SL.of_own {w : World} {base : Nat} {A : Option Addr} {n c : Nat} {ts : List (List UInt8)} (h : w.ownsRow base 9 1 (.slice A n c) n (strs ts)) (hl : ts.length = n) : SL w A n c ts := by
  rcases h.2 with ⟨hv, h0⟩ | ⟨g, cap, cur, hv, _, hg, hnc, hmx, hsz, htk⟩
  · injection hv with _ h1 hc
    exact ⟨hl, fun h => by omega, by omega, by subst hc; simp [maxLen]⟩
  · injection hv with hA _ hc
    subst hA
    subst hc
    refine ⟨hl, fun _ => ⟨g, 0, cur, rfl, hg, fun j hj => ?_⟩, hnc, hmx⟩
    have h1 : (strs ts)[j]? = some (.string ⟨(ts[j]).toArray⟩) := by simp [strs, hj]
    rw [← htk, List.getElem?_take] at h1
    split at h1
    · rw [Nat.zero_add]; simpa using h1
    · cases h1
theorem SL.head {w : World} {A : Option Addr} {m c : Nat} {t : List UInt8} {ts : List (List UInt8)} (h : SL w A m c (t :: ts)) : ∃ g o, A = some ⟨g, o, none⟩ ∧ w.cell? ⟨g, o, none⟩ = some (.string ⟨t.toArray⟩) := by
  have hl := h.len
  simp only [List.length_cons] at hl
  obtain ⟨g, o, cur, h1, h2, h3⟩ := h.cells (by omega)
  have := h3 0 (by simp)
  exact ⟨g, o, h1, (h2.cell o).trans this⟩
/-- sp[1:], under a name. -/
theorem run_froms (A : Option Addr) (n c : Nat) (hk : 1 ≤ n) (hc : n ≤ c) : ∃ A', (∀ w : World, (Instr.sliceAt 145 (.slice A n c) (some (.int .i64 1)) none none).run Tryz.prog w = .ok (.slice A' (n - 1) (c - 1)) w) ∧
    ∀ (w : World) (t : List UInt8) (ts : List (List UInt8)), SL w A n c (t :: ts) → SL w A' (n - 1) (c - 1) ts := by
  refine ⟨if c = 1 then A else A.map (·.add 1), fun w => ?_, fun w t ts h => ?_⟩
  · rw [run_sliceAt_slice w 145 _ _ _ _ (by kernel_rfl), run_slice_l w 145 A n c (by kernel_rfl) .i64 1 (by omega) (by omega)]
    go_simp
  · have hl := h.len
    simp only [List.length_cons] at hl
    refine ⟨by omega, fun hm => ?_, by have := h.cap; omega, by have := h.max; omega⟩
    obtain ⟨g, o, cur, h1, h2, h3⟩ := h.cells (by omega)
    rw [if_neg (by omega), h1]
    refine ⟨g, o + 1, cur, by simp [Addr.add], h2, fun j hj => ?_⟩
    have := h3 (j + 1) (by simp; omega)
    rw [Nat.add_assoc, Nat.add_comm 1 j, this]
    rfl
theorem BR.isB {w : World} {b B : Nat} {r : Option Nat} {bs : List Value} (h : BR w b r bs) (hB : B ≤ b) (hr : ∀ g, r = some g → B ≤ g) : Lib.IsBuffer 144 5 B b bs w := by
  obtain ⟨lr, ⟨_, rfl, hb⟩ | ⟨hne, g, cap, cur, e, hgb, hb, hg, h1, h2, h3, h4⟩⟩ := h
  · exact ⟨hB, _, lr, hb, World.ownsRow_nil _ _ _ _, by simp [Value.ownBlock]⟩
  · exact ⟨hB, _, lr, hb, ⟨by rw [Nat.mul_one], .inr ⟨g, cap, cur, rfl, hr g e, hg, h1, h2, by rw [Nat.mul_one]; exact h3, by rw [Nat.mul_one]; exact h4⟩⟩, by simp [Value.ownBlock]; exact hgb⟩
/-- Blocks of other types stay where a buffer is written. -/
theorem KB.blk {w w' : World} {b : Nat} {r : Option Nat} {bs : List Value} (h : KB b r w w') (hb : BR w b r bs) {g : Nat} {t : TypeId} {cur : Array Value} (hg : Blk w g t cur) (h1 : t ≠ 144) (h2 : t ≠ 5) : Blk w' g t cur := by
  have e : w'.heap[g]? = w.heap[g]? := by
    have htag : ∀ {g' : Nat} {t' : TypeId} {cs' : Array Value}, w.heap[g']? = some (.cells cs' t' (0, 0)) → t ≠ t' → g ≠ g' := fun hg' hne e => by
      subst e
      unfold Blk at hg
      rw [hg] at hg'
      injection hg' with hg'
      injection hg' with _ ht
      exact hne ht
    obtain ⟨lr, ⟨rfl, _, hk⟩ | ⟨_, g', cap, cur', rfl, _, hk, hr, _⟩⟩ := hb
    · exact h.block g hg.lt (htag hk h1) (by simp)
    · exact h.block g hg.lt (htag hk h1) (fun e => htag hr h2 (Option.some.inj e))
  exact e.trans hg
/-- A part's bytes: its code, the length of its value where it is of no fixed size, its value. -/
theorem hop_case (kd : Nat) (l s : List UInt8) (h : ValTxt kd l s) :
    (s = [] ∧ (protoOf (codeOf kd)).size = 0 ∧ hopBytes kd l = (protoOf (codeOf kd)).vc) ∨
    (s ≠ [] ∧ kd % 8 ≠ 6 ∧ 0 < (protoOf (codeOf kd)).size ∧ hopBytes kd l = (protoOf (codeOf kd)).vc ++ valB kd l ∧ 1 ≤ (valB kd l).length ∧ (valB kd l).length ≤ 16) ∨
    (s ≠ [] ∧ kd % 8 = 6 ∧ (protoOf (codeOf kd)).size = -1 ∧ hopBytes kd l = (protoOf (codeOf kd)).vc ++ ([UInt8.ofNat (idOf l).length] ++ idOf l)) := by
  have dne : ∀ n, Lib.decDigits n ≠ [] := fun n e => by
    have := congrArg List.length e
    rw [Lib.decDigits_length] at this
    have := Lib.nDigits_pos n
    simp at *; omega
  rcases h with ⟨e, b0, b1, b2, b3, hd, rfl⟩ | ⟨e, b0, b1, hd, rfl⟩ | ⟨e, rfl⟩ | ⟨e, h⟩ | ⟨e, h⟩
  · refine .inr (.inl ⟨by unfold dotted; simp, by omega, by simp [codeOf, e, protoOf], by simp [hopBytes, codeOf, e, protoOf, valB], by simp [valB, e, hd], by simp [valB, e, hd]⟩)
  · refine .inr (.inl ⟨dne _, by omega, ?_, ?_, ?_, ?_⟩) <;> rcases e with e | e <;> simp [hopBytes, codeOf, e, protoOf, valB, hd]
  · refine .inl ⟨rfl, ?_, ?_⟩ <;> rcases e with e | e | e <;> simp [hopBytes, codeOf, e, protoOf]
  · refine .inr (.inr ⟨fun e0 => ?_, e, by simp [codeOf, e, protoOf], by simp [hopBytes, codeOf, e, protoOf]⟩)
    subst e0
    obtain ⟨k, J, D, hs, hk, hz, hnz, hD, hv, hJ, hJ61⟩ := h
    have h1 := enc_pos (idOf_pos l) hnz hv
    have h2 := congrArg (fun b : ByteArray => b.data.toList) hs
    have h3 : ([] : List UInt8) = txt k J D := by simpa using h2
    have h4 := congrArg List.length h3
    rw [txt_length] at h4
    simp at h4; omega
  · have hl := filled_length l 16
    refine .inr (.inl ⟨fun e0 => ?_, by omega, by simp [codeOf, e, protoOf], by simp [hopBytes, codeOf, e, protoOf, valB], by simp [valB, e, hl], by simp [valB, e, hl]⟩)
    subst e0
    have := (txt6_text h).2.2
    simp at this
theorem vc_len (kd : Nat) : 1 ≤ (protoOf (codeOf kd)).vc.length ∧ (protoOf (codeOf kd)).vc.length ≤ 2 ∧ codeOf kd ≠ 0 := by
  have h8 : kd % 8 < 8 := Nat.mod_lt _ (by omega)
  unfold codeOf
  rcases (by omega : kd % 8 = 0 ∨ kd % 8 = 1 ∨ kd % 8 = 2 ∨ kd % 8 = 3 ∨ kd % 8 = 4 ∨ kd % 8 = 5 ∨ kd % 8 = 6 ∨ kd % 8 = 7) with e | e | e | e | e | e | e | e <;> simp [e, protoOf]
/-- A value's text back to its bytes, where it is an ID. -/
theorem stb_id (kd : Nat) (l s : List UInt8) (h : ValTxt kd l s) (hk : kd % 8 = 6) (w : World) : Calls Tryz.prog 398 #[.agg #[.func (Fn.func 200) #[] #[], .func (Fn.func 201) #[] #[], .func (Fn.func 202) #[] #[]], .string ⟨s.toArray⟩] w (OutBF (idOf l) w) := by
  rcases h with ⟨e, _⟩ | ⟨e, _⟩ | ⟨e, _⟩ | ⟨e, h⟩ | ⟨e, _⟩
  · omega
  · omega
  · omega
  · exact twrp_stbf _ _ _ _ _ w ent_p2ps fun w1 _ => p2pstb_f l _ h w1
  · omega
set_option maxRecDepth 100000 in
set_option maxHeartbeats 1000000 in
theorem putu_s (n g : Nat) (w : World) (h : Blk w g 5 #[.int .u8 0]) (hn : n < 128) :
    Calls Tryz.prog 101 #[.slice (some ⟨g, 0, none⟩) 1 1, .int .u64 n] w fun e w' => e = .returned (.int .i64 1) ∧ Blk w' g 5 #[.int .u8 n] ∧ ∀ B, B ≤ g → Below B w w' := by
  have hd : decide ((128 : Int) ≤ (n : Int)) = false := by simp; omega
  have hw : IntKind.u8.wrap (n : Int) = n := by simp [IntKind.wrap, IntKind.bits, IntKind.signed]; omega
  have c0 : w.cell? ⟨g, 0, none⟩ = some (.int .u8 0) := h.cell 0
  have f0 := h.frozen 0
  have H := Lib.hid h
  clear h
  go_enter Tryz.func101, Tryz.ntmps101
  go_wp2_with fail
  refine wp_loop_rounds 1 ?_
  rw [rounds_succ]
  go_wp2_with fail
  go_ret
  exact ⟨rfl, H.out.set_ 0 (.int .u8 n), fun B hB => (Below.refl _ _).setCell (by simpa using hB) _⟩
set_option maxRecDepth 100000 in
set_option maxHeartbeats 1000000 in
theorem touv_x (n : Nat) (h2 : 2 ≤ n) (h44 : n ≤ 44) (w : World) : Calls Tryz.prog 80 #[.int .u64 n] w (OutV [UInt8.ofNat n] w) := by
  have hmk := run_make_bytes 1 (by omega)
  have e1 : ((1 : Nat) : Int) = 1 := rfl
  have e2 : madeCells #[.int .u8 0] (1 * 1) = #[.int .u8 0] := by kernel_rfl
  rw [e1, e2] at hmk
  clear e1 e2
  have hwr : IntKind.u64.wrap (n : Int) = n := by simp [IntKind.wrap, IntKind.bits, IntKind.signed]; omega
  have HU := Lib.hid (usize_id n h2 h44)
  have hbv : (bv [UInt8.ofNat n]).toArray = #[.int .u8 n] := by
    have : (UInt8.ofNat n).toNat = n := by simp; omega
    simp [bv, this]
  go_enter Tryz.func80, Tryz.ntmps80
  go_wp2_with (first
    | (go_at_call 100; refine (HU.out _).mono ?_; rintro e w' ⟨rfl, rfl⟩)
    | (go_at_call 101; refine (putu_s n _ _ (Blk.new _ _ _) (by omega)).mono ?_; rintro e w' ⟨rfl, hB, hb⟩))
  have H := Lib.hid hB
  have HB := Lib.hid (hb w.heap.size (Nat.le_refl _))
  clear hB hb hmk
  go_wp2_with fail
  go_ret
  exact ⟨w.heap.size, rfl, Nat.le_refl _, by rw [hbv]; exact H.out, ((Below.refl _ w).alloc (Nat.le_refl _) _).trans HB.out⟩
/-- The slice of bytes of a value is no buffer. -/
theorem BR.ne_rb {w : World} {b : Nat} {r : Option Nat} {bs : List Value} (h : BR w b r bs) {B : Nat} {A : Option Addr} {n c : Nat} {l : List UInt8} (hr : RB w B A n c l) (hn : 0 < n) : ∃ a, A = some a ∧ a.block ≠ b := by
  have hl := hr.len
  obtain ⟨ad, rfl, _, hc⟩ := hr.at_ (k := 0) hn (by omega)
  refine ⟨ad, rfl, fun e => ?_⟩
  have hz : ad.add 0 = ad := by simp [Addr.add]
  rw [hz] at hc
  obtain ⟨ab, ao, ap⟩ := ad
  have key : ∀ (x : Value) (lr : Int), (∀ k, x ≠ .int .u8 k) → w.heap[b]? = some (.cells #[x, .int .i64 0, .int .i8 lr] 144 (0, 0)) → False := fun x lr hx hb => by
    have e : ab = b := e
    subst e
    simp only [World.cell?, hb] at hc
    rcases ap with _ | ap
    · rcases ao with _ | _ | _ | ao <;> simp at hc
      exact hx _ hc
    · simp at hc
  obtain ⟨lr, ⟨_, _, hb⟩ | ⟨_, g, cap, cur, _, _, hb, _⟩⟩ := h
  · exact key _ lr (fun k h => by cases h) hb
  · exact key _ lr (fun k h => by cases h) hb
theorem toks_len (ps : List (Nat × List UInt8)) : (toks ps).length ≤ 2 * ps.length := by
  induction ps with
  | nil => simp [toks]
  | cons p ps ih =>
    unfold toks at *
    rw [List.flatMap_cons, List.length_append, List.length_cons]
    split <;> simp only [List.length_cons, List.length_nil] <;> omega
theorem RB.src {w : World} {B n c : Nat} {a : Addr} {l : List UInt8} (h : RB w B (some a) n c l) : ∀ j v, (bv l)[j]? = some v → w.cell? (a.add j) = some v := fun j v hj => by
  have hl := h.len
  have hjl : j < l.length := by
    rcases Nat.lt_or_ge j l.length with h' | h'
    · exact h'
    · simp [bv, List.getElem?_eq_none h'] at hj
  obtain ⟨ad, e, _, hc⟩ := h.reads.2 (by omega)
  injection e with e
  subst e
  exact hc j v hj
theorem RB.kb {w w' : World} {b g o n c : Nat} {r : Option Nat} {l : List UInt8} (h : RB w w.heap.size (some ⟨g, o, none⟩) n c l) (hk : KB b r w w') (h1 : g ≠ b) (h2 : some g ≠ r) : RB w' w'.heap.size (some ⟨g, o, none⟩) n c l :=
  ⟨⟨h.reads.1, fun hn => by
    obtain ⟨ad, e, hb, hc⟩ := h.reads.2 hn
    refine ⟨ad, e, Nat.lt_of_lt_of_le hb hk.size, fun j u hu => (World.cell?_of_block ?_).trans (hc j u hu)⟩
    injection e with e
    rw [block_of_add, ← e]
    exact hk.block g (by rw [← e] at hb; exact hb) h1 h2⟩, h.cap, h.max⟩
/-- What a write leaves, put together. -/
theorem wrote {B b : Nat} {r r' : Option Nat} {w w' : World} {bs : List Value} (hk : KB b r w w') (hbr : BR w b r bs) (hr : r' = r ∨ ∃ g, r' = some g ∧ w.heap.size ≤ g) (hB : B ≤ b) (hrg : ∀ g, r = some g → B ≤ g) (hw : B ≤ w.heap.size) :
    Below B w w' ∧ (∀ g, r' = some g → B ≤ g) ∧ ∀ g t cur, t ≠ 144 → t ≠ 5 → Blk w g t cur → Blk w' g t cur :=
  ⟨hk.below hB hrg hw, fun g e => by
    rcases hr with h | ⟨g', h, h2⟩
    · exact hrg g (by rw [← h, e])
    · rw [e] at h
      injection h with h
      omega, fun g t cur h1 h2 hg => hk.blk hbr hg h1 h2⟩
set_option maxHeartbeats 4000000 in
set_option maxRecDepth 100000 in
theorem stbs_x (cs : List (Hop × Nat)) (ps : List (Nat × List UInt8)) (w : World) (hp : Txts cs cs.length ps) (hn : 0 < cs.length) (hn1 : cs.length ≤ 101) (htl : (textOf ps).length ≤ 300 * cs.length) :
    Calls Tryz.prog 57 #[.string ⟨(textOf ps).toArray⟩] w (OutBN (compBytes cs) w) := by
  have q0 : ∀ w : World, (binOp .neq 56 .nilIface .nilIface).run Tryz.prog w = .ok (.bool false) w := fun _ => by kernel_rfl
  have hto := toks_ok hp (Nat.le_refl _)
  have hpl := hp.1
  have htn : toks ps ≠ [] := by
    rcases ps with _ | ⟨p, ps⟩
    · simp at hpl; omega
    · simp [toks]
  obtain ⟨S, ch, hS, hch⟩ := text_end hto htn
  rw [← textOf_toks] at hS
  have HTR := Lib.hid (fun W => trimr_x S ch (by rw [← hS]; omega) hch W)
  have hq : ∀ W, Calls Tryz.prog 76 #[.string ⟨(textOf ps).toArray⟩, .string ⟨#[47]⟩] W fun e w' => ∃ v, e = .returned v ∧ w'.ownsRow W.heap.size 9 1 v ([] :: toks ps).length (strs ([] :: toks ps)) ∧ Below W.heap.size W w' := fun W => by
    have := split_x ([] :: toks ps) (by simp) (fun t ht => by
      rcases List.mem_cons.1 ht with rfl | ht
      · exact NoSl.nil
      · exact (hto t ht).2) (by rw [textOf_join]; omega) (by have := toks_len ps; simp; omega) W
    rw [textOf_join] at this
    exact this
  have HSP := Lib.hid hq
  rw [← hS] at HTR
  have HP := Lib.hid hp
  have HN := Lib.hid hpl
  have HTN := Lib.hid htn
  have HT5 := Lib.hid (show (toks ps).length ≤ 300 from by have := toks_len ps; omega)
  clear hto hp hpl hS hch hq htn
  go_enter Tryz.func57, Tryz.ntmps57
  go_wp2_with fail
  refine (HTR.out _).mono ?_
  rintro e w1 ⟨rfl, hb1⟩
  have HB1 := Lib.hid hb1
  have HBA := Lib.hid (hb1.alloc hb1.size (.cells #[.slice none 0 0, .int .i64 0, .int .i8 0] 144))
  have HBR := Lib.hid (BR.fresh w1)
  clear hb1
  obtain ⟨W, hW⟩ : ∃ W, W = w1.alloc (.cells #[.slice none 0 0, .int .i64 0, .int .i8 0] 144) := ⟨_, rfl⟩
  obtain ⟨b, hb⟩ : ∃ b, b = w1.heap.size := ⟨_, rfl⟩
  rw [← hW] at HBA HBR
  rw [← hb] at HBR
  have HWE := Lib.hid hW
  have HBE := Lib.hid hb
  have hwb := Lib.hid (show w.heap.size ≤ b by rw [hb]; exact HB1.out.size)
  clear hW hb
  go_wp2_with fail
  rw [← HWE.out, ← HBE.out]
  refine (HSP.out W).mono ?_
  rintro e w2 ⟨v, rfl, hown, hb2⟩
  obtain ⟨A2, c2, rfl⟩ := own_slice hown
  have hsl := SL.of_own hown rfl
  obtain ⟨g2, o2, rfl, h20⟩ := hsl.head
  have hcap := hsl.cap
  have hmax : c2 ≤ 9223372036854775807 := hsl.max
  have hl2 : ([] :: toks ps).length = (toks ps).length + 1 := rfl
  rw [hl2] at hsl hcap ⊢
  obtain ⟨A3, hs3, ht3⟩ := run_froms (some ⟨g2, o2, none⟩) ((toks ps).length + 1) c2 (by omega) hcap
  have HSL3 := Lib.hid (ht3 _ _ _ hsl)
  rw [Nat.add_sub_cancel] at hs3 HSL3
  have HB2 := Lib.hid (HBA.out.trans (hb2.mono HBA.out.size))
  have HBR2 := Lib.hid (HBR.out.below hb2)
  have htp : 0 < (toks ps).length := List.length_pos_iff.2 HTN.out
  have htl5 := HT5.out
  have hbq : (((toks ps).length : Int) == 0) = false := by rw [beq_eq_false_iff_ne]; omega
  clear hown hb2 hsl ht3
  go_wp2_with fail
  go_loopw [5] (fun sp wr => ∃ (k : Nat) (A : Option Addr) (c m : Nat) (r : Option Nat), k ≤ cs.length ∧ sp = .slice A m c ∧ SL wr A m c (toks (ps.drop k)) ∧ BR wr b r (bv (compBytes (cs.take k))) ∧ (∀ g, r = some g → w.heap.size ≤ g) ∧ Below w.heap.size w wr) (fun sp _ => sliceLen sp)
  case atStart => exact ⟨0, A3, _, _, none, Nat.zero_le _, rfl, HSL3.out, HBR2.out, fun g e => (by cases e), HB2.out⟩
  case round =>
    clear h20 hcap hmax hl2 hs3 htp htl5 hbq HSL3 HBR2 HB2 HBA HBR HB1 HTR HSP
    obtain ⟨k, A, c, m, r, hk, rfl, hsl, hbr, hrg, hb⟩ := hrel
    have HB := Lib.hid hb
    have HRG := Lib.hid hrg
    by_cases hlt : k < cs.length
    · have hkp : k < ps.length := by rw [HN.out]; exact hlt
      obtain ⟨hx1, hx2⟩ := HP.out.2 k hlt hkp
      obtain ⟨kd, l, s, hv, hds, htk⟩ : ∃ kd l s, ValTxt kd l s ∧ toks (ps.drop k) = nameOf kd :: ((if s = [] then [] else [s]) ++ toks (ps.drop (k + 1))) ∧ compBytes (cs.take (k + 1)) = compBytes (cs.take k) ++ hopBytes kd l := by
        refine ⟨_, _, _, hx2, ?_, compBytes_take cs k hlt⟩
        rw [List.drop_eq_getElem_cons hkp, toks, List.flatMap_cons, hx1]
        rfl
      have hcl := Lib.hid (show (compBytes (cs.take k)).length ≤ 5050 from by
        have h1 := compBytes_le (cs.take k)
        rw [List.length_take] at h1
        omega)
      rw [hds] at hsl
      have hlen := hsl.len
      obtain ⟨m1, rfl⟩ : ∃ m1, m = m1 + 1 := ⟨m - 1, by simp at hlen; omega⟩
      obtain ⟨g, o, rfl, c0⟩ := hsl.head
      have hcap := hsl.cap
      have hmax : c ≤ 9223372036854775807 := hsl.max
      obtain ⟨A1, hs1, ht1⟩ := run_froms (some ⟨g, o, none⟩) (m1 + 1) c (by omega) hcap
      have HSL1 := Lib.hid (ht1 _ _ _ hsl)
      rw [Nat.add_sub_cancel] at hs1 HSL1
      have HBR := Lib.hid hbr
      have HTK := Lib.hid htk
      have HDS := Lib.hid hds
      have hvc := vc_len kd
      have hPN := Lib.hid (pname_x kd wr)
      have HCASE := Lib.hid (hop_case kd l s hv)
      have HV := Lib.hid hv
      obtain ⟨nm, hnm⟩ : ∃ nm, nm = nameOf kd := ⟨_, rfl⟩
      rw [← hnm] at c0 hPN
      obtain ⟨M, hM⟩ : ∃ M, M = compBytes (cs.take k) := ⟨_, rfl⟩
      rw [← hM] at HBR HTK hcl
      have HMM := Lib.hid hM
      clear hb hrg hsl hbr ht1 hx1 hx2 hv htk hds hnm hlen hM
      go_wp2_with fail
      refine hPN.out.mono ?_
      rintro e w3 ⟨gv, rfl, hgv, hv3, hb3⟩
      obtain ⟨KK, hKK⟩ : ∃ KK, KK = codeOf kd := ⟨_, rfl⟩
      rw [← hKK] at hvc hv3 HCASE ⊢
      have HKK := Lib.hid hKK
      have hz : ((KK : Int) == 0) = false := by have := hvc.2.2; simp; omega
      have hk3 := Blk.new w3 99 (pcells KK gv)
      have hp1 : (w3.alloc (.cells (pcells KK gv) 99)).cell? ⟨w3.heap.size, 1, none⟩ = some (.int .i64 KK) := hk3.cell 1
      have hp2 : (w3.alloc (.cells (pcells KK gv) 99)).cell? ⟨w3.heap.size, 2, none⟩ = some (.slice (some ⟨gv, 0, none⟩) (protoOf KK).vc.length (protoOf KK).vc.length) := hk3.cell 2
      have hba := (Below.refl _ w3).alloc (Nat.le_refl _) (.cells (pcells KK gv) 99)
      have hbw4 := hb3.trans (hba.mono hb3.size)
      have HBR4 := HBR.out.below hbw4
      have hbl := HBR.out.lt.1
      have hne : gv ≠ b := by omega
      have hv4 := hv3.below hba hv3.lt
      obtain ⟨vc, hvcE⟩ : ∃ vc, vc = (protoOf KK).vc := ⟨_, rfl⟩
      obtain ⟨sz, hszE⟩ : ∃ sz, sz = (protoOf KK).size := ⟨_, rfl⟩
      obtain ⟨tc, htcE⟩ : ∃ tc, tc = (protoOf KK).tc := ⟨_, rfl⟩
      have hp3 : ∀ w' : World, Blk w' w3.heap.size 99 (pcells KK gv) → w'.cell? ⟨w3.heap.size, 3, none⟩ = some (.int .i64 sz) ∧ w'.cell? ⟨w3.heap.size, 4, none⟩ = some (.bool false) ∧ w'.cell? ⟨w3.heap.size, 5, none⟩ = some tc := fun w' h => ⟨by rw [hszE]; exact h.cell 3, h.cell 4, by rw [htcE]; exact h.cell 5⟩
      have hone := pcells_one KK gv
      rw [← hvcE] at hvc hv4 hp2
      rw [← hvcE, ← hszE] at HCASE
      have HWR := Lib.hid (bufw_x b r (bv M) (bv vc) ⟨gv, 0, none⟩ vc.length vc.length _ HBR4 (bv_one M) (by simp [bv]) hvc.1 (by omega) hne (fun j v hj => by
        rw [show (⟨gv, 0, none⟩ : Addr).add j = ⟨gv, j, none⟩ by unfold Addr.add; split <;> simp_all, hv4.cell j]
        simpa using hj) (bv_one vc) (by rw [bv_length]; have := hcl.out; omega))
      have HK3 := Lib.hid hk3
      have HP3 := Lib.hid hp3
      have HTC := Lib.hid htcE
      have HB3 := Lib.hid (HB.out.trans (hb3.mono HB.out.size))
      have HBW4 := Lib.hid hbw4
      have HBA := Lib.hid hba
      have hlt3 := Lib.hid (show b < w3.heap.size ∧ (∀ g, r = some g → g < w3.heap.size) from ⟨Nat.lt_of_lt_of_le hbl hb3.size, fun g e => Nat.lt_of_lt_of_le (HBR.out.lt.2 g e) hb3.size⟩)
      have hvl := hvc.1
      have hvl2 := hvc.2.1
      clear hk3 hp3 htcE hb3 hbw4 hba hv3 hv4 HBR4 hvcE hszE hvc hgv hKK
      go_wp2_with fail
      rw [run_storeCells_new w3 99 #[.string ⟨#[]⟩, .int .i64 0, .slice none 0 0, .int .i64 0, .bool false, .nilIface] (pcells KK gv) rfl hone]
      obtain ⟨W4, hW4⟩ : ∃ W4, W4 = w3.alloc (.cells (pcells KK gv) 99) := ⟨_, rfl⟩
      obtain ⟨pb, hpb⟩ : ∃ pb, pb = w3.heap.size := ⟨_, rfl⟩
      have HSZ4 := Lib.hid (show W4.heap.size = pb + 1 by rw [hW4, hpb]; simp)
      rw [← hW4] at HK3 HWR hp1 hp2 HBW4 HBA ⊢
      rw [← hpb] at HK3 hp1 hp2 HP3 HBA hlt3 ⊢
      have HPB := Lib.hid hpb
      clear hW4 hpb
      go_wp2_with fail
      refine HWR.out.mono ?_
      rintro e w5 ⟨rfl, hkb5, r5, hbr5, hr5⟩
      have HK5 := Lib.hid (hkb5.blk (HBR.out.below HBW4.out) HK3.out (by decide) (by decide))
      have HSL5 := Lib.hid (((HSL1.out.below HBW4.out).kept fun g cur hg => hkb5.blk (HBR.out.below HBW4.out) hg (by decide) (by decide)))
      have hpw : w.heap.size ≤ pb := by rw [HPB.out]; exact HB3.out.size
      have hsz4 := HSZ4.out
      have hbw4 := hkb5.below (B := w.heap.size) hwb.out HRG.out (by omega)
      have HB5 := Lib.hid ((HB3.out.trans (HBA.out.mono hpw)).trans hbw4)
      have HBR5 := Lib.hid hbr5
      have hs5 := hkb5.size
      have HR5 := Lib.hid (show ∀ g, r5 = some g → w.heap.size ≤ g from fun g e => by
        rcases hr5 with h | ⟨g', h, h2⟩
        · exact HRG.out g (by rw [← h, e])
        · rw [e] at h
          injection h with h
          omega)
      obtain ⟨q3, q4, q5⟩ := HP3.out w5 HK5.out
      have hpl5 : pb < w5.heap.size := by omega
      clear hkb5 hbr5 hr5 hp1 hp2 hbw4
      have hM2 : (M ++ vc).length ≤ 5060 := by rw [List.length_append]; have := hcl.out; omega
      have hbvM : bv M ++ bv vc = bv (M ++ vc) := (bv_append _ _).symm
      rw [hbvM] at HBR5
      obtain ⟨M5, hM5⟩ : ∃ M5, M5 = M ++ vc := ⟨_, rfl⟩
      rw [← hM5] at HBR5 hM2
      have HM5 := Lib.hid hM5
      clear hM5 hbvM HWR HBR HBW4 HBA hs5
      rcases HCASE.out with ⟨hs, hsz, hhb⟩ | ⟨hs, hk6, hsz, hhb, hv1, hv16⟩ | ⟨hs, hk6, hsz, hhb⟩
      · have HHB := Lib.hid hhb
        have HS := Lib.hid hs
        subst hsz
        clear hhb hs
        go_wp2_with fail
        go_roundw
        case rel =>
          refine ⟨k + 1, A1, c - 1, m1, r5, hlt, rfl, ?_, ?_, HR5.out, HB5.out⟩
          · have := HSL5.out
            rw [if_pos HS.out] at this
            exact this
          · rw [HTK.out, HHB.out, ← HM5.out]; exact HBR5.out
        case measure => simp [sliceLen]
      · have hz1 : (sz == 0) = false := by simp; omega
        have hz2 : decide (sz < 0) = false := by simp; omega
        have hml := HSL5.out.len
        rw [if_neg hs, List.length_append, List.length_singleton] at hml
        obtain ⟨m2, rfl⟩ : ∃ m2, m1 = m2 + 1 := ⟨m1 - 1, by omega⟩
        have hm1 : decide ((m2 : Int) + 1 < 1) = false := by simp; omega
        have hm2 : (m2 : Int) + 1 ≤ 9223372036854775807 := by omega
        obtain ⟨fa, fb, v, hv, htc, hstb⟩ := stb_hop kd l s HV.out hs
        have hvn : v = .nilFunc := by
          rcases hv with h | ⟨h, _⟩
          · exact h
          · exact absurd h hk6
        subst hvn
        rw [HTC.out, HKK.out, htc] at q5
        have htcv := htc
        have hm := fun (n : Nat) (w : World) => method_stb fa fb .nilFunc n w
        have hmv := fun (n : Nat) (w : World) => method_val fa fb .nilFunc n w
        have HST := Lib.hid hstb
        have HSL6 := Lib.hid (show SL w5 A1 (m2 + 1) (c - 1) (s :: toks (ps.drop (k + 1))) from by have := HSL5.out; rw [if_neg hs] at this; exact this)
        obtain ⟨g1, o1, rfl, c5⟩ := HSL6.out.head
        have HHB := Lib.hid hhb
        have HHV := Lib.hid (And.intro hv1 hv16)
        have hpk := HK5.out
        obtain ⟨V, hV⟩ : ∃ V, V = valB kd l := ⟨_, rfl⟩
        rw [← hV] at HST HHB HHV
        have HTCV := Lib.hid htcv
        clear hhb hs hsz hk6 hv1 hv16 hv htc hstb HSL5 hV htcv
        go_wp2_with fail
        go_region_with (go_at_call 398; refine (HST.out _).mono ?_; rintro e w6 ⟨A6, c6, rfl, hr6, hb6⟩)
        all_goals (
          have hb56 := ((Below.refl _ w5).drew).trans hb6
          obtain ⟨a6, rfl, hab6⟩ := (HBR5.out.below hb56).ne_rb hr6 HHV.out.1
          have HB6 := Lib.hid (HB5.out.trans (hb56.mono HB5.out.size))
          have HBR6 := Lib.hid (HBR5.out.below hb56)
          have HK6 := Lib.hid (HK5.out.below hb56 HK5.out.lt)
          have HSL7 := Lib.hid (HSL6.out.below hb56)
          have HR6 := Lib.hid hr6
          obtain ⟨p3, p4, p5⟩ := HP3.out w6 HK6.out
          rw [HTC.out, HKK.out, HTCV.out] at p5
          clear hr6 hb6 hb56 q3 q4 q5 c5
          go_wp2_with fail
          refine (twrp_val_nil fa fb (some a6) V.length c6 w6).mono ?_
          rintro e w7 ⟨rfl, hb7⟩
          have HB7 := Lib.hid (HB6.out.trans (hb7.mono HB6.out.size))
          have HBR7 := Lib.hid (HBR6.out.below hb7)
          have HK7 := Lib.hid (HK6.out.below hb7 HK6.out.lt)
          have HSL8 := Lib.hid (HSL7.out.below hb7)
          obtain ⟨q3, q4, q5⟩ := HP3.out w7 HK7.out
          have hv16 := HHV.out.2
          have HW7 := Lib.hid (bufw_x b r5 (bv M5) (bv V) a6 V.length c6 w7 HBR7.out (bv_one M5) (by simp [bv]) HHV.out.1 (by omega) hab6 (HR6.out.next hb7).src (bv_one V) (by rw [bv_length]; omega))
          obtain ⟨A8, hs8, ht8⟩ := run_froms (some ⟨g1, o1, none⟩) (m2 + 1) (c - 1) (by omega) HSL8.out.cap
          rw [Nat.add_sub_cancel] at hs8 ht8
          clear hb7 p3 p4 p5
          go_wp2_with fail
          refine HW7.out.mono ?_
          rintro e w8 ⟨rfl, hkb8, r8, hbr8, hr8⟩
          obtain ⟨k1, k2, k3⟩ := wrote hkb8 HBR7.out hr8 hwb.out HR5.out HB7.out.size
          have HB8 := Lib.hid (HB7.out.trans k1)
          have HR8 := Lib.hid k2
          have HSL9 := Lib.hid (ht8 _ _ _ (HSL8.out.kept fun g cur hg => k3 g _ cur (by decide) (by decide) hg))
          have HBR8 := Lib.hid hbr8
          clear hkb8 hbr8 hr8 k1 k2 k3 q3 q4 q5
          go_wp2_with fail
          go_roundw
          case rel =>
            refine ⟨k + 1, A8, c - 1 - 1, m2, r8, hlt, rfl, HSL9.out, ?_, HR8.out, HB8.out⟩
            have := HBR8.out
            rw [HM5.out] at this
            rw [HTK.out, HHB.out, ← List.append_assoc, bv_append]
            exact this
          case measure => simp [sliceLen]; omega)
      · have hz1 : (sz == 0) = false := by rw [hsz]; rfl
        have hz2 : decide (sz < 0) = true := by rw [hsz]; rfl
        have hml := HSL5.out.len
        rw [if_neg hs, List.length_append, List.length_singleton] at hml
        obtain ⟨m2, rfl⟩ : ∃ m2, m1 = m2 + 1 := ⟨m1 - 1, by omega⟩
        have hm1 : decide ((m2 : Int) + 1 < 1) = false := by simp; omega
        have hm2 : (m2 : Int) + 1 ≤ 9223372036854775807 := by omega
        have htcv : (protoOf (codeOf kd)).tc = .iface 185 (.agg #[.func (Fn.func 200) #[] #[], .func (Fn.func 201) #[] #[], .func (Fn.func 202) #[] #[]]) := by simp [codeOf, hk6, protoOf, fnv]
        rw [HTC.out, HKK.out, htcv] at q5
        have hm := fun (n : Nat) (w : World) => method_stb 200 201 (.func (Fn.func 202) #[] #[]) n w
        have hmv := fun (n : Nat) (w : World) => method_val 200 201 (.func (Fn.func 202) #[] #[]) n w
        have HST := Lib.hid (fun w => stb_id kd l s HV.out hk6 w)
        have HPV := Lib.hid (pval_id l)
        have HSL6 := Lib.hid (show SL w5 A1 (m2 + 1) (c - 1) (s :: toks (ps.drop (k + 1))) from by have := HSL5.out; rw [if_neg hs] at this; exact this)
        obtain ⟨g1, o1, rfl, c5⟩ := HSL6.out.head
        have HHB := Lib.hid hhb
        have hv2 := idOf_two l
        have hv44 := idOf_le l
        obtain ⟨V, hV⟩ : ∃ V, V = idOf l := ⟨_, rfl⟩
        rw [← hV] at HST HHB HPV hv2 hv44
        have HTCV := Lib.hid htcv
        clear hhb hs hsz hk6 HSL5 hV htcv
        go_wp2_with fail
        go_region_with (go_at_call 398; refine (HST.out _).mono ?_; rintro e w6 ⟨g6, o6, c6, rfl, hf6, hr6, hb6⟩)
        all_goals (
          have hb56 := ((Below.refl _ w5).drew).trans hb6
          have hf5 : w5.heap.size ≤ g6 := hf6
          have hgb6 : g6 ≠ b := by have := HBR5.out.lt.1; omega
          have hgr6 : some g6 ≠ r5 := fun e => by have := HBR5.out.lt.2 g6 e.symm; omega
          have HGR6 := Lib.hid hgr6
          have HB6 := Lib.hid (HB5.out.trans (hb56.mono HB5.out.size))
          have HBR6 := Lib.hid (HBR5.out.below hb56)
          have HK6 := Lib.hid (HK5.out.below hb56 HK5.out.lt)
          have HSL7 := Lib.hid (HSL6.out.below hb56)
          have HR6 := Lib.hid hr6
          obtain ⟨p3, p4, p5⟩ := HP3.out w6 HK6.out
          rw [HTC.out, HKK.out, HTCV.out] at p5
          clear hr6 hb6 hb56 q3 q4 q5 c5 hf6 hf5 hgr6
          go_wp2_with fail
          refine (twrp_val_func _ _ _ _ V.length c6 w6 ent_p2pv (fun w1 hw1 => HPV.out _ c6 w1 (HR6.out.next hw1))).mono ?_
          rintro e w7 ⟨rfl, hb7⟩
          have HB7 := Lib.hid (HB6.out.trans (hb7.mono HB6.out.size))
          have HBR7 := Lib.hid (HBR6.out.below hb7)
          have HK7 := Lib.hid (HK6.out.below hb7 HK6.out.lt)
          have HSL8 := Lib.hid (HSL7.out.below hb7)
          have HR7 := Lib.hid (HR6.out.next hb7)
          obtain ⟨q3, q4, q5⟩ := HP3.out w7 HK7.out
          have hwr : IntKind.u64.wrap (V.length : Int) = V.length := by simp [IntKind.wrap, IntKind.bits, IntKind.signed]; omega
          have HTU := Lib.hid (touv_x V.length hv2 hv44)
          clear hb7 p3 p4 p5
          go_wp2_with fail
          refine (HTU.out _).mono ?_
          rintro e w8 ⟨g8, rfl, hg8, hv8, hb8⟩
          have hgb8 : g8 ≠ b := by have := HBR7.out.lt.1; omega
          have HB8 := Lib.hid (HB7.out.trans (hb8.mono HB7.out.size))
          have HBR8 := Lib.hid (HBR7.out.below hb8)
          have HSL9 := Lib.hid (HSL8.out.below hb8)
          have HR8 := Lib.hid (HR7.out.next hb8)
          have HW8 := Lib.hid (bufw_x b r5 (bv M5) (bv [UInt8.ofNat V.length]) ⟨g8, 0, none⟩ 1 1 w8 HBR8.out (bv_one M5) (by simp [bv]) (Nat.le_refl _) (by omega) hgb8 (fun j v hj => by
            rw [show (⟨g8, 0, none⟩ : Addr).add j = ⟨g8, j, none⟩ by unfold Addr.add; split <;> simp_all, hv8.cell j]
            simpa using hj) (bv_one _) (by rw [bv_length]; omega))
          clear hb8 hv8 hg8
          go_wp2_with fail
          refine HW8.out.mono ?_
          rintro e w9 ⟨rfl, hkb9, r9, hbr9, hr9⟩
          obtain ⟨k1, k2, k3⟩ := wrote hkb9 HBR8.out hr9 hwb.out HR5.out HB8.out.size
          have HB9 := Lib.hid (HB8.out.trans k1)
          have HR9 := Lib.hid k2
          have HSLA := Lib.hid (HSL9.out.kept fun g cur hg => k3 g _ cur (by decide) (by decide) hg)
          have HRV := Lib.hid (HR8.out.kb hkb9 hgb6 HGR6.out)
          have hbv9 : bv M5 ++ bv [UInt8.ofNat V.length] = bv (M5 ++ [UInt8.ofNat V.length]) := (bv_append _ _).symm
          rw [hbv9] at hbr9
          have HBR9 := Lib.hid hbr9
          have HWA := Lib.hid (bufw_x b r9 (bv (M5 ++ [UInt8.ofNat V.length])) (bv V) ⟨g6, o6, none⟩ V.length c6 w9 hbr9 (bv_one _) (by simp [bv]) (by omega) (by omega) hgb6 HRV.out.src (bv_one V) (by rw [bv_length, List.length_append, List.length_singleton]; omega))
          obtain ⟨A8, hs8, ht8⟩ := run_froms (some ⟨g1, o1, none⟩) (m2 + 1) (c - 1) (by omega) HSLA.out.cap
          rw [Nat.add_sub_cancel] at hs8 ht8
          clear hkb9 hbr9 hr9 k1 k2 k3 hbv9 q3 q4 q5
          go_wp2_with fail
          refine HWA.out.mono ?_
          rintro e wa ⟨rfl, hkba, ra, hbra, hra⟩
          obtain ⟨k1, k2, k3⟩ := wrote hkba HBR9.out hra hwb.out HR9.out HB9.out.size
          have HBA := Lib.hid (HB9.out.trans k1)
          have HRA := Lib.hid k2
          have HSLB := Lib.hid (ht8 _ _ _ (HSLA.out.kept fun g cur hg => k3 g _ cur (by decide) (by decide) hg))
          have HBRA := Lib.hid hbra
          clear hkba hbra hra k1 k2 k3
          go_wp2_with fail
          go_roundw
          case rel =>
            refine ⟨k + 1, A8, c - 1 - 1, m2, ra, hlt, rfl, HSLB.out, ?_, HRA.out, HBA.out⟩
            have := HBRA.out
            rw [HM5.out, ← bv_append] at this
            rw [HTK.out, HHB.out]
            simpa using this
          case measure => simp [sliceLen]; omega)
    · obtain rfl : k = cs.length := by omega
      have hk0 : ps.drop cs.length = [] := List.drop_of_length_le (by rw [HN.out]; exact Nat.le_refl _)
      rw [hk0] at hsl
      obtain rfl : 0 = m := hsl.len
      rw [List.take_of_length_le (Nat.le_refl _)] at hbr
      have HBY := Lib.hid (Tryz.Buffer_Bytes w.heap.size b (bv (compBytes cs)) wr (hbr.isB hwb.out hrg))
      clear hb hrg hsl hbr hk0
      go_wp2_with fail
      refine HBY.out.mono ?_
      rintro e w3 ⟨v, rfl, hown, n, rfl⟩
      rw [bv_length] at hown
      obtain ⟨A4, c4, rfl⟩ := own_slice hown
      have HRB := Lib.hid (RB.of_own hown)
      have HB3 := Lib.hid (below_drewN HB.out n)
      clear hown
      go_wp2_with fail
      go_ret2
      exact ⟨A4, c4, rfl, HRB.out, HB3.out⟩
end Go.Proofs.YthpcfnegfdcbjaaGreatDoor
