/- Base58's decoder: the walk. -/
import Derived.Test.YthpcfnegfdcbjaaGreatDoorBc
import Derived.BigRegion
namespace Go.Proofs.YthpcfnegfdcbjaaGreatDoor
open Go.RowKit
attribute [local go_sem ↓] Go.wp_at_zero Go.wp_at_succ
/-- Words in a block, the least one last. -/
structure Wds (w : World) (b O : Nat) (W : Nat → Nat) : Prop where
  blk : ∃ ys, Blk w b 130 ys ∧ ys.size = O
  at_ : ∀ j, j < O → w.cell? ⟨b, j, none⟩ = some (.int .u32 (W (O - 1 - j)))
  lt : ∀ i, W i < 4294967296
theorem Wds.frozen {w : World} {b O : Nat} {W : Nat → Nat} (h : Wds w b O W) (i : Nat) : w.frozen? ⟨b, i, none⟩ = false := by
  obtain ⟨ys, hb, _⟩ := h.blk
  exact hb.frozen i
theorem Wds.set {w : World} {b O : Nat} {W : Nat → Nat} (h : Wds w b O W) (t e : Nat) (he : e = O - 1 - t) (ht : t < O) (v : Nat) (hv : v < 4294967296) : Wds (w.setCell ⟨b, e, none⟩ (.int .u32 v)) b O (setD W t v) := by
  obtain ⟨ys, hb, hs⟩ := h.blk
  refine ⟨⟨_, hb.set_ _ _, by simp [hs]⟩, fun j hj => ?_, fun k => ?_⟩
  · by_cases h1 : j = e
    · rw [h1, blk_set_same hb _ _ (by omega)]
      unfold setD
      rw [if_pos (by omega)]
    · rw [blk_set_cell hb _ _ _ h1, h.at_ j hj]
      unfold setD
      rw [if_neg (by omega)]
  · unfold setD
    split
    · exact hv
    · exact h.lt k
theorem made_at (v : Value) (n j : Nat) (hj : j < n) : (madeCells #[v] n)[j]? = some v := by
  have h := toList_madeCells_one v n
  rw [← Array.getElem?_toList, h]
  simp [hj]
theorem Wds.new {w : World} {b O : Nat} {X : Array Value} (h : Blk w b 130 X) (hX : X = madeCells #[Value.int .u32 0] O) : Wds w b O (fun _ => 0) :=
  ⟨⟨_, h, by rw [hX, size_madeCells]⟩, fun j hj => by rw [h.cell, hX, made_at _ _ _ hj]; rfl, fun _ => by decide⟩
theorem wval_zero (O : Nat) : wval (fun _ => 0) O = 0 := by
  induction O with
  | zero => rfl
  | succ m ih => rw [wval, ih]; simp
/-- The bytes of a number, the greatest one first. -/
def byteAt (V n q : Nat) : Nat := V / 256 ^ (n - 1 - q) % 256
def beL (V n : Nat) : List UInt8 := (List.range n).map fun q => UInt8.ofNat (byteAt V n q)
/-- What the decoder gives. -/
def DecR (V n k : Nat) (R : List UInt8) : Prop :=
  (R = beL V n ∧ ∀ q, q < n → byteAt V n q = 0) ∨ ∃ n0, n0 < n ∧ (∀ q, q < n0 → byteAt V n q = 0) ∧ byteAt V n n0 ≠ 0 ∧ R = (beL V n).drop (n0 - k)
theorem u32_info : (Tryz.prog.info? 130).map (fun i => (i.zero, i.size, i.bytes)) = some (some (.int .u32 0), 1, 4) := by kernel_rfl
theorem pow_words (O : Nat) : (4294967296 : Nat) ^ O = 256 ^ (4 * O) := by
  rw [show (4294967296 : Nat) = 256 ^ 4 by decide, ← Nat.pow_mul]
/-- The bytes that are laid so far, zeros behind them. -/
structure Bin (w : World) (b Bn : Nat) (f : Nat → Nat) (c : Nat) : Prop where
  blk : ∃ ys, Blk w b 5 ys ∧ ys.size = Bn
  lo : ∀ q, q < c → w.cell? ⟨b, q, none⟩ = some (.int .u8 (f q))
  hi : ∀ q, c ≤ q → q < Bn → w.cell? ⟨b, q, none⟩ = some (.int .u8 0)
theorem Bin.new {w : World} {b Bn : Nat} {f : Nat → Nat} {X : Array Value} (h : Blk w b 5 X) (hX : X = madeCells #[Value.int .u8 0] Bn) : Bin w b Bn f 0 :=
  ⟨⟨_, h, by rw [hX, size_madeCells]⟩, fun q hq => absurd hq (by omega), fun q _ hq => by rw [h.cell, hX, made_at _ _ _ hq]⟩
theorem Bin.frozen {w : World} {b Bn : Nat} {f : Nat → Nat} {c : Nat} (h : Bin w b Bn f c) (i : Nat) : w.frozen? ⟨b, i, none⟩ = false := by
  obtain ⟨ys, hb, _⟩ := h.blk
  exact hb.frozen i
theorem Bin.put {w : World} {b Bn : Nat} {f : Nat → Nat} {c : Nat} (h : Bin w b Bn f c) (hc : c < Bn) (v : Nat) (hv : v = f c) : Bin (w.setCell ⟨b, c, none⟩ (.int .u8 v)) b Bn f (c + 1) := by
  obtain ⟨ys, hb, hs⟩ := h.blk
  refine ⟨⟨_, hb.set_ _ _, by simp [hs]⟩, fun q hq => ?_, fun q h1 h2 => ?_⟩
  · by_cases e : q = c
    · rw [e, blk_set_same hb _ _ (by omega), hv]
    · rw [blk_set_cell hb _ _ _ e]
      exact h.lo q (by omega)
  · rw [blk_set_cell hb _ _ _ (by omega)]
    exact h.hi q (by omega) h2
theorem Wds.far {w : World} {b O b2 : Nat} {W : Nat → Nat} (h : Wds w b O W) (hne : b ≠ b2) (i : Nat) (v : Value) : Wds (w.setCell ⟨b2, i, none⟩ v) b O W := by
  obtain ⟨ys, hb, hs⟩ := h.blk
  have hk := hb.far (p := ⟨b2, i, none⟩) hne v
  refine ⟨⟨ys, hk, hs⟩, fun j hj => ?_, h.lt⟩
  rw [hk.cell j, ← hb.cell j]
  exact h.at_ j hj
theorem byte_word (y t : Nat) (ht : t < 4) : y % 4294967296 / 2 ^ (8 * t) % 256 = y / 256 ^ t % 256 := by
  have h4 : t = 0 ∨ t = 1 ∨ t = 2 ∨ t = 3 := by omega
  rcases h4 with rfl | rfl | rfl | rfl
  · simp only [Nat.mul_zero, Nat.pow_zero, Nat.div_one]; omega
  · show y % 4294967296 / 256 % 256 = y / 256 % 256; omega
  · show y % 4294967296 / 65536 % 256 = y / 65536 % 256; omega
  · show y % 4294967296 / 16777216 % 256 = y / 16777216 % 256; omega
theorem word_byte {W : Nat → Nat} (hl : ∀ i, W i < 4294967296) {O n V i t q : Nat} (hV : wval W O = V) (hi : i < O) (ht : t < 4) (hq : n - 1 - q = 4 * i + t) : W i / 2 ^ (8 * t) % 256 = byteAt V n q := by
  unfold byteAt
  rw [hq, ← wval_at O (fun k _ => hl k) i hi, byte_word _ t ht, hV, Nat.pow_add, ← pow_words, Nat.div_div_eq_div_mul]
theorem dec_round {dg : Nat → Nat} (hlt : ∀ q, dg q < 58) {n r O cc dd : Nat} {E W : Nat → Nat} (hr : r < n) (hs : wval E O + cc * 4294967296 ^ O = dd + 58 * wval W O) (hd : dg r = dd) (hw : wval W O = nv dg r) (hO : n ≤ 4 * O) : wval E O = nv dg (r + 1) ∧ cc = 0 := by
  have h1 : nv dg (r + 1) = nv dg r * 58 + dg r := rfl
  have h2 := nv_lt dg hlt (r + 1)
  have h3 : 58 ^ (r + 1) ≤ 58 ^ n := Nat.pow_le_pow_right (by decide) hr
  have h4 : 58 ^ n ≤ 256 ^ n := Nat.pow_le_pow_left (by decide) n
  have h5 : 256 ^ n ≤ 256 ^ (4 * O) := Nat.pow_le_pow_right (by decide) hO
  rw [← pow_words] at h5
  rw [hw, ← hd] at hs
  rcases Nat.eq_zero_or_pos cc with rfl | hc
  · exact ⟨by omega, rfl⟩
  · have h6 : 1 * 4294967296 ^ O ≤ cc * 4294967296 ^ O := Nat.mul_le_mul_right _ hc
    omega
theorem top_lt (E : Nat → Nat) {O n r bl : Nat} (hv : wval E O < 58 ^ r) (hr : r ≤ n) (hO : 0 < O) (hn : n = 4 * (O - 1) + bl) : E (O - 1) < 256 ^ bl := by
  obtain ⟨m, rfl⟩ : ∃ m, O = m + 1 := ⟨O - 1, by omega⟩
  rw [Nat.add_sub_cancel] at hn ⊢
  rw [wval] at hv
  have h3 : 58 ^ r ≤ 58 ^ n := Nat.pow_le_pow_right (by decide) hr
  have h4 : 58 ^ n ≤ 256 ^ n := Nat.pow_le_pow_left (by decide) n
  have h5 : 256 ^ n = 256 ^ bl * 4294967296 ^ m := by rw [pow_words, hn, Nat.pow_add, Nat.mul_comm]
  have h6 : E m * 4294967296 ^ m < 256 ^ bl * 4294967296 ^ m := by omega
  exact Nat.lt_of_mul_lt_mul_right h6
theorem beL_length (V n : Nat) : (beL V n).length = n := by simp [beL]
theorem Bin.rb {w : World} {b Bn V n : Nat} (h : Bin w b Bn (byteAt V n) n) (hn : n ≤ Bn) (hm : Bn ≤ maxLen) : RB w w.heap.size (some ⟨b, 0, none⟩) n Bn (beL V n) := by
  obtain ⟨ys, hb, _⟩ := h.blk
  refine ⟨⟨by rw [bv_length, beL_length, Nat.mul_one], fun _ => ⟨⟨b, 0, none⟩, rfl, hb.lt, fun j u hu => ?_⟩⟩, hn, hm⟩
  have hj : j < n := by
    rcases Nat.lt_or_ge j n with h1 | h1
    · exact h1
    · rw [List.getElem?_eq_none (by rw [bv_length, beL_length]; exact h1)] at hu
      cases hu
  rw [bv_get (beL V n) j (by rw [beL_length]; exact hj)] at hu
  injection hu with hu
  subst hu
  have h2 := h.lo j hj
  have h3 : byteAt V n j < 256 := Nat.mod_lt _ (by decide)
  have h4 : ((beL V n)[j]'(by rw [beL_length]; exact hj)).toNat = byteAt V n j := by
    simp only [beL, List.getElem_map, List.getElem_range, UInt8.toNat_ofNat']
    exact Nat.mod_eq_of_lt h3
  rw [h4, ← h2]
  unfold Addr.add
  split <;> simp_all
theorem dec_fin {V n k b Bn s : Nat} {w wr : World} (h : Bin wr b Bn (byteAt V n) n) (hn : n < Bn) (hm : Bn < 340) (hs : s ≤ n) (hR : DecR V n k ((beL V n).drop s)) (hf : w.heap.size ≤ b) (hb : Below w.heap.size w wr) : ∃ (g o c : Nat) (R : List UInt8), Ending.returned (.tuple #[.slice (some ⟨b, s, none⟩) (n - s) (Bn - s), .nilIface]) = .returned (.tuple #[.slice (some ⟨g, o, none⟩) R.length c, .nilIface]) ∧ w.heap.size ≤ g ∧ DecR V n k R ∧ RB wr wr.heap.size (some ⟨g, o, none⟩) R.length c R ∧ Below w.heap.size w wr := by
  have hl : ((beL V n).drop s).length = n - s := by rw [List.length_drop, beL_length]
  refine ⟨b, s, Bn - s, (beL V n).drop s, by rw [hl], hf, hR, ?_, hb⟩
  have h1 := (h.rb (Nat.le_of_lt hn) (by unfold maxLen; omega)).drop hs
  rw [if_neg (by omega)] at h1
  rw [hl]
  have h2 : (some (⟨b, 0, none⟩ : Addr)).map (·.add s) = some ⟨b, s, none⟩ := by
    unfold Addr.add
    simp only [Option.map_some]
    split <;> simp_all
  rw [h2] at h1
  exact h1
theorem zero_step {f : Nat → Nat} {i n : Nat} (h : ∀ y, y < i → y < n → f y = 0) (hi : f i = 0) : ∀ y, y < i + 1 → y < n → f y = 0 := fun y h1 h2 => by
  rcases Nat.lt_or_ge y i with h3 | h3
  · exact h y h3 h2
  · rw [show y = i by omega]
    exact hi
theorem meas_sub {a b c s : Nat} (h : c = a + s) (hs : s < b) : a + b - (intOf (Value.int IntKind.i64 ((c : Int) + 1))).toNat < a + b - (intOf (Value.int IntKind.i64 (c : Int))).toNat := by
  simp only [intOf]
  omega
theorem cast_byte (x mk : Nat) : (x : Int) / 2 ^ mk % 256 = ((x / 2 ^ mk % 256 : Nat) : Int) := by simp
set_option maxHeartbeats 4000000 in
set_option maxRecDepth 100000 in
theorem dec58_x (L : List UInt8) (dg : Nat → Nat) (n k : Nat) (w : World) (p : Nat) (xs : Array Value) (hp : Blk w p 337 xs) (ha : AlpX xs 58) (hl : L.length = n) (hn0 : 0 < n) (hn : n ≤ 110)
    (hdg : ∀ q (h : q < L.length), L[q] = letter (dg q)) (hlt : ∀ q, dg q < 58) (hk : k ≤ n) (hz : ∀ q, q < k → dg q = 0) (hnz : k < n → dg k ≠ 0) :
    Calls Tryz.prog 332 #[.string ⟨L.toArray⟩, .pointer (some ⟨p, 0, none⟩)] w fun e w' => ∃ (g o c : Nat) (R : List UInt8), e = .returned (.tuple #[.slice (some ⟨g, o, none⟩) R.length c, .nilIface]) ∧ w.heap.size ≤ g ∧ DecR (nv dg n) n k R ∧ RB w' w'.heap.size (some ⟨g, o, none⟩) R.length c R ∧ Below w.heap.size w w' := by
  obtain ⟨i0, hi0, hz0, hz1, hz2⟩ := info_parts u8_info
  have hsm : ∀ b ∈ L, b.toNat < 128 := fun b hb => by
    obtain ⟨q, hq, rfl⟩ := List.getElem_of_mem hb
    rw [hdg q hq]
    exact letter_small _ (hlt q)
  obtain ⟨cr, w1, hcv, hcap, hmax, ⟨ys, hys, hyv⟩, hb1⟩ := conv_runes w L hsm (by omega)
  rw [hl] at hcv hcap
  have hsz : (⟨L.toArray⟩ : ByteArray).size = n := by simp [ByteArray.size, hl]
  have HP := Lib.hid hp
  have HA := Lib.hid ha
  have HYS := Lib.hid hys
  have HYV := Lib.hid hyv
  have HB1 := Lib.hid hb1
  have HDG := Lib.hid hdg
  have HLT := Lib.hid hlt
  have HZ := Lib.hid hz
  have HNZ := Lib.hid hnz
  have HL := Lib.hid hl
  have hn00 : ((n : Int) == 0) = false := by simp; omega
  obtain ⟨S, hS⟩ : ∃ S : ByteArray, S = ⟨L.toArray⟩ := ⟨_, rfl⟩
  rw [← hS] at hcv hsz ⊢
  clear hp ha hys hyv hb1 hdg hlt hz hnz hl hsm hS
  obtain ⟨O, hO⟩ : ∃ O, O = (n + 3) / 4 := ⟨_, rfl⟩
  have o1 : ((n : Int) + 3) / 4 = (O : Int) := by omega
  obtain ⟨j0, hj0, jz0, jz1, jz2⟩ := info_parts u32_info
  obtain ⟨Bn, hBn⟩ : ∃ Bn, Bn = (n + 3) * 3 := ⟨_, rfl⟩
  obtain ⟨X1, hX1⟩ : ∃ X1, X1 = madeCells #[Value.int .u8 0] Bn := ⟨_, rfl⟩
  obtain ⟨X2, hX2⟩ : ∃ X2, X2 = madeCells #[Value.int .u32 0] O := ⟨_, rfl⟩
  have hmk : ∀ W : World, (Instr.makeSlice 26 (.int .i64 (((n : Int) + 3) * 3)) (.int .i64 (((n : Int) + 3) * 3))).run Tryz.prog W = .ok (.slice (some ⟨W.heap.size, 0, none⟩) Bn Bn) (W.alloc (.cells X1 5)) := fun W => by
    have := run_make_rowN (P := Tryz.prog) 26 5 i0 (.int .u8 0) Tryz.underlying26 hi0 hz0 .i64 .i64 Bn Bn (Nat.le_refl _) (by rw [hz2]; omega) (by omega) W
    rw [hz1, Nat.mul_one, show ((Bn : Nat) : Int) = ((n : Int) + 3) * 3 by omega] at this
    rw [hX1]
    exact this
  have hmk2 : ∀ W : World, (Instr.makeSlice 293 (.int .i64 (((n : Int) + 3) / 4)) (.int .i64 (((n : Int) + 3) / 4))).run Tryz.prog W = .ok (.slice (some ⟨W.heap.size, 0, none⟩) O O) (W.alloc (.cells X2 130)) := fun W => by
    have := run_make_rowN (P := Tryz.prog) 293 130 j0 (.int .u32 0) Tryz.underlying293 hj0 jz0 .i64 .i64 O O (Nat.le_refl _) (by rw [jz2]; omega) (by omega) W
    rw [jz1, Nat.mul_one, ← o1] at this
    rw [hX2]
    exact this
  have x0 : w1.cell? ⟨p, 128, none⟩ = some (.int .u8 (letter 0).toNat) := by rw [(HP.out.below HB1.out HP.out.lt).cell]; exact HA.out.enc 0 (by omega)
  have hp1 : p < w1.heap.size := (HP.out.below HB1.out HP.out.lt).lt
  obtain ⟨z0, hz00⟩ : ∃ z0 : Nat, z0 = (letter 0).toNat := ⟨_, rfl⟩
  rw [← hz00] at x0
  have zw : IntKind.i32.wrap (z0 : Int) = (z0 : Int) := IntWalk.i32_in _ (by have := letter_small 0 (by omega); omega)
  have HZ0 := Lib.hid hz00
  have HX1 := Lib.hid hX1
  have HX2 := Lib.hid hX2
  have HBn := Lib.hid hBn
  have HO := Lib.hid hO
  have hO28 : O ≤ 28 := by omega
  have hO0 : 0 < O := by omega
  have HO1 := Lib.hid o1
  obtain ⟨bq, hbq⟩ : ∃ bq, bq = n % 4 := ⟨_, rfl⟩
  have b5 : (n : Int) % 4 = (bq : Int) := by omega
  have HBQ := Lib.hid hbq
  have hbq4 : bq < 4 := by omega
  clear hi0 hz0 hz1 hz2 hj0 jz0 jz1 jz2 hz00 hX1 hX2 hBn hO o1 hbq
  obtain ⟨w2, hw2⟩ : ∃ w2, w2 = (w1.alloc (.cells X1 5)).alloc (.cells X2 130) := ⟨_, rfl⟩
  have hb2 : Below w1.heap.size w1 w2 := by rw [hw2]; exact ((Below.refl _ w1).alloc (Nat.le_refl _) _).alloc (by simp) _
  have HB2 := Lib.hid (HB1.out.trans (hb2.mono HB1.out.size))
  have HY2 := Lib.hid (HYS.out.below hb2 HYS.out.lt)
  have HK1 := Lib.hid (show Blk w2 w1.heap.size 5 X1 by rw [hw2]; exact (Blk.new w1 _ _).alloc _)
  have HK2 := Lib.hid (show Blk w2 (w1.heap.size + 1) 130 X2 by rw [hw2]; exact Blk.new_ (by simp) _ _)
  have HP2 := Lib.hid ((HP.out.below HB1.out HP.out.lt).below hb2 hp1)
  have HW2 := Lib.hid hw2
  have hpw : w.heap.size < w1.heap.size := HYS.out.lt
  clear hw2 hb2
  obtain ⟨bl, hbl⟩ : ∃ bl, bl = if bq = 0 then 4 else bq := ⟨_, rfl⟩
  have HBL := Lib.hid (show n = 4 * (O - 1) + bl ∧ 1 ≤ bl ∧ bl ≤ 4 by
    have h1 := HO.out
    have h2 := HBQ.out
    split at hbl <;> omega)
  rcases Nat.eq_zero_or_pos bq with hb0 | hb0
  case' inl =>
    have hbl2 : bl = 4 := by rw [hbl, if_pos hb0]
    have HAND := Lib.hid (show ∀ x : Nat, x < 256 ^ bl → bits .and .u32 (x : Int) 0 = 0 from fun x hx => and_zero x (by rw [hbl2] at hx; exact hx))
    have HBE := Lib.hid hbl
    clear hbl hbl2
    have b6 : decide ((0 : Int) < (n : Int) % 4) = false := by simp; omega
    go_enter Tryz.func332, Tryz.ntmps332
    go_wp2_with fail
  case' inr =>
    have hbl2 : bl = bq := by rw [hbl, if_neg (by omega)]
    have HAND := Lib.hid (show ∀ x : Nat, x < 256 ^ bl → bits .and .u32 (x : Int) (4294967295 * 2 ^ (bq * 8) % 4294967296) = 0 from fun x hx => and_mask bq hbq4 x (by rw [hbl2] at hx; exact hx))
    have HBE := Lib.hid hbl
    clear hbl hbl2
    have b6 : decide ((0 : Int) < (n : Int) % 4) = true := by simp; omega
    go_enter Tryz.func332, Tryz.ntmps332
    go_wp2_with fail
  --DEV rotate_left; sorry
  all_goals
    rw [← HW2.out]
    go_loopw [9, 17] (fun zv iv wr => ∃ q : Nat, q ≤ k ∧ zv = .int .i64 q ∧ iv = .int .i64 q ∧ wr = w2) (fun _ iv _ => n - (intOf iv).toNat)
    case atStart => exact ⟨0, by omega, rfl, rfl, rfl⟩
    case round =>
      obtain ⟨q, hq, rfl, rfl, hww⟩ := hrel
      cases hww
      by_cases hlq : q < k
      · have hqn : q < n := by omega
        have c0 : w2.cell? ⟨w.heap.size, q, none⟩ = some (.int .i32 z0) := by
          rw [HY2.out.cell q, HYV.out q (by rw [HL.out]; exact hqn), HDG.out q (by rw [HL.out]; exact hqn), HZ.out q hlq, HZ0.out]
        go_wp2_with fail
        go_roundw
        case rel => exact ⟨q + 1, by omega, by go_num, by go_num, trivial⟩
        case measure => simp [intOf]; omega
      · obtain rfl : q = k := by omega
        have hstop : q < n → ∃ y : Nat, w2.cell? ⟨w.heap.size, q, none⟩ = some (.int .i32 y) ∧ ((y : Int) == (z0 : Int)) = false := fun hqn => by
          refine ⟨(letter (dg q)).toNat, ?_, ?_⟩
          · rw [HY2.out.cell q, HYV.out q (by rw [HL.out]; exact hqn), HDG.out q (by rw [HL.out]; exact hqn)]
          · have h1 : (letter (dg q)).toNat ≠ z0 := fun e => HNZ.out hqn (letter_inj _ _ (HLT.out q) (by decide) (UInt8.toNat_inj.1 (e.trans HZ0.out)))
            simp
            omega
        have HNZ2 := Lib.hid hlq
        clear hlq
        by_cases hqn : q < n
        case' pos => obtain ⟨y, c0, hy0⟩ := hstop hqn
        --DEV rotate_left; sorry
        all_goals
          clear hstop
          go_wp2_with fail
          go_loopw [6, 8, 75] (fun tv cv iv wr => ∃ (r : Nat) (W : Nat → Nat), r ≤ n ∧ (∃ tx, tv = .int .u64 tx) ∧ (∃ cx, cv = .int .u32 cx) ∧ iv = .int .i64 r ∧ Wds wr (w1.heap.size + 1) O W ∧ wval W O = nv dg r ∧ Below (w1.heap.size + 1) w2 wr) (fun _ _ iv _ => n - (intOf iv).toNat)
          case atStart => exact ⟨0, fun _ => 0, by omega, ⟨_, rfl⟩, ⟨_, rfl⟩, rfl, Wds.new HK2.out HX2.out, wval_zero O, Below.refl _ _⟩
          case round =>
            obtain ⟨r, W, hr, ⟨tx, rfl⟩, ⟨cx, rfl⟩, rfl, hwd, hwv, hb⟩ := hrel
            have HWD := Lib.hid hwd
            have HWV := Lib.hid hwv
            have HB := Lib.hid hb
            clear hwd hwv hb
            by_cases hlr : r < n
            · have hdd := HLT.out r
              obtain ⟨y, hy⟩ : ∃ y : Nat, y = (letter (dg r)).toNat := ⟨_, rfl⟩
              have hy127 : y < 128 := by rw [hy]; exact letter_small _ hdd
              have c0 : wr.cell? ⟨w.heap.size, r, none⟩ = some (.int .i32 y) := by
                rw [HB.out.cell (p := ⟨w.heap.size, r, none⟩) (show w.heap.size < w1.heap.size + 1 by omega), HY2.out.cell r, HYV.out r (by rw [HL.out]; exact hlr), HDG.out r (by rw [HL.out]; exact hlr), hy]
              have c1 : wr.cell? ⟨p, y, none⟩ = some (.int .i8 (dg r)) := by
                rw [HB.out.cell (p := ⟨p, y, none⟩) (show p < w1.heap.size + 1 by omega), HP2.out.cell y, hy]
                exact HA.out.dec (dg r) hdd hdd
              have HR := Lib.hid (And.intro hy rfl : y = (letter (dg r)).toNat ∧ nv dg (r + 1) = nv dg r * 58 + dg r)
              generalize hdr : dg r = dd at c1 hdd
              have HDR := Lib.hid hdr
              have d1 : decide ((127 : Int) < (y : Int)) = false := by simp; omega
              have d2 : ((dd : Int) == -1) = false := by simp <;> omega
              have d3 : IntKind.u32.wrap (dd : Int) = (dd : Int) := IntWalk.u32_in _ (by omega)
              clear hy hdr
              go_wp2_with fail
              have hO1 := HO1.out
              go_loopw [6, 8, 20] (fun tv cv jv wq => ∃ (t cc : Nat) (jx : Int) (E : Nat → Nat), t ≤ O ∧ (∃ tx, tv = .int .u64 tx) ∧ cv = .int .u32 cc ∧ cc < 58 ∧ jv = .int .i64 jx ∧ jx = (O : Int) - 1 - t ∧ Wds wq (w1.heap.size + 1) O E ∧ (∀ i, t ≤ i → i < O → E i = W i) ∧ wval E t + cc * 4294967296 ^ t = dd + 58 * wval W t ∧ Below (w1.heap.size + 1) w2 wq) (fun _ _ jv _ => (intOf jv + 1).toNat)
              case atStart => exact ⟨0, dd, ((n : Int) + 3) / 4 - 1, W, by omega, ⟨_, rfl⟩, rfl, hdd, rfl, by omega, HWD.out, fun _ _ _ => rfl, by simp [wval], HB.out⟩
              case round =>
                obtain ⟨t, cc, jx, E, ht, ⟨tx, rfl⟩, rfl, hcc, rfl, hjx, hwe, hE, hsum, hb⟩ := hrel
                have HWE := Lib.hid hwe
                have HE := Lib.hid hE
                have HSUM := Lib.hid hsum
                have HB3 := Lib.hid hb
                clear hwe hE hsum hb hO1
                by_cases htO : t < O
                · obtain ⟨e, he⟩ : ∃ e, e = O - 1 - t := ⟨_, rfl⟩
                  obtain rfl : jx = (e : Int) := by omega
                  have heO : e < O := by omega
                  have c2 := HWE.out.at_ e heO
                  have het : E (O - 1 - e) = W t := by rw [show O - 1 - e = t by omega]; exact HE.out t (Nat.le_refl _) htO
                  rw [het] at c2
                  have hlw := HWD.out.lt t
                  have f2 := HWE.out.frozen e
                  have hstep := word_step W E t cc dd HSUM.out
                  obtain ⟨T, hT⟩ : ∃ T, T = W t * 58 + cc := ⟨_, rfl⟩
                  rw [← hT] at hstep
                  have hset := fun (v : Nat) (hv : v < 4294967296) => HWE.out.set t e he htO v hv
                  have HSTEP := Lib.hid hstep
                  have HSET := Lib.hid hset
                  generalize hWt : W t = v at c2 hlw hT
                  have HWt := Lib.hid hWt
                  have hT2 : T < 249108103168 := by omega
                  have t1 : (v : Int) * 58 + (cc : Int) = (T : Int) := by omega
                  have HEQ := Lib.hid (And.intro he (And.intro hjx hT))
                  have A1 := Lib.hid (show bits .and .u32 ((T : Int) / 4294967296) 63 = ((T / 4294967296 : Nat) : Int) by
                    have := and_63 (T / 4294967296) (by omega)
                    rwa [Int.natCast_ediv] at this ⊢)
                  have A2 := Lib.hid (show bits .and .u64 (T : Int) 4294967295 % 4294967296 = ((T % 4294967296 : Nat) : Int) by
                    rw [and_low T (by omega)]
                    omega)
                  clear het hstep hset hWt hT he hjx
                  go_wp2_with fail
                  exact ⟨⟨t + 1, T / 4294967296, (e : Int) - 1, setD E t (T % 4294967296), by omega, ⟨_, rfl⟩, by rw [A1.out], by omega, rfl, by have := HEQ.out; omega, by rw [A2.out]; exact HSET.out _ (Nat.mod_lt _ (by decide)), fun i h1 h2 => by unfold setD; rw [if_neg (by omega)]; exact HE.out i (by omega) h2, HSTEP.out, HB3.out.setCell (p := ⟨w1.heap.size + 1, e, none⟩) (Nat.le_refl _) _⟩, by simp only [intOf]; omega⟩
                · obtain rfl : O = t := by omega
                  have hV : wval E O = nv dg (r + 1) ∧ cc = 0 := dec_round (HLT.out) hlr HSUM.out (by rw [HDR.out]) HWV.out (by have := HBL.out; omega)
                  obtain ⟨hV, rfl⟩ := hV
                  have c3 := HWE.out.at_ 0 hO0
                  have hx := top_lt E (by rw [hV]; exact nv_lt dg HLT.out (r + 1)) (show r + 1 ≤ n by omega) hO0 HBL.out.1
                  have hand := HAND.out _ hx
                  rw [Nat.sub_zero] at c3
                  generalize E (O - 1) = x at c3 hand
                  have HV := Lib.hid hV
                  have jneg : decide ((0 : Int) ≤ jx) = false := by simp; omega
                  clear hV hx hjx
                  go_wp2_with fail
                  exact ⟨⟨r + 1, E, by omega, ⟨_, rfl⟩, ⟨_, rfl⟩, by go_num, HWE.out, HV.out, HB3.out⟩, by simp [intOf]; omega⟩
            · obtain rfl : n = r := by omega
              go_wp2_with fail
              have hbin := Bin.new (w := wr) (f := byteAt (nv dg n) n) ((HK1.out).below HB.out (Nat.lt_succ_self _)) HX1.out
              go_loopw [14, 21, 22, 23] (fun bv jv cv _ wr => ∃ j b c0 : Nat, j ≤ O ∧ jv = .int .i64 j ∧ bv = .int .i64 b ∧ cv = .int .i64 c0 ∧ b = (if j = 0 then bl else 4) ∧ c0 = (if j = 0 then 0 else bl + 4 * (j - 1)) ∧ Bin wr w1.heap.size Bn (byteAt (nv dg n) n) c0 ∧ Wds wr (w1.heap.size + 1) O W ∧ Below w1.heap.size w2 wr) (fun _ jv _ _ _ => O - (intOf jv).toNat)
              case atStart => exact ⟨0, bl, 0, by omega, rfl, by have h1 := HBE.out; have h2 := HBQ.out; congr 1; split at h1 <;> omega, rfl, rfl, rfl, hbin, HWD.out, HB.out.mono (Nat.le_succ _)⟩
              case round =>
                obtain ⟨j, b, c0, hj, rfl, rfl, rfl, hbj, hcj, hbi, hwd, hb⟩ := hrel
                have HBI := Lib.hid hbi
                have HWD2 := Lib.hid hwd
                have HB4 := Lib.hid hb
                have HCJ := Lib.hid (And.intro hbj hcj)
                clear hbi hwd hb hbin
                have hO1 := HO1.out
                by_cases hjO : j < O
                · have hbb : 1 ≤ b ∧ b ≤ 4 := by have := HBL.out; split at hbj <;> omega
                  have hnn : n - 1 - c0 = 4 * (O - 1 - j) + (b - 1) ∧ c0 + b ≤ n := by
                    have h1 := HBL.out
                    split at hbj <;> split at hcj <;> omega
                  obtain ⟨b1, hb1⟩ : ∃ b1, b1 = b - 1 := ⟨_, rfl⟩
                  have m1 : (b : Int) - 1 = (b1 : Int) := by omega
                  have m2 : IntKind.u8.wrap (b1 : Int) = (b1 : Int) := IntWalk.u8_in _ (by omega)
                  have c2 := HWD2.out.at_ j hjO
                  have hBn2 : c0 + b ≤ Bn := by have := HBn.out; omega
                  have HNN := Lib.hid (And.intro hnn (And.intro hbb hb1))
                  have hg1 : decide ((j : Int) < ((n : Int) + 3) / 4) = true := by simp; omega
                  clear hbj hcj hnn hb1 hO1
                  generalize hx : W (O - 1 - j) = x at c2
                  have HX := Lib.hid hx
                  clear hx
                  go_wp2_with fail
                  go_loopw [22, 23] (fun cv mv wq => ∃ s c1 mk : Nat, s ≤ b ∧ c1 = c0 + s ∧ cv = .int .i64 c1 ∧ mv = .int .u8 mk ∧ (s < b ∧ mk = 8 * (b1 - s) ∨ s = b ∧ mk = 248) ∧ Bin wq w1.heap.size Bn (byteAt (nv dg n) n) c1 ∧ Wds wq (w1.heap.size + 1) O W ∧ Below w1.heap.size w2 wq) (fun cv _ _ => c0 + b - (intOf cv).toNat)
                  case atStart => exact ⟨0, c0, 8 * b1, by omega, rfl, rfl, by congr 1; omega, Or.inl ⟨by have := HNN.out; omega, rfl⟩, HBI.out, HWD2.out, HB4.out⟩
                  case round =>
                    obtain ⟨s, c1, mk, hs, hc1, rfl, rfl, hmk3, hbi, hwd, hb⟩ := hrel
                    have HBI3 := Lib.hid hbi
                    have HWD3 := Lib.hid hwd
                    have HB5 := Lib.hid hb
                    clear hbi hwd hb
                    by_cases hsb : s < b
                    · have hmk4 : mk = 8 * (b1 - s) := by omega
                      obtain ⟨⟨hn1, hn2⟩, ⟨hb1, hb2⟩, hb3⟩ := HNN.out
                      have hn3 : n - 1 - c1 = 4 * (O - 1 - j) + (b1 - s) := by omega
                      have hc1B : c1 < Bn := by omega
                      have c3 := HWD3.out.at_ j hjO
                      rw [HX.out] at c3
                      have c4 := HBI3.out.hi c1 (Nat.le_refl _) hc1B
                      have f4 := HBI3.out.frozen c1
                      have hwb := word_byte (t := b1 - s) (q := c1) HWD3.out.lt HWV.out (show O - 1 - j < O by omega) (by omega) hn3
                      rw [HX.out, ← hmk4] at hwb
                      have hput := HBI3.out.put hc1B (x / 2 ^ mk % 256) hwb
                      have HPUT := Lib.hid hput
                      have hg2 : decide ((mk : Int) ≤ 24) = true := by simp; omega
                      have HMK := Lib.hid (And.intro hmk4 (And.intro hc1 hn3))
                      have hmk24 : mk ≤ 24 := by omega
                      have hc110 : c1 < 110 := by omega
                      clear hput hwb hmk3 hmk4 hc1 hn1 hn3
                      go_wp2_with fail
                      rw [cast_byte]
                      refine ⟨⟨s + 1, c1 + 1, if s + 1 < b then 8 * (b1 - (s + 1)) else 248, by omega, by have := HMK.out; omega, by go_num, ?_, ?_, HPUT.out, HWD3.out.far (by omega) _ _, HB5.out.setCell (p := ⟨w1.heap.size, c1, none⟩) (Nat.le_refl _) _⟩, meas_sub HMK.out.2.1 hsb⟩
                      · have h2 := HMK.out
                        have h3 := HNN.out
                        congr 1
                        split <;> omega
                      · split
                        · exact Or.inl ⟨by omega, rfl⟩
                        · exact Or.inr ⟨by omega, rfl⟩
                    · obtain rfl : mk = 248 := by omega
                      obtain rfl : s = b := by omega
                      have HC1 := Lib.hid hc1
                      clear hmk3 hc1
                      by_cases hj0 : j = 0
                      case' pos => have hjz : ((j : Int) == 0) = true := by simp [hj0]
                      case' neg => have hjz : ((j : Int) == 0) = false := by simp [hj0]
                      all_goals
                        have HJ0 := Lib.hid hj0
                        clear hj0
                        go_wp2_with fail
                        refine ⟨⟨j + 1, _, c1, by omega, by go_num, rfl, rfl, ?_, ?_, HBI3.out, HWD3.out, HB5.out⟩, by simp only [intOf]; omega⟩
                        · have h1 := HCJ.out.1
                          have h2 := HJ0.out
                          first
                            | exact (if_neg (by omega)).symm
                            | rw [h1, if_neg h2, if_neg (by omega)]
                        · rw [if_neg (by omega)]
                          have h1 := HCJ.out
                          have h2 := HJ0.out
                          have h3 := HC1.out
                          rw [h3]
                          obtain ⟨h4, h5⟩ := h1
                          first
                            | rw [h4, h5]; done
                            | rw [h4, h5]; split <;> omega
                · obtain rfl : j = O := by omega
                  clear hbj hcj
                  obtain rfl : n = c0 := by
                    have h1 := HCJ.out.2
                    have h2 := HBL.out
                    rw [h1, if_neg (by omega)]
                    omega
                  have hg3 : decide ((j : Int) < ((n : Int) + 3) / 4) = false := by have := HO1.out; simp; omega
                  go_wp2_with fail
                  go_loopw [24, 25, 162] (fun _ _ iv wq => ∃ i : Nat, i ≤ Bn ∧ iv = .int .i64 i ∧ (∀ y, y < i → y < n → byteAt (nv dg n) n y = 0) ∧ wq = wr) (fun _ _ iv _ => Bn - (intOf iv).toNat)
                  case atStart => exact ⟨0, by omega, rfl, fun y hy => absurd hy (by omega), rfl⟩
                  case round =>
                    obtain ⟨i, hi, rfl, hz, hww⟩ := hrel
                    have HZZ := Lib.hid hz
                    clear hz
                    cases hww
                    have hBn1 : Bn = (n + 3) * 3 := HBn.out
                    have hBn3 : n < Bn := by omega
                    have hBn4 : Bn < 340 := by omega
                    by_cases hiB : i < Bn
                    · by_cases hin : i < n
                      · obtain ⟨v, hv⟩ : ∃ v, v = byteAt (nv dg n) n i := ⟨_, rfl⟩
                        have hv256 : v < 256 := by rw [hv]; exact Nat.mod_lt _ (by decide)
                        have c4 : wr.cell? ⟨w1.heap.size, i, none⟩ = some (.int .u8 v) := by rw [HBI.out.lo i (by omega), hv]
                        have HVV := Lib.hid hv
                        clear hv hBn1
                        by_cases hv0 : v = 0
                        · have hg4 : decide ((0 : Int) < (v : Int)) = false := by simp; omega
                          go_wp2_with fail
                          exact ⟨⟨i + 1, by omega, by go_num, zero_step HZZ.out (HVV.out.symm.trans hv0), trivial⟩, by simp only [intOf]; omega⟩
                        · have hg4 : decide ((0 : Int) < (v : Int)) = true := by simp; omega
                          by_cases hst : i < q
                          · have hg5 : decide ((i : Int) - (q : Int) < 0) = true := by simp; omega
                            go_wp2_with fail
                            go_ret2
                            have hR : DecR (nv dg n) n q ((beL (nv dg n) n).drop 0) := Or.inr ⟨i, hin, fun z hz => HZZ.out z hz (by omega), by rw [← HVV.out]; exact hv0, by rw [show i - q = 0 by omega]⟩
                            exact dec_fin HBI.out hBn3 hBn4 (Nat.zero_le _) hR (Nat.le_of_lt hpw) (HB2.out.trans (HB4.out.mono (Nat.le_of_lt hpw)))
                          · obtain ⟨y, hy⟩ : ∃ y, i = q + y := ⟨i - q, by omega⟩
                            have hy2 : (i : Int) - (q : Int) = (y : Int) := by omega
                            have HY := Lib.hid hy
                            clear hy
                            have hy3 : decide ((y : Int) < 0) = false := by simp
                            go_wp2_with fail
                            all_goals
                              go_ret2
                              have hyi := HY.out
                              have hR : DecR (nv dg n) n q ((beL (nv dg n) n).drop y) := Or.inr ⟨i, hin, fun z hz => HZZ.out z hz (by omega), by rw [← HVV.out]; exact hv0, by rw [show i - q = y by omega]⟩
                              exact dec_fin HBI.out hBn3 hBn4 (by omega) hR (Nat.le_of_lt hpw) (HB2.out.trans (HB4.out.mono (Nat.le_of_lt hpw)))
                      · have c4 := HBI.out.hi i (by omega) hiB
                        clear hBn1
                        go_wp2_with fail
                        exact ⟨⟨i + 1, by omega, by go_num, fun y h1 h2 => HZZ.out y (by omega) h2, trivial⟩, by simp only [intOf]; omega⟩
                    · obtain rfl : i = Bn := by omega
                      clear hBn1
                      go_wp2_with fail
                      go_ret2
                      have hR : DecR (nv dg n) n q ((beL (nv dg n) n).drop 0) := Or.inl ⟨rfl, fun z hz => HZZ.out z (by omega) hz⟩
                      exact dec_fin HBI.out hBn3 hBn4 (Nat.zero_le _) hR (Nat.le_of_lt hpw) (HB2.out.trans (HB4.out.mono (Nat.le_of_lt hpw)))
end Go.Proofs.YthpcfnegfdcbjaaGreatDoor
