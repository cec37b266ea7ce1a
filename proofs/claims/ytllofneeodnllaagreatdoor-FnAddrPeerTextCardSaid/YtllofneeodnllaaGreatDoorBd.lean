/- The alphabet of base58, letter by letter, both ways. -/
import Derived.Test.YtllofneeodnllaaGreatDoorPz
import Derived.Laws.IdiomStrings
import Derived.Lib.DecodeN
import Derived.Lib.TrimUEq
import Derived.Laws.BitsLemmas
import Derived.IntWalk
import Derived.BigRegion
namespace Go.Proofs.YtllofneeodnllaaGreatDoor
open Go.RowKit
attribute [local go_sem ↓] Go.wp_at_zero Go.wp_at_succ
/-- The k-th letter. -/
def letter (k : Nat) : UInt8 := lit58.data.toList.getD k 0
theorem letter_small (k : Nat) (hk : k < 58) : (letter k).toNat < 128 := by
  have h : ∀ k : Fin 58, (letter k.val).toNat < 128 := by decide
  exact h ⟨k, hk⟩
theorem letter_inj (a b : Nat) (ha : a < 58) (hb : b < 58) (h : letter a = letter b) : a = b := by
  have hn : lit58.data.toList.Nodup := by decide
  have hl : lit58.data.toList.length = 58 := by rfl
  unfold letter at h
  simp only [List.getD, List.getElem?_eq_getElem (show a < lit58.data.toList.length by omega), List.getElem?_eq_getElem (show b < lit58.data.toList.length by omega), Option.getD_some] at h
  exact (List.getElem_inj hn).1 h
/-- The cells of the alphabet; the way back is laid for the first k letters. -/
structure AlpX (xs : Array Value) (k : Nat) : Prop where
  size : xs.size = 186
  enc : ∀ j, j < 58 → xs[128 + j]? = some (.int .u8 (letter j).toNat)
  dec : ∀ j, j < k → j < 58 → xs[(letter j).toNat]? = some (.int .i8 j)
theorem AlpX.alp {xs : Array Value} {k : Nat} (h : AlpX xs k) : Alp xs := ⟨h.size, fun j hj => ⟨letter j, letter_small j hj, h.enc j hj⟩⟩
theorem AlpX.set0 {xs : Array Value} (h : AlpX xs 0) (i : Nat) (hi : i < 128) (v : Value) : AlpX (xs.setIfInBounds i v) 0 :=
  ⟨by simp [h.size], fun j hj => by rw [Array.getElem?_setIfInBounds_ne (by omega)]; exact h.enc j hj, fun j hj => absurd hj (by omega)⟩
theorem AlpX.set1 {xs : Array Value} {k : Nat} (h : AlpX xs k) (hk : k < 58) : AlpX (xs.setIfInBounds (letter k).toNat (.int .i8 k)) (k + 1) := by
  have hs := letter_small k hk
  refine ⟨by simp [h.size], fun j hj => by rw [Array.getElem?_setIfInBounds_ne (by omega)]; exact h.enc j hj, fun j hj h58 => ?_⟩
  by_cases e : j = k
  · subst e
    rw [Array.getElem?_setIfInBounds_self_of_lt (by rw [h.size]; omega)]
  · rw [Array.getElem?_setIfInBounds_ne (fun e2 => e (letter_inj j k h58 hk (UInt8.toNat_inj.1 e2.symm)))]
    exact h.dec j (by omega) h58
theorem alpx_of (zs : Array Value) (hz : zs.size = 186) : AlpX (zs.toList.take 128 ++ Lib.byteCells lit58.data.toList ++ zs.toList.drop (128 + 58)).toArray 0 := by
  have h1 : (zs.toList.take 128).length = 128 := by simp [hz]
  have h2 : (Lib.byteCells lit58.data.toList).length = 58 := by rfl
  refine ⟨by simp only [List.size_toArray, List.length_append, h1, h2, List.length_drop, Array.length_toList, hz], fun k hk => ?_, fun j hj => absurd hj (by omega)⟩
  have h3 : k < lit58.data.toList.length := hk
  rw [List.getElem?_toArray, List.getElem?_append_left (by rw [List.length_append, h1, h2]; omega), List.getElem?_append_right (by omega), h1, Nat.add_sub_cancel_left]
  unfold Lib.byteCells letter
  rw [List.getElem?_map, List.getElem?_eq_getElem h3]
  simp [List.getD, List.getElem?_eq_getElem h3]
theorem encx_at {xs : Array Value} (h : AlpX xs 0) (k : Nat) (hk : k < 58) : (xs.toList.drop 128).toArray[k]? = some (.int .u8 (letter k).toNat) := by
  simpa using h.enc k hk
set_option maxHeartbeats 2000000 in
set_option maxRecDepth 100000 in
theorem newalpha_x (w : World) : Calls Tryz.prog 115 #[.string lit58] w fun e w' => ∃ xs, e = .returned (.pointer (some ⟨w.heap.size, 0, none⟩)) ∧ Blk w' w.heap.size 201 xs ∧ AlpX xs 58 ∧ Below w.heap.size w w' := by
  have hsz : lit58.size = 58 := by rfl
  have hz : (Tryz.zeroCells201).size = 186 := by rfl
  have ha := alpx_of _ hz
  have hcp := fun ty => Lib.run_copy_row_string (P := Tryz.prog) (w.alloc (.cells Tryz.zeroCells201 201)) 23 9 ty 5 w.heap.size 128 58 58 lit58 _ 201 Tryz.underlying23 (by kernel_rfl) (heap_alloc_new _ _) (by rw [hsz]; decide) (by rw [hsz, hz]; decide)
  rw [hsz] at hcp
  obtain ⟨X, hX⟩ : ∃ X, X = ((Tryz.zeroCells201).toList.take 128 ++ Lib.byteCells lit58.data.toList ++ (Tryz.zeroCells201).toList.drop (128 + 58)).toArray := ⟨_, rfl⟩
  rw [← hX] at ha hcp
  simp only [alloc_setRow] at hcp
  have HA := Lib.hid ha
  clear ha hX hz
  generalize hL : lit58 = L at *
  go_enter Tryz.func115, Tryz.ntmps115
  go_wp2_with fail
  go_loopw [18] (fun i wr => ∃ (k : Nat) (xs : Array Value), k ≤ 128 ∧ i = .int .i64 k ∧ Blk wr w.heap.size 201 xs ∧ AlpX xs 0 ∧ Below w.heap.size w wr) (fun i _ => 128 - (intOf i).toNat)
  case atStart => exact ⟨0, X, by omega, rfl, Blk.new _ _ _, HA.out, (Below.refl _ w).alloc (Nat.le_refl _) _⟩
  case round =>
    obtain ⟨k, xs, hk, rfl, hblk, halp, hb⟩ := hrel
    have HK := Lib.hid hblk
    have HA := Lib.hid halp
    have HB := Lib.hid hb
    clear hb hblk halp
    by_cases hlt : k < 128
    · have c0 : wr.cell? ⟨w.heap.size, k, none⟩ = some (xs[k]'(by rw [HA.out.size]; omega)) := by rw [HK.out.cell k]; exact Array.getElem?_eq_getElem _
      have f0 := HK.out.frozen k
      go_wp2_with fail
      go_roundw
      case rel => exact ⟨k + 1, _, by omega, by go_num, HK.out.set_ k _, HA.out.set0 k hlt _, HB.out.setCell (p := ⟨w.heap.size, k, none⟩) (Nat.le_refl _) _⟩
      case measure => simp [intOf]; omega
    · have hld := load_enc (P := Tryz.prog) wr w.heap.size _ xs HK.out HA.out.size
      have hlv : (loadVar 199 ⟨w.heap.size, 128, none⟩).run Tryz.prog wr = .ok (.agg (xs.toList.drop 128).toArray) wr := by
        have a1 : (isAgg 199).run Tryz.prog wr = .ok true wr := by kernel_rfl
        have a2 : (sizeOf 199).run Tryz.prog wr = .ok 58 wr := by kernel_rfl
        simp only [loadVar, Sem.run_bind, a1, Result.andThen_ok, if_true, a2, loadCells, hld, Sem.run_pure]
      have hla : (Instr.loadAt 199 (.pointer (some ⟨w.heap.size, 128, none⟩))).run Tryz.prog wr = .ok (.agg (xs.toList.drop 128).toArray) wr := by
        simp only [Instr.loadAt, Instr.sureAddr, Sem.run_bind, Sem.run_pure, Result.andThen]
        exact hlv
      have hys := fun k hk => encx_at HA.out k hk
      have hysz : (xs.toList.drop 128).toArray.size = 58 := by simp [HA.out.size]
      generalize (xs.toList.drop 128).toArray = ys at *
      have HY := Lib.hid hys
      have HLA := Lib.hid hla
      clear hys hld hlv hla
      go_wp2_with (refine step_load rfl (.tmp 29) 199 rfl _ _ rfl HLA.out ?_)
      go_loopw [31] (fun i wr => ∃ (k : Nat) (xs : Array Value), k ≤ 58 ∧ i = .int .i64 k ∧ Blk wr w.heap.size 201 xs ∧ AlpX xs k ∧ Below w.heap.size w wr) (fun i _ => 58 - (intOf i).toNat)
      case atStart => exact ⟨0, xs, by omega, rfl, HK.out, HA.out, HB.out⟩
      case round =>
        obtain ⟨k, xs, hk, rfl, hblk, halp, hb⟩ := hrel
        have HK := Lib.hid hblk
        have HA := Lib.hid halp
        have HB := Lib.hid hb
        clear hb hblk halp
        by_cases hlt : k < 58
        · have hyk := HY.out k hlt
          have hu := letter_small k hlt
          have hw8 : IntKind.i8.wrap (k : Int) = (k : Int) := IntWalk.i8_in _ (by omega)
          have hnx := Lib.hid (HA.out.set1 hlt)
          generalize hul : letter k = u at *
          have c0 : wr.cell? ⟨w.heap.size, u.toNat, none⟩ = some (xs[u.toNat]'(by rw [HA.out.size]; omega)) := by rw [HK.out.cell u.toNat]; exact Array.getElem?_eq_getElem _
          have f0 := HK.out.frozen u.toNat
          have hix := idx58 ys k hlt _ hyk
          clear hyk
          go_wp2_with fail
          exact ⟨⟨k + 1, _, by omega, by go_num, HK.out.set_ u.toNat _, hnx.out, HB.out.setCell (p := ⟨w.heap.size, u.toNat, none⟩) (Nat.le_refl _) _⟩, by simp [intOf]; omega⟩
        · obtain rfl : k = 58 := by omega
          go_wp2_with fail
          go_ret
          exact ⟨xs, rfl, HK.out, HA.out, HB.out⟩
set_option maxHeartbeats 2000000 in
set_option maxRecDepth 100000 in
theorem btc_x (w : World) : Calls Tryz.prog 86 #[] w fun e w' => ∃ xs, e = .returned (.pointer (some ⟨w.heap.size, 0, none⟩)) ∧ Blk w' w.heap.size 201 xs ∧ AlpX xs 58 ∧ Below w.heap.size w w' := by
  have HN := Lib.hid (newalpha_x w)
  go_enter Tryz.func86, Tryz.ntmps86
  go_wp2_with fail
  refine HN.out.mono ?_
  rintro e w1 ⟨xs, rfl, hb, ha, hbe⟩
  have H := Lib.hid (And.intro hb (And.intro ha hbe))
  clear hb ha hbe
  go_wp2_with fail
  go_ret
  exact ⟨xs, rfl, H.out.1, H.out.2.1, H.out.2.2⟩
end Go.Proofs.YtllofneeodnllaaGreatDoor

/- Base58 of bytes: which text. -/
namespace Go.Proofs.YtllofneeodnllaaGreatDoor
open Go.RowKit
attribute [local go_sem ↓] Go.wp_at_zero Go.wp_at_succ
/-- The number that bytes stand for, the greatest one first. -/
def bnum (l : List UInt8) : Nat := l.foldl (fun a b => a * 256 + b.toNat) 0
theorem bnum_app (l : List UInt8) (b : UInt8) : bnum (l ++ [b]) = bnum l * 256 + b.toNat := by simp [bnum]
theorem bnum_acc (l : List UInt8) : ∀ a, l.foldl (fun a b => a * 256 + b.toNat) a < (a + 1) * 256 ^ l.length := by
  induction l with
  | nil => intro a; simp
  | cons b l ih =>
    intro a
    have hb := b.toNat_lt
    have h1 := ih (a * 256 + b.toNat)
    have h2 : (a * 256 + b.toNat + 1) * 256 ^ l.length ≤ ((a + 1) * 256) * 256 ^ l.length := Nat.mul_le_mul_right _ (by omega)
    rw [List.foldl_cons, List.length_cons, Nat.pow_succ, Nat.mul_comm (256 ^ l.length) 256, ← Nat.mul_assoc]
    exact Nat.lt_of_lt_of_le h1 h2
theorem bnum_lt (l : List UInt8) (q : Nat) (h : l.length ≤ q) : bnum l < 256 ^ q := by
  have : bnum l < 256 ^ l.length := by
    have := bnum_acc l 0
    simpa [bnum] using this
  exact Nat.lt_of_lt_of_le this (Nat.pow_le_pow_right (by decide) h)
theorem bnum_snoc (d : List UInt8) (k q : Nat) (h : k + q < d.length) : bnum ((d.drop k).take (q + 1)) = bnum ((d.drop k).take q) * 256 + (d[k + q]).toNat := by
  rw [List.take_succ_eq_append_getElem (by rw [List.length_drop]; omega), bnum_app, List.getElem_drop]
/-- The letters of a text: k times the first letter, then digits, the greatest one first. -/
def txt (k J : Nat) (D : Nat → Nat) : List UInt8 := List.replicate k (letter 0) ++ (List.range J).map (fun t => letter (D (J - 1 - t)))
def txf (k S j : Nat) (D : Nat → Nat) (q : Nat) : UInt8 := if q < k then letter 0 else letter (D (S - 1 - (j + (q - k))))
theorem txf_zero (k S j : Nat) (D : Nat → Nat) (i : Nat) (h : i < k) : letter 0 = txf k S j D i := by unfold txf; rw [if_pos h]
theorem txf_at (k S j : Nat) (D : Nat → Nat) (i jj L : Nat) (hL : L = S - j + k) (hij : i + S = L + jj) (h1 : j ≤ jj) (h2 : j ≤ S) : letter (D (S - 1 - jj)) = txf k S j D i := by
  unfold txf
  rw [if_neg (by omega), show j + (i - k) = jj by omega]
theorem txf_eq (k S j : Nat) (D : Nat → Nat) (_h : j ≤ S) : (List.range (k + (S - j))).map (txf k S j D) = txt k (S - j) D := by
  unfold txt
  rw [List.range_add, List.map_append, List.map_map]
  congr 1
  · apply List.ext_getElem
    · simp
    · intro i h1 h2
      simp at h1
      simp [txf, h1]
  · apply List.map_congr_left
    intro t _
    simp only [Function.comp]
    unfold txf
    rw [if_neg (by omega)]
    congr 2
    omega
/-- A text is that of bytes. -/
def Enc58 (d : List UInt8) (s : ByteArray) : Prop :=
  ∃ (k J : Nat) (D : Nat → Nat), s = ⟨(txt k J D).toArray⟩ ∧ k ≤ d.length ∧ (∀ t, t < k → d[t]? = some 0) ∧ (∀ h : k < d.length, d[k] ≠ 0) ∧ (∀ t, D t < 58) ∧ dval D J = bnum (d.drop k) ∧ (J = 0 ∨ D (J - 1) ≠ 0) ∧ J ≤ 61
/-- The first letters are there. -/
def TxtIs (w : World) (b : Nat) (f : Nat → UInt8) (n : Nat) : Prop := ∀ q, q < n → w.cell? ⟨b, q, none⟩ = some (.int .u8 (f q).toNat)
theorem TxtIs.drew {w : World} {b : Nat} {f : Nat → UInt8} {n : Nat} (h : TxtIs w b f n) : TxtIs w.drew b f n := h
theorem TxtIs.put {w : World} {b S Z : Nat} {D : Nat → Nat} {f : Nat → UInt8} {i : Nat} (hb : Buf w b S Z D) (h : TxtIs w b f i) (u : UInt8) (hi : i < S + Z) (hu : u = f i) : TxtIs (w.setCell ⟨b, i, none⟩ (.int .u8 u.toNat)) b f (i + 1) := fun q hq => by
  obtain ⟨ys, hk, hs⟩ := hb.blk
  by_cases e : q = i
  · rw [e, blk_set_same hk _ _ (by omega), hu]
  · rw [blk_set_cell hk _ _ _ e]
    exact h q (by omega)
theorem conv_txt {w : World} {b L N : Nat} {f : Nat → UInt8} (h : TxtIs w b f L) : (convert 23 9 (.slice (some ⟨b, 0, none⟩) L N)).run Tryz.prog w = .ok (.string ⟨((List.range L).map f).toArray⟩) w := by
  have hl : ((List.range L).map f).length = L := by simp
  have := run_convert_bytes_back (P := Tryz.prog) w 23 9 5 ⟨b, 0, none⟩ N ((List.range L).map f) Tryz.underlying23 Tryz.underlying5 Tryz.underlying9 (fun j hj => by
    rw [hl] at hj
    have hadd : (⟨b, 0, none⟩ : Addr).add j = ⟨b, j, none⟩ := by unfold Addr.add; split <;> simp_all
    rw [hadd, h j hj]
    simp)
  rw [hl] at this
  exact this
set_option maxHeartbeats 4000000 in
set_option maxRecDepth 100000 in
theorem enc58_x (A : Option Addr) (n c : Nat) (d : List UInt8) (w : World) (p : Nat) (xs : Array Value) (hd : d.length ≤ 44) (h : RB w w.heap.size A n c d) (hp : Blk w p 201 xs) (ha : AlpX xs 58) :
    Calls Tryz.prog 96 #[.slice A n c, .pointer (some ⟨p, 0, none⟩)] w fun e w' => ∃ s, e = .returned (.string s) ∧ Enc58 d s ∧ Below w.heap.size w w' := by
  obtain ⟨i0, hi0, hz0, hz1, hz2⟩ := info_parts u8_info
  have hz := ha.enc 0 (by omega)
  obtain ⟨z, hzz⟩ : ∃ z, z = letter 0 := ⟨_, rfl⟩
  rw [← hzz] at hz
  have HZZ := Lib.hid hzz
  clear hzz
  have c0 : w.cell? ⟨p, 128, none⟩ = some (.int .u8 z.toNat) := by rw [hp.cell]; exact hz
  have hn : n ≤ 44 := by rw [← h.len]; exact hd
  have hlen := h.len
  have H := Lib.hid h
  have HP := Lib.hid hp
  have HA := Lib.hid ha
  have HL := Lib.hid hlen
  have hmk : ∀ (s : Nat) (W : World), s ≤ 1000 → (Instr.makeSlice 23 (.int .i64 (s : Int)) (.int .i64 (s : Int))).run Tryz.prog W = .ok (.slice (some ⟨W.heap.size, 0, none⟩) s s) (W.alloc (.cells (madeCells (Value.int .u8 0).cells (s * 1)) 5)) := fun s W hs => by
    have := run_make_rowN (P := Tryz.prog) 23 5 i0 (.int .u8 0) Tryz.underlying23 hi0 hz0 .i64 .i64 s s (Nat.le_refl _) (by rw [hz2]; omega) (by omega) W
    rwa [hz1] at this
  have HMK := Lib.hid hmk
  clear h hp ha hz hlen hmk hd
  go_enter Tryz.func96, Tryz.ntmps96
  go_wp2_with fail
  clear c0
  go_loopw [9] (fun i wr => ∃ k : Nat, k ≤ n ∧ i = .int .i64 k ∧ wr = w ∧ ∀ t, t < k → d[t]? = some 0) (fun i _ => n - (intOf i).toNat)
  case atStart => exact ⟨0, by omega, rfl, rfl, fun t ht => absurd ht (by omega)⟩
  case round =>
    obtain ⟨k, hk, rfl, hw0, hzd⟩ := hrel
    cases hw0
    have HZD := Lib.hid hzd
    clear hzd
    by_cases hgo : ∃ (hlt : k < n), d[k]'(by rw [HL.out]; exact hlt) = 0
    · obtain ⟨hlt, hb0⟩ := hgo
      obtain ⟨ad, rfl, _, hc⟩ := H.out.at_ hlt (by rw [HL.out]; exact hlt)
      have hex : ∀ t, t < k + 1 → d[t]? = some 0 := fun t ht => by
        by_cases e : t = k
        · rw [e, List.getElem?_eq_getElem (by rw [HL.out]; exact hlt), hb0]
        · exact HZD.out t (by omega)
      have HEX := Lib.hid hex
      rw [hb0] at hc
      clear hex
      go_wp2_with fail
      go_roundw
      case rel => exact ⟨k + 1, by omega, by go_num, trivial, HEX.out⟩
      case measure => simp [intOf]; omega
    · obtain ⟨m, rfl⟩ : ∃ m, n = k + m := ⟨n - k, by omega⟩
      obtain ⟨S, hS⟩ : ∃ S, S = m * 138 / 100 + 1 := ⟨_, rfl⟩
      have hS1 : S ≤ 61 := by omega
      have hmk0 := HMK.out (S * 2 + k) w (by omega)
      have hmk : (Instr.makeSlice 23 (.int .i64 ((S : Int) * 2 + k)) (.int .i64 ((S : Int) * 2 + k))).run Tryz.prog w = .ok (.slice (some ⟨w.heap.size, 0, none⟩) (S * 2 + k) (S * 2 + k)) (w.alloc (.cells (madeCells (Value.int .u8 0).cells ((S * 2 + k) * 1)) 5)) := by
        rw [show (S : Int) * 2 + k = ((S * 2 + k : Nat) : Int) by omega]
        exact hmk0
      have k1 : (k : Int) + (m : Int) - (k : Int) = (m : Int) := by omega
      have k2 : (m : Int) * 138 / 100 + 1 = (S : Int) := by omega
      have k3 : S * 2 + k - (S + k) = S := by omega
      have k4 : ((S : Int) + k).toNat = S + k := by omega
      have HS := Lib.hid hS
      have hnew := Buf.new w S k
      obtain ⟨X, hX⟩ : ∃ X, X = madeCells (Value.int .u8 0).cells ((S * 2 + k) * 1) := ⟨_, rfl⟩
      rw [← hX] at hmk hnew
      clear hX
      have HNEW := Lib.hid hnew
      clear hnew
      have HBA := Lib.hid ((Below.refl w.heap.size w).alloc (Nat.le_refl _) (.cells X 5))
      have hn0 : ∃ n0, n0 = k + m := ⟨_, rfl⟩
      obtain ⟨n0, hn0⟩ := hn0
      clear hmk0 hS
      by_cases hlt : k < k + m
      · obtain ⟨ad, rfl, _, hc⟩ := H.out.at_ hlt (by rw [HL.out]; exact hlt)
        have hb0 : (((d[k]'(by rw [HL.out]; exact hlt)).toNat : Int) == 0) = false := by
          have : d[k]'(by rw [HL.out]; exact hlt) ≠ 0 := fun e => hgo ⟨hlt, e⟩
          have : (d[k]'(by rw [HL.out]; exact hlt)).toNat ≠ 0 := fun e => this (UInt8.toNat_inj.1 (by rw [e]; rfl))
          simp
          omega
        generalize (d[k]'(by rw [HL.out]; exact hlt)).toNat = b at hc hb0
        go_wp2_with fail
        go_loopw [7, 10] (fun iv hv wr => ∃ (q hh : Nat) (hx : Int) (D : Nat → Nat), q ≤ m ∧ iv = .int .i64 ((k : Int) + q) ∧ hv = .int .i64 hx ∧ hx = (S : Int) - 1 - hh ∧ hh ≤ S ∧ Below w.heap.size w wr ∧ Buf wr w.heap.size S k D ∧ (∀ j, hh ≤ j → j < S → D j = 0) ∧ dval D S = bnum ((d.drop k).take q)) (fun iv _ _ => n0 - (intOf iv).toNat)
        case atStart => exact ⟨0, 0, (S : Int) - 1, fun _ => 0, by omega, by simp, rfl, by omega, by omega, HBA.out, HNEW.out, fun _ _ _ => rfl, by rw [dval_zero (D := fun _ => 0) 0 S (by omega) (fun _ _ _ => rfl)]; rfl⟩
        case round =>
          obtain ⟨q, hh, hx, D, hq, rfl, rfl, hhx, hhS, hb, hbuf, hz, hval⟩ := hrel
          have HB := Lib.hid hb
          have HBUF := Lib.hid hbuf
          have HZ := Lib.hid hz
          have HV := Lib.hid hval
          clear hb hbuf hz hval
          by_cases hlq : q < m
          · obtain ⟨ad, had, _, hcb⟩ := (H.out.below HB.out).at_ (k := k + q) (by omega) (by rw [HL.out]; omega)
            cases had
            have hbn := bnum_snoc d k q (by rw [HL.out]; omega)
            generalize hxx : (d[k + q]'(by rw [HL.out]; omega)).toNat = x at hcb hbn
            have HBN := Lib.hid hbn
            have HV4 := Lib.hid (show dval D S < 256 ^ q by rw [HV.out]; exact bnum_lt _ q (by rw [List.length_take]; omega))
            clear hbn
            have hx256 : x < 256 := by rw [← hxx]; exact UInt8.toNat_lt _
            have kq : ((k : Int) + q).toNat = k + q := by omega
            clear hxx
            go_wp2_with fail
            go_loopw [8, 11] (fun jv cv wr => ∃ (t cc : Nat) (jx : Int) (E : Nat → Nat), t ≤ S ∧ jv = .int .i64 jx ∧ jx = (S : Int) - 1 - t ∧ cv = .int .u32 cc ∧ cc < 256 ∧ Below w.heap.size w wr ∧ Buf wr w.heap.size S k E ∧ (∀ j, t ≤ j → j < S → E j = D j) ∧ dval E t + cc * 58 ^ t = x + 256 * dval D t) (fun jv _ _ => (intOf jv + 1).toNat)
            case atStart => exact ⟨0, x, (S : Int) - 1, D, by omega, rfl, by omega, rfl, hx256, HB.out, HBUF.out, fun _ _ _ => rfl, by simp [dval]⟩
            case round =>
              obtain ⟨t, cc, jx, E, ht, rfl, hjx, rfl, hcc, hb, hbuf, hE, hsum⟩ := hrel
              have HB2 := Lib.hid hb
              have HBUF2 := Lib.hid hbuf
              have HE := Lib.hid hE
              have HSUM := Lib.hid hsum
              clear hb hbuf hE hsum
              by_cases hcont : t < hh ∨ cc ≠ 0
              · have htS : t < S := by
                  rcases hcont with h1 | h1
                  · omega
                  · rcases Nat.lt_or_ge t S with h2 | h2
                    · exact h2
                    · have e : t = S := by omega
                      have h3 := HSUM.out
                      rw [e] at h3
                      have h4 := HV4.out
                      have h5 : 256 ^ (q + 1) ≤ 256 ^ m := Nat.pow_le_pow_right (by decide) (by omega)
                      have h6 : 256 ^ m ≤ 58 ^ S := by rw [HS.out]; exact digits_suffice m (by omega)
                      rw [Nat.pow_succ] at h5
                      have h7 : 1 * 58 ^ S ≤ cc * 58 ^ S := Nat.mul_le_mul_right _ (by omega)
                      omega
                obtain ⟨e, he⟩ : ∃ e, e = S - 1 - t := ⟨_, rfl⟩
                obtain rfl : jx = (e : Int) := by omega
                have heS : e < S := by omega
                have HJX := Lib.hid hjx
                have c0 := HBUF2.out.hi e heS
                have f0 := HBUF2.out.frozen (S + k + e)
                have hdt : E (S - 1 - e) = D t := by rw [show S - 1 - e = t by omega]; exact HE.out t (Nat.le_refl _) htS
                rw [hdt] at c0
                have hd58 : D t < 58 := HBUF.out.dig t
                have hstep := carry_step D E t cc x HSUM.out
                obtain ⟨r, hr⟩ : ∃ r, r = (cc + 256 * D t) % 58 := ⟨_, rfl⟩
                obtain ⟨g, hg⟩ : ∃ g, g = (cc + 256 * D t) / 58 := ⟨_, rfl⟩
                have hr58 : r < 58 := by omega
                have hg256 : g < 256 := by omega
                have i1 : ((cc : Int) + 256 * (D t : Int)) % 58 = (r : Int) := by omega
                have i2 : ((cc : Int) + 256 * (D t : Int)) / 58 = (g : Int) := by omega
                rw [← hr, ← hg] at hstep
                have hbs := HBUF2.out.set t e he htS r hr58
                have HSTEP := Lib.hid hstep
                have HBS := Lib.hid hbs
                have HDT := Lib.hid (And.intro he (And.intro hr hg))
                generalize D t = dt at c0 hd58 i1 i2
                clear hstep hbs hr hg hdt he
                have HHX := Lib.hid hhx
                by_cases h1 : t < hh
                · have hgt : hx < (e : Int) := by omega
                  clear hjx hhx
                  go_wp2_with fail
                  exact ⟨⟨t + 1, g, (e : Int) - 1, setD E t r, by omega, rfl, by have := HJX.out; omega, by rw [i2], hg256, HB2.out.setCell (p := ⟨w.heap.size, S + k + e, none⟩) (Nat.le_refl _) _, HBS.out, fun j h1 h2 => by unfold setD; rw [if_neg (by omega)]; exact HE.out j (by omega) h2, HSTEP.out⟩, by simp only [intOf]; omega⟩
                · have hgt : ¬ hx < (e : Int) := by omega
                  have hc1 : ((cc : Int) != 0) = true := by simp; omega
                  clear hjx hhx
                  go_wp2_with fail
                  exact ⟨⟨t + 1, g, (e : Int) - 1, setD E t r, by omega, rfl, by have := HJX.out; omega, by rw [i2], hg256, HB2.out.setCell (p := ⟨w.heap.size, S + k + e, none⟩) (Nat.le_refl _) _, HBS.out, fun j h1 h2 => by unfold setD; rw [if_neg (by omega)]; exact HE.out j (by omega) h2, HSTEP.out⟩, by simp only [intOf]; omega⟩
              · have hgt : ¬ hx < jx := by omega
                obtain rfl : cc = 0 := by omega
                have hth : hh ≤ t := by omega
                have hEz : ∀ j, t ≤ j → j < S → E j = 0 := fun j h1 h2 => by rw [HE.out j h1 h2]; exact HZ.out j (by omega) h2
                have hval2 : dval E S = bnum ((d.drop k).take (q + 1)) := by
                  have h1 := HSUM.out
                  have h2 := dval_zero (D := E) t S ht hEz
                  have h3 := dval_zero (D := D) t S ht (fun j h1 h2 => HZ.out j (by omega) h2)
                  have h4 := HV.out
                  have h5 := HBN.out
                  rw [h5]
                  omega
                have HEZ := Lib.hid hEz
                have HV2 := Lib.hid hval2
                have HJX := Lib.hid hjx
                clear hEz hval2 hjx hhx
                go_wp2_with fail
                exact ⟨⟨q + 1, t, jx, E, by omega, by go_num, rfl, HJX.out, by omega, HB2.out, HBUF2.out, HEZ.out, HV2.out⟩, by simp only [intOf]; omega⟩
          · clear hhx
            go_wp2_with fail
            go_loopw [8] (fun jv wq => ∃ j : Nat, j ≤ S ∧ jv = .int .i64 j ∧ wq = wr ∧ ∀ t, t < j → D (S - 1 - t) = 0) (fun jv _ => S - (intOf jv).toNat)
            case atStart => exact ⟨0, by omega, rfl, rfl, fun t ht => absurd ht (by omega)⟩
            case round =>
              obtain ⟨j, hj, rfl, hww, hjz⟩ := hrel
              cases hww
              have HJZ := Lib.hid hjz
              clear hjz
              by_cases hj0 : ∃ (hjS : j < S), D (S - 1 - j) = 0
              · obtain ⟨hjS, hdz⟩ := hj0
                have c0 := HBUF.out.hi j hjS
                rw [hdz] at c0
                have HEX := Lib.hid (show ∀ t, t < j + 1 → D (S - 1 - t) = 0 from fun t ht => by
                  by_cases e : t = j
                  · rw [e]; exact hdz
                  · exact HJZ.out t (by omega))
                clear hdz
                go_wp2_with fail
                go_roundw
                case rel => exact ⟨j + 1, by omega, by go_num, trivial, HEX.out⟩
                case measure => simp [intOf]; omega
              · obtain ⟨L, hL⟩ : ∃ L, L = S - j + k := ⟨_, rfl⟩
                have l1 : (S : Int) - (j : Int) + (k : Int) = (L : Int) := by omega
                have l2 : L ≤ S * 2 + k := by omega
                have HLS := Lib.hid (And.intro hL hS1)
                have hfin : Enc58 d ⟨((List.range L).map (txf k S j D)).toArray⟩ := by
                  refine ⟨k, S - j, D, ?_, by rw [HL.out]; omega, HZD.out, fun hkd => ?_, HBUF.out.dig, ?_, ?_, by omega⟩
                  · rw [hL, Nat.add_comm, txf_eq k S j D hj]
                  · intro e
                    exact hgo ⟨by rw [← HL.out]; exact hkd, e⟩
                  · have h1 := dval_zero (D := D) (S - j) S (by omega) (fun i h1 h2 => by have := HJZ.out (S - 1 - i) (by omega); rwa [show S - 1 - (S - 1 - i) = i by omega] at this)
                    rw [← h1, HV.out, List.take_of_length_le (by rw [List.length_drop, HL.out]; omega)]
                  · rcases Nat.lt_or_ge j S with h1 | h1
                    · refine Or.inr fun e => hj0 ⟨h1, ?_⟩
                      rwa [show S - j - 1 = S - 1 - j by omega] at e
                    · exact Or.inl (by omega)
                have HFIN := Lib.hid hfin
                clear hL hfin
                by_cases hjS : j < S
                · have c0 := HBUF.out.hi j hjS
                  have hdd : D (S - 1 - j) ≠ 0 := fun e => hj0 ⟨hjS, e⟩
                  generalize D (S - 1 - j) = dd at c0 hdd
                  have hd0 : ((dd : Int) == 0) = false := by simp; omega
                  clear hj0
                  by_cases hk0 : k = 0
                  · have hk1 : ((k : Int) != 0) = false := by simp; omega
                    have HK0 := Lib.hid hk0
                    clear hk0
                    go_wp2_with fail
                    go_loopw [7, 8] (fun iv jv wr => ∃ i jj : Nat, iv = .int .i64 i ∧ jv = .int .i64 jj ∧ jj ≤ S ∧ i + S = L + jj ∧ j ≤ jj ∧ TxtIs wr w.heap.size (txf k S j D) i ∧ Below w.heap.size w wr ∧ Buf wr w.heap.size S k D) (fun _ jv _ => S - (intOf jv).toNat)
                    case atStart => exact ⟨k, j, rfl, rfl, hj, by have := HLS.out; omega, Nat.le_refl _, fun q hq => absurd hq (by have := HK0.out; omega), HB.out, HBUF.out⟩
                    case round =>
                      obtain ⟨i, jj, rfl, rfl, hjj, hij, hjjj, htx, hb, hbuf⟩ := hrel
                      have HB := Lib.hid hb
                      have HBUF := Lib.hid hbuf
                      have HIJ := Lib.hid hij
                      have HTX := Lib.hid htx
                      clear hb hbuf htx
                      by_cases hlj : jj < S
                      · have hiL : i < L := by omega
                        have hiS : i < S + k := by have := HLS.out; omega
                        have c0 := HBUF.out.hi jj hlj
                        have hd58 := HBUF.out.dig (S - 1 - jj)
                        have htn := TxtIs.put HBUF.out HTX.out (letter (D (S - 1 - jj))) hiS (txf_at k S j D i jj L HLS.out.1 hij hjjj hj)
                        generalize D (S - 1 - jj) = dd at c0 hd58 htn
                        have hc := HA.out.enc dd hd58
                        generalize letter dd = u at hc htn
                        have HTN := Lib.hid htn
                        have c1 : wr.cell? ⟨p, 128 + dd, none⟩ = some (.int .u8 u.toNat) := by rw [(HP.out.below HB.out HP.out.lt).cell]; exact hc
                        obtain ⟨u2, c2⟩ := HBUF.out.lo i hiS
                        have f2 := HBUF.out.frozen i
                        have hbs := HBUF.out.put i hiS u
                        have HBS := Lib.hid hbs
                        clear hc hij hbs htn
                        go_wp2_with fail
                        go_region
                        go_wp2_with fail
                        exact ⟨⟨i + 1, jj + 1, by go_num, by go_num, by omega, by have := HIJ.out; omega, by omega, HTN.out.drew, (HB.out.setCell (p := ⟨w.heap.size, i, none⟩) (Nat.le_refl _) _).drew, HBS.out.drew⟩, by simp [intOf]; omega⟩
                      · have hcv := conv_txt (N := S * 2 + k) (show TxtIs wr w.heap.size (txf k S j D) L by have := HTX.out; rwa [show i = L by omega] at this)
                        clear hij
                        go_wp2_with fail
                        go_ret
                        exact ⟨_, rfl, HFIN.out, HB.out⟩
                  · have hk1 : ((k : Int) != 0) = true := by simp; omega
                    clear hk0
                    go_wp2_with fail
                    go_loopw [7] (fun iv wr => ∃ i : Nat, i ≤ k ∧ iv = .int .i64 i ∧ TxtIs wr w.heap.size (txf k S j D) i ∧ Below w.heap.size w wr ∧ Buf wr w.heap.size S k D) (fun iv _ => k - (intOf iv).toNat)
                    case atStart => exact ⟨0, by omega, rfl, fun q hq => absurd hq (by omega), HB.out, HBUF.out⟩
                    case round =>
                      obtain ⟨i, hi, rfl, htx0, hb, hbuf⟩ := hrel
                      have HB := Lib.hid hb
                      have HBUF := Lib.hid hbuf
                      have HTX := Lib.hid htx0
                      clear hb hbuf htx0
                      by_cases hli : i < k
                      · obtain ⟨u2, c2⟩ := HBUF.out.lo i (by omega)
                        have f2 := HBUF.out.frozen i
                        have hbs := HBUF.out.put i (by omega) z
                        have htn := TxtIs.put HBUF.out HTX.out z (by omega) (by rw [HZZ.out]; exact txf_zero k S j D i hli)
                        have HTN := Lib.hid htn
                        have HBS := Lib.hid hbs
                        have hiL : i < L := by have := HLS.out; omega
                        clear hbs htn
                        go_wp2_with fail
                        exact ⟨⟨i + 1, by omega, by go_num, HTN.out, HB.out.setCell (p := ⟨w.heap.size, i, none⟩) (Nat.le_refl _) _, HBS.out⟩, by simp [intOf]; omega⟩
                      · go_wp2_with fail
                        go_loopw [7, 8] (fun iv jv wr => ∃ i jj : Nat, iv = .int .i64 i ∧ jv = .int .i64 jj ∧ jj ≤ S ∧ i + S = L + jj ∧ j ≤ jj ∧ TxtIs wr w.heap.size (txf k S j D) i ∧ Below w.heap.size w wr ∧ Buf wr w.heap.size S k D) (fun _ jv _ => S - (intOf jv).toNat)
                        case atStart => exact ⟨k, j, rfl, rfl, hj, by have := HLS.out; omega, Nat.le_refl _, (show TxtIs wr w.heap.size (txf k S j D) k by have := HTX.out; rwa [show i = k by omega] at this), HB.out, HBUF.out⟩
                        case round =>
                          obtain ⟨i, jj, rfl, rfl, hjj, hij, hjjj, htx, hb, hbuf⟩ := hrel
                          have HB := Lib.hid hb
                          have HBUF := Lib.hid hbuf
                          have HIJ := Lib.hid hij
                          have HTX := Lib.hid htx
                          clear hb hbuf htx
                          by_cases hlj : jj < S
                          · have hiL : i < L := by omega
                            have hiS : i < S + k := by have := HLS.out; omega
                            have c0 := HBUF.out.hi jj hlj
                            have hd58 := HBUF.out.dig (S - 1 - jj)
                            have htn := TxtIs.put HBUF.out HTX.out (letter (D (S - 1 - jj))) hiS (txf_at k S j D i jj L HLS.out.1 hij hjjj hj)
                            generalize D (S - 1 - jj) = dd at c0 hd58 htn
                            have hc := HA.out.enc dd hd58
                            generalize letter dd = u at hc htn
                            have HTN := Lib.hid htn
                            have c1 : wr.cell? ⟨p, 128 + dd, none⟩ = some (.int .u8 u.toNat) := by rw [(HP.out.below HB.out HP.out.lt).cell]; exact hc
                            obtain ⟨u2, c2⟩ := HBUF.out.lo i hiS
                            have f2 := HBUF.out.frozen i
                            have hbs := HBUF.out.put i hiS u
                            have HBS := Lib.hid hbs
                            clear hc hij hbs htn
                            go_wp2_with fail
                            go_region
                            go_wp2_with fail
                            exact ⟨⟨i + 1, jj + 1, by go_num, by go_num, by omega, by have := HIJ.out; omega, by omega, HTN.out.drew, (HB.out.setCell (p := ⟨w.heap.size, i, none⟩) (Nat.le_refl _) _).drew, HBS.out.drew⟩, by simp [intOf]; omega⟩
                          · have hcv := conv_txt (N := S * 2 + k) (show TxtIs wr w.heap.size (txf k S j D) L by have := HTX.out; rwa [show i = L by omega] at this)
                            clear hij
                            go_wp2_with fail
                            go_ret
                            exact ⟨_, rfl, HFIN.out, HB.out⟩
                · clear hj0
                  by_cases hk0 : k = 0
                  · have hk1 : ((k : Int) != 0) = false := by simp; omega
                    have HK0 := Lib.hid hk0
                    clear hk0
                    go_wp2_with fail
                    go_loopw [7, 8] (fun iv jv wr => ∃ i jj : Nat, iv = .int .i64 i ∧ jv = .int .i64 jj ∧ jj ≤ S ∧ i + S = L + jj ∧ j ≤ jj ∧ TxtIs wr w.heap.size (txf k S j D) i ∧ Below w.heap.size w wr ∧ Buf wr w.heap.size S k D) (fun _ jv _ => S - (intOf jv).toNat)
                    case atStart => exact ⟨k, j, rfl, rfl, hj, by have := HLS.out; omega, Nat.le_refl _, fun q hq => absurd hq (by have := HK0.out; omega), HB.out, HBUF.out⟩
                    case round =>
                      obtain ⟨i, jj, rfl, rfl, hjj, hij, hjjj, htx, hb, hbuf⟩ := hrel
                      have HB := Lib.hid hb
                      have HBUF := Lib.hid hbuf
                      have HIJ := Lib.hid hij
                      have HTX := Lib.hid htx
                      clear hb hbuf htx
                      by_cases hlj : jj < S
                      · exact absurd hlj (by omega)
                      · have hcv := conv_txt (N := S * 2 + k) (show TxtIs wr w.heap.size (txf k S j D) L by have := HTX.out; rwa [show i = L by omega] at this)
                        clear hij
                        go_wp2_with fail
                        go_ret
                        exact ⟨_, rfl, HFIN.out, HB.out⟩
                  · have hk1 : ((k : Int) != 0) = true := by simp; omega
                    clear hk0
                    go_wp2_with fail
                    go_loopw [7] (fun iv wr => ∃ i : Nat, i ≤ k ∧ iv = .int .i64 i ∧ TxtIs wr w.heap.size (txf k S j D) i ∧ Below w.heap.size w wr ∧ Buf wr w.heap.size S k D) (fun iv _ => k - (intOf iv).toNat)
                    case atStart => exact ⟨0, by omega, rfl, fun q hq => absurd hq (by omega), HB.out, HBUF.out⟩
                    case round =>
                      obtain ⟨i, hi, rfl, htx0, hb, hbuf⟩ := hrel
                      have HB := Lib.hid hb
                      have HBUF := Lib.hid hbuf
                      have HTX := Lib.hid htx0
                      clear hb hbuf htx0
                      by_cases hli : i < k
                      · obtain ⟨u2, c2⟩ := HBUF.out.lo i (by omega)
                        have f2 := HBUF.out.frozen i
                        have hbs := HBUF.out.put i (by omega) z
                        have htn := TxtIs.put HBUF.out HTX.out z (by omega) (by rw [HZZ.out]; exact txf_zero k S j D i hli)
                        have HTN := Lib.hid htn
                        have HBS := Lib.hid hbs
                        have hiL : i < L := by have := HLS.out; omega
                        clear hbs htn
                        go_wp2_with fail
                        exact ⟨⟨i + 1, by omega, by go_num, HTN.out, HB.out.setCell (p := ⟨w.heap.size, i, none⟩) (Nat.le_refl _) _, HBS.out⟩, by simp [intOf]; omega⟩
                      · go_wp2_with fail
                        go_loopw [7, 8] (fun iv jv wr => ∃ i jj : Nat, iv = .int .i64 i ∧ jv = .int .i64 jj ∧ jj ≤ S ∧ i + S = L + jj ∧ j ≤ jj ∧ TxtIs wr w.heap.size (txf k S j D) i ∧ Below w.heap.size w wr ∧ Buf wr w.heap.size S k D) (fun _ jv _ => S - (intOf jv).toNat)
                        case atStart => exact ⟨k, j, rfl, rfl, hj, by have := HLS.out; omega, Nat.le_refl _, (show TxtIs wr w.heap.size (txf k S j D) k by have := HTX.out; rwa [show i = k by omega] at this), HB.out, HBUF.out⟩
                        case round =>
                          obtain ⟨i, jj, rfl, rfl, hjj, hij, hjjj, htx, hb, hbuf⟩ := hrel
                          have HB := Lib.hid hb
                          have HBUF := Lib.hid hbuf
                          have HIJ := Lib.hid hij
                          have HTX := Lib.hid htx
                          clear hb hbuf htx
                          by_cases hlj : jj < S
                          · exact absurd hlj (by omega)
                          · have hcv := conv_txt (N := S * 2 + k) (show TxtIs wr w.heap.size (txf k S j D) L by have := HTX.out; rwa [show i = L by omega] at this)
                            clear hij
                            go_wp2_with fail
                            go_ret
                            exact ⟨_, rfl, HFIN.out, HB.out⟩
      · have hd1 : decide ((k : Int) < (k : Int) + (m : Int)) = false := by simp; omega
        have HLT := Lib.hid hlt
        have hm0 : m ≤ 0 := by omega
        have HM0 := Lib.hid hm0
        clear hlt hm0
        go_wp2_with fail
        go_loopw [7, 10] (fun iv hv wr => ∃ (q hh : Nat) (hx : Int) (D : Nat → Nat), q ≤ m ∧ iv = .int .i64 ((k : Int) + q) ∧ hv = .int .i64 hx ∧ hx = (S : Int) - 1 - hh ∧ hh ≤ S ∧ Below w.heap.size w wr ∧ Buf wr w.heap.size S k D ∧ (∀ j, hh ≤ j → j < S → D j = 0) ∧ dval D S = bnum ((d.drop k).take q)) (fun iv _ _ => n0 - (intOf iv).toNat)
        case atStart => exact ⟨0, 0, (S : Int) - 1, fun _ => 0, by omega, by simp, rfl, by omega, by omega, HBA.out, HNEW.out, fun _ _ _ => rfl, by rw [dval_zero (D := fun _ => 0) 0 S (by omega) (fun _ _ _ => rfl)]; rfl⟩
        case round =>
          obtain ⟨q, hh, hx, D, hq, rfl, rfl, hhx, hhS, hb, hbuf, hz, hval⟩ := hrel
          have HB := Lib.hid hb
          have HBUF := Lib.hid hbuf
          have HZ := Lib.hid hz
          have HV := Lib.hid hval
          clear hb hbuf hz hval
          by_cases hlq : q < m
          · exact absurd hlq (by have := HM0.out; omega)
          · clear hhx
            go_wp2_with fail
            go_loopw [8] (fun jv wq => ∃ j : Nat, j ≤ S ∧ jv = .int .i64 j ∧ wq = wr ∧ ∀ t, t < j → D (S - 1 - t) = 0) (fun jv _ => S - (intOf jv).toNat)
            case atStart => exact ⟨0, by omega, rfl, rfl, fun t ht => absurd ht (by omega)⟩
            case round =>
              obtain ⟨j, hj, rfl, hww, hjz⟩ := hrel
              cases hww
              have HJZ := Lib.hid hjz
              clear hjz
              by_cases hj0 : ∃ (hjS : j < S), D (S - 1 - j) = 0
              · obtain ⟨hjS, hdz⟩ := hj0
                have c0 := HBUF.out.hi j hjS
                rw [hdz] at c0
                have HEX := Lib.hid (show ∀ t, t < j + 1 → D (S - 1 - t) = 0 from fun t ht => by
                  by_cases e : t = j
                  · rw [e]; exact hdz
                  · exact HJZ.out t (by omega))
                clear hdz
                go_wp2_with fail
                go_roundw
                case rel => exact ⟨j + 1, by omega, by go_num, trivial, HEX.out⟩
                case measure => simp [intOf]; omega
              · obtain ⟨L, hL⟩ : ∃ L, L = S - j + k := ⟨_, rfl⟩
                have l1 : (S : Int) - (j : Int) + (k : Int) = (L : Int) := by omega
                have l2 : L ≤ S * 2 + k := by omega
                have HLS := Lib.hid (And.intro hL hS1)
                have hfin : Enc58 d ⟨((List.range L).map (txf k S j D)).toArray⟩ := by
                  refine ⟨k, S - j, D, ?_, by rw [HL.out]; omega, HZD.out, fun hkd => ?_, HBUF.out.dig, ?_, ?_, by omega⟩
                  · rw [hL, Nat.add_comm, txf_eq k S j D hj]
                  · intro e
                    exact hgo ⟨by rw [← HL.out]; exact hkd, e⟩
                  · have h1 := dval_zero (D := D) (S - j) S (by omega) (fun i h1 h2 => by have := HJZ.out (S - 1 - i) (by omega); rwa [show S - 1 - (S - 1 - i) = i by omega] at this)
                    rw [← h1, HV.out, List.take_of_length_le (by rw [List.length_drop, HL.out]; omega)]
                  · rcases Nat.lt_or_ge j S with h1 | h1
                    · refine Or.inr fun e => hj0 ⟨h1, ?_⟩
                      rwa [show S - j - 1 = S - 1 - j by omega] at e
                    · exact Or.inl (by omega)
                have HFIN := Lib.hid hfin
                clear hL hfin
                by_cases hjS : j < S
                · have c0 := HBUF.out.hi j hjS
                  have hdd : D (S - 1 - j) ≠ 0 := fun e => hj0 ⟨hjS, e⟩
                  generalize D (S - 1 - j) = dd at c0 hdd
                  have hd0 : ((dd : Int) == 0) = false := by simp; omega
                  clear hj0
                  by_cases hk0 : k = 0
                  · have hk1 : ((k : Int) != 0) = false := by simp; omega
                    have HK0 := Lib.hid hk0
                    clear hk0
                    go_wp2_with fail
                    go_loopw [7, 8] (fun iv jv wr => ∃ i jj : Nat, iv = .int .i64 i ∧ jv = .int .i64 jj ∧ jj ≤ S ∧ i + S = L + jj ∧ j ≤ jj ∧ TxtIs wr w.heap.size (txf k S j D) i ∧ Below w.heap.size w wr ∧ Buf wr w.heap.size S k D) (fun _ jv _ => S - (intOf jv).toNat)
                    case atStart => exact ⟨k, j, rfl, rfl, hj, by have := HLS.out; omega, Nat.le_refl _, fun q hq => absurd hq (by have := HK0.out; omega), HB.out, HBUF.out⟩
                    case round =>
                      obtain ⟨i, jj, rfl, rfl, hjj, hij, hjjj, htx, hb, hbuf⟩ := hrel
                      have HB := Lib.hid hb
                      have HBUF := Lib.hid hbuf
                      have HIJ := Lib.hid hij
                      have HTX := Lib.hid htx
                      clear hb hbuf htx
                      by_cases hlj : jj < S
                      · have hiL : i < L := by omega
                        have hiS : i < S + k := by have := HLS.out; omega
                        have c0 := HBUF.out.hi jj hlj
                        have hd58 := HBUF.out.dig (S - 1 - jj)
                        have htn := TxtIs.put HBUF.out HTX.out (letter (D (S - 1 - jj))) hiS (txf_at k S j D i jj L HLS.out.1 hij hjjj hj)
                        generalize D (S - 1 - jj) = dd at c0 hd58 htn
                        have hc := HA.out.enc dd hd58
                        generalize letter dd = u at hc htn
                        have HTN := Lib.hid htn
                        have c1 : wr.cell? ⟨p, 128 + dd, none⟩ = some (.int .u8 u.toNat) := by rw [(HP.out.below HB.out HP.out.lt).cell]; exact hc
                        obtain ⟨u2, c2⟩ := HBUF.out.lo i hiS
                        have f2 := HBUF.out.frozen i
                        have hbs := HBUF.out.put i hiS u
                        have HBS := Lib.hid hbs
                        clear hc hij hbs htn
                        go_wp2_with fail
                        go_region
                        go_wp2_with fail
                        exact ⟨⟨i + 1, jj + 1, by go_num, by go_num, by omega, by have := HIJ.out; omega, by omega, HTN.out.drew, (HB.out.setCell (p := ⟨w.heap.size, i, none⟩) (Nat.le_refl _) _).drew, HBS.out.drew⟩, by simp [intOf]; omega⟩
                      · have hcv := conv_txt (N := S * 2 + k) (show TxtIs wr w.heap.size (txf k S j D) L by have := HTX.out; rwa [show i = L by omega] at this)
                        clear hij
                        go_wp2_with fail
                        go_ret
                        exact ⟨_, rfl, HFIN.out, HB.out⟩
                  · have hk1 : ((k : Int) != 0) = true := by simp; omega
                    clear hk0
                    go_wp2_with fail
                    go_loopw [7] (fun iv wr => ∃ i : Nat, i ≤ k ∧ iv = .int .i64 i ∧ TxtIs wr w.heap.size (txf k S j D) i ∧ Below w.heap.size w wr ∧ Buf wr w.heap.size S k D) (fun iv _ => k - (intOf iv).toNat)
                    case atStart => exact ⟨0, by omega, rfl, fun q hq => absurd hq (by omega), HB.out, HBUF.out⟩
                    case round =>
                      obtain ⟨i, hi, rfl, htx0, hb, hbuf⟩ := hrel
                      have HB := Lib.hid hb
                      have HBUF := Lib.hid hbuf
                      have HTX := Lib.hid htx0
                      clear hb hbuf htx0
                      by_cases hli : i < k
                      · obtain ⟨u2, c2⟩ := HBUF.out.lo i (by omega)
                        have f2 := HBUF.out.frozen i
                        have hbs := HBUF.out.put i (by omega) z
                        have htn := TxtIs.put HBUF.out HTX.out z (by omega) (by rw [HZZ.out]; exact txf_zero k S j D i hli)
                        have HTN := Lib.hid htn
                        have HBS := Lib.hid hbs
                        have hiL : i < L := by have := HLS.out; omega
                        clear hbs htn
                        go_wp2_with fail
                        exact ⟨⟨i + 1, by omega, by go_num, HTN.out, HB.out.setCell (p := ⟨w.heap.size, i, none⟩) (Nat.le_refl _) _, HBS.out⟩, by simp [intOf]; omega⟩
                      · go_wp2_with fail
                        go_loopw [7, 8] (fun iv jv wr => ∃ i jj : Nat, iv = .int .i64 i ∧ jv = .int .i64 jj ∧ jj ≤ S ∧ i + S = L + jj ∧ j ≤ jj ∧ TxtIs wr w.heap.size (txf k S j D) i ∧ Below w.heap.size w wr ∧ Buf wr w.heap.size S k D) (fun _ jv _ => S - (intOf jv).toNat)
                        case atStart => exact ⟨k, j, rfl, rfl, hj, by have := HLS.out; omega, Nat.le_refl _, (show TxtIs wr w.heap.size (txf k S j D) k by have := HTX.out; rwa [show i = k by omega] at this), HB.out, HBUF.out⟩
                        case round =>
                          obtain ⟨i, jj, rfl, rfl, hjj, hij, hjjj, htx, hb, hbuf⟩ := hrel
                          have HB := Lib.hid hb
                          have HBUF := Lib.hid hbuf
                          have HIJ := Lib.hid hij
                          have HTX := Lib.hid htx
                          clear hb hbuf htx
                          by_cases hlj : jj < S
                          · have hiL : i < L := by omega
                            have hiS : i < S + k := by have := HLS.out; omega
                            have c0 := HBUF.out.hi jj hlj
                            have hd58 := HBUF.out.dig (S - 1 - jj)
                            have htn := TxtIs.put HBUF.out HTX.out (letter (D (S - 1 - jj))) hiS (txf_at k S j D i jj L HLS.out.1 hij hjjj hj)
                            generalize D (S - 1 - jj) = dd at c0 hd58 htn
                            have hc := HA.out.enc dd hd58
                            generalize letter dd = u at hc htn
                            have HTN := Lib.hid htn
                            have c1 : wr.cell? ⟨p, 128 + dd, none⟩ = some (.int .u8 u.toNat) := by rw [(HP.out.below HB.out HP.out.lt).cell]; exact hc
                            obtain ⟨u2, c2⟩ := HBUF.out.lo i hiS
                            have f2 := HBUF.out.frozen i
                            have hbs := HBUF.out.put i hiS u
                            have HBS := Lib.hid hbs
                            clear hc hij hbs htn
                            go_wp2_with fail
                            go_region
                            go_wp2_with fail
                            exact ⟨⟨i + 1, jj + 1, by go_num, by go_num, by omega, by have := HIJ.out; omega, by omega, HTN.out.drew, (HB.out.setCell (p := ⟨w.heap.size, i, none⟩) (Nat.le_refl _) _).drew, HBS.out.drew⟩, by simp [intOf]; omega⟩
                          · have hcv := conv_txt (N := S * 2 + k) (show TxtIs wr w.heap.size (txf k S j D) L by have := HTX.out; rwa [show i = L by omega] at this)
                            clear hij
                            go_wp2_with fail
                            go_ret
                            exact ⟨_, rfl, HFIN.out, HB.out⟩
                · clear hj0
                  by_cases hk0 : k = 0
                  · have hk1 : ((k : Int) != 0) = false := by simp; omega
                    have HK0 := Lib.hid hk0
                    clear hk0
                    go_wp2_with fail
                    go_loopw [7, 8] (fun iv jv wr => ∃ i jj : Nat, iv = .int .i64 i ∧ jv = .int .i64 jj ∧ jj ≤ S ∧ i + S = L + jj ∧ j ≤ jj ∧ TxtIs wr w.heap.size (txf k S j D) i ∧ Below w.heap.size w wr ∧ Buf wr w.heap.size S k D) (fun _ jv _ => S - (intOf jv).toNat)
                    case atStart => exact ⟨k, j, rfl, rfl, hj, by have := HLS.out; omega, Nat.le_refl _, fun q hq => absurd hq (by have := HK0.out; omega), HB.out, HBUF.out⟩
                    case round =>
                      obtain ⟨i, jj, rfl, rfl, hjj, hij, hjjj, htx, hb, hbuf⟩ := hrel
                      have HB := Lib.hid hb
                      have HBUF := Lib.hid hbuf
                      have HIJ := Lib.hid hij
                      have HTX := Lib.hid htx
                      clear hb hbuf htx
                      by_cases hlj : jj < S
                      · exact absurd hlj (by omega)
                      · have hcv := conv_txt (N := S * 2 + k) (show TxtIs wr w.heap.size (txf k S j D) L by have := HTX.out; rwa [show i = L by omega] at this)
                        clear hij
                        go_wp2_with fail
                        go_ret
                        exact ⟨_, rfl, HFIN.out, HB.out⟩
                  · have hk1 : ((k : Int) != 0) = true := by simp; omega
                    clear hk0
                    go_wp2_with fail
                    go_loopw [7] (fun iv wr => ∃ i : Nat, i ≤ k ∧ iv = .int .i64 i ∧ TxtIs wr w.heap.size (txf k S j D) i ∧ Below w.heap.size w wr ∧ Buf wr w.heap.size S k D) (fun iv _ => k - (intOf iv).toNat)
                    case atStart => exact ⟨0, by omega, rfl, fun q hq => absurd hq (by omega), HB.out, HBUF.out⟩
                    case round =>
                      obtain ⟨i, hi, rfl, htx0, hb, hbuf⟩ := hrel
                      have HB := Lib.hid hb
                      have HBUF := Lib.hid hbuf
                      have HTX := Lib.hid htx0
                      clear hb hbuf htx0
                      by_cases hli : i < k
                      · obtain ⟨u2, c2⟩ := HBUF.out.lo i (by omega)
                        have f2 := HBUF.out.frozen i
                        have hbs := HBUF.out.put i (by omega) z
                        have htn := TxtIs.put HBUF.out HTX.out z (by omega) (by rw [HZZ.out]; exact txf_zero k S j D i hli)
                        have HTN := Lib.hid htn
                        have HBS := Lib.hid hbs
                        have hiL : i < L := by have := HLS.out; omega
                        clear hbs htn
                        go_wp2_with fail
                        exact ⟨⟨i + 1, by omega, by go_num, HTN.out, HB.out.setCell (p := ⟨w.heap.size, i, none⟩) (Nat.le_refl _) _, HBS.out⟩, by simp [intOf]; omega⟩
                      · go_wp2_with fail
                        go_loopw [7, 8] (fun iv jv wr => ∃ i jj : Nat, iv = .int .i64 i ∧ jv = .int .i64 jj ∧ jj ≤ S ∧ i + S = L + jj ∧ j ≤ jj ∧ TxtIs wr w.heap.size (txf k S j D) i ∧ Below w.heap.size w wr ∧ Buf wr w.heap.size S k D) (fun _ jv _ => S - (intOf jv).toNat)
                        case atStart => exact ⟨k, j, rfl, rfl, hj, by have := HLS.out; omega, Nat.le_refl _, (show TxtIs wr w.heap.size (txf k S j D) k by have := HTX.out; rwa [show i = k by omega] at this), HB.out, HBUF.out⟩
                        case round =>
                          obtain ⟨i, jj, rfl, rfl, hjj, hij, hjjj, htx, hb, hbuf⟩ := hrel
                          have HB := Lib.hid hb
                          have HBUF := Lib.hid hbuf
                          have HIJ := Lib.hid hij
                          have HTX := Lib.hid htx
                          clear hb hbuf htx
                          by_cases hlj : jj < S
                          · exact absurd hlj (by omega)
                          · have hcv := conv_txt (N := S * 2 + k) (show TxtIs wr w.heap.size (txf k S j D) L by have := HTX.out; rwa [show i = L by omega] at this)
                            clear hij
                            go_wp2_with fail
                            go_ret
                            exact ⟨_, rfl, HFIN.out, HB.out⟩
end Go.Proofs.YtllofneeodnllaaGreatDoor

/- Words of base58's decoder: runes of plain letters, numbers in words of 32 bits. No condition. -/
namespace Go.Proofs.YtllofneeodnllaaGreatDoor
open Go.RowKit
/-- Letters as runes. -/
def rv (l : List UInt8) : List Value := l.map fun b => Value.int .i32 b.toNat
theorem runes_ascii (l : List UInt8) (h : ∀ b ∈ l, b.toNat < 128) : ∀ (bound i : Nat) (acc : Array Value), l.length = i + bound → Conv.runesFrom ⟨l.toArray⟩ bound i acc = acc ++ (rv (l.drop i)).toArray := by
  intro bound
  induction bound with
  | zero =>
    intro i acc hl
    rw [List.drop_eq_nil_of_le (by omega)]
    simp [Conv.runesFrom, rv]
  | succ b ih =>
    intro i acc hl
    have hi : i < l.length := by omega
    have hs : (⟨l.toArray⟩ : ByteArray).size = l.length := by simp [ByteArray.size]
    have hg : ((⟨l.toArray⟩ : ByteArray).get! i) = l[i] := by
      show (l.toArray)[i]! = l[i]
      simp [hi]
    have hd : Utf8.decode ⟨l.toArray⟩ i = ((l[i]).toNat, 1) := by
      rw [Lib.decode_at, hg]
      exact Lib.decodeN_ascii _ _ _ _ _ (h _ (List.getElem_mem hi))
    unfold Conv.runesFrom
    rw [if_pos (by rw [hs]; exact hi), hd]
    simp only
    have e : rv (l.drop i) = .int .i32 (l[i]).toNat :: rv (l.drop (i + 1)) := by rw [List.drop_eq_getElem_cons hi]; rfl
    rw [ih (i + 1) _ (by omega), e]
    generalize rv (l.drop (i + 1)) = t
    apply Array.ext'
    simp
theorem rv_length (l : List UInt8) : (rv l).length = l.length := by simp [rv]
/-- '[]rune(s)' of plain letters. -/
theorem conv_runes (w : World) (l : List UInt8) (h : ∀ b ∈ l, b.toNat < 128) (hl : l.length ≤ 1000) : ∃ c w', (convert 9 207 (.string ⟨l.toArray⟩)).run Tryz.prog w = .ok (.slice (some ⟨w.heap.size, 0, none⟩) l.length c) w' ∧
    l.length ≤ c ∧ c ≤ maxLen ∧ (∃ ys, Blk w' w.heap.size 21 ys ∧ ∀ j, (hj : j < l.length) → ys[j]? = some (.int .i32 (l[j]).toNat)) ∧ Below w.heap.size w w' := by
  have hs : (⟨l.toArray⟩ : ByteArray).size = l.length := by simp [ByteArray.size]
  have hr : Conv.runesFrom ⟨l.toArray⟩ (⟨l.toArray⟩ : ByteArray).size 0 #[] = (rv l).toArray := by
    rw [runes_ascii l h _ 0 #[] (by rw [hs]; omega)]
    simp
  have hn : (rv l).toArray.size = l.length := by simp [rv]
  have hc := run_runes_of_string (P := Tryz.prog) w 9 207 21 ⟨l.toArray⟩ Tryz.underlying9 Tryz.underlying207 Tryz.underlying21 (by rw [hr, hn]; omega)
  rw [hr, hn] at hc
  refine ⟨_, _, hc, grownCap_ge _ _ _ _, grownCap_le_maxLen _ _ _ _ (by unfold maxLen; omega), ⟨_, Blk.new w.drew _ _, fun j hj => ?_⟩, ((Below.refl _ w).drew).alloc (Nat.le_refl _) _⟩
  rw [Array.getElem?_append_left (by rw [hn]; exact hj)]
  simp [rv, hj]
/-- The number that words stand for, the least one first. -/
def wval (W : Nat → Nat) : Nat → Nat
  | 0 => 0
  | m + 1 => wval W m + W m * 4294967296 ^ m
theorem wval_congr {D E : Nat → Nat} (m : Nat) (h : ∀ k, k < m → D k = E k) : wval D m = wval E m := by
  induction m with
  | zero => rfl
  | succ m ih => rw [wval, wval, ih (fun k hk => h k (by omega)), h m (by omega)]
theorem wval_lt {D : Nat → Nat} (m : Nat) (h : ∀ k, k < m → D k < 4294967296) : wval D m < 4294967296 ^ m := by
  induction m with
  | zero => exact Nat.one_pos
  | succ m ih =>
    have h1 := ih (fun k hk => h k (by omega))
    have h2 : (D m + 1) * 4294967296 ^ m ≤ 4294967296 * 4294967296 ^ m := Nat.mul_le_mul_right _ (h m (by omega))
    rw [Nat.add_mul, Nat.one_mul] at h2
    rw [wval, Nat.pow_succ, Nat.mul_comm (4294967296 ^ m)]
    omega
/-- A word out of the number. -/
theorem wval_at {D : Nat → Nat} (m : Nat) (h : ∀ k, k < m → D k < 4294967296) (i : Nat) (hi : i < m) : wval D m / 4294967296 ^ i % 4294967296 = D i := by
  induction m with
  | zero => omega
  | succ m ih =>
    rw [wval]
    by_cases e : i = m
    · subst e
      have h1 := wval_lt i (fun k hk => h k (by omega) : ∀ k, k < i → D k < 4294967296)
      rw [Nat.add_mul_div_right _ _ (Nat.pow_pos (by decide)), Nat.div_eq_of_lt h1, Nat.zero_add]
      exact Nat.mod_eq_of_lt (h i (by omega))
    · obtain ⟨q, hq⟩ : ∃ q, m = i + 1 + q := ⟨m - (i + 1), by omega⟩
      have h2 : D m * 4294967296 ^ m = (D m * 4294967296 ^ q * 4294967296) * 4294967296 ^ i := by
        rw [hq, Nat.pow_add, Nat.pow_succ]
        simp only [Nat.mul_assoc, Nat.mul_comm, Nat.mul_left_comm]
      rw [h2, Nat.add_mul_div_right _ _ (Nat.pow_pos (by decide)), Nat.add_mul_mod_self_right]
      exact ih (fun k hk => h k (by omega)) (by omega)
/-- One step of the inner loop. -/
theorem word_step (D0 D : Nat → Nat) (t c x : Nat) (h : wval D t + c * 4294967296 ^ t = x + 58 * wval D0 t) :
    wval (setD D t ((D0 t * 58 + c) % 4294967296)) (t + 1) + (D0 t * 58 + c) / 4294967296 * 4294967296 ^ (t + 1) = x + 58 * wval D0 (t + 1) := by
  have h1 : wval (setD D t ((D0 t * 58 + c) % 4294967296)) t = wval D t := wval_congr t (fun k hk => by unfold setD; rw [if_neg (by omega)])
  have h2 : setD D t ((D0 t * 58 + c) % 4294967296) t = (D0 t * 58 + c) % 4294967296 := by unfold setD; rw [if_pos rfl]
  rw [wval, wval, h1, h2]
  have e := Nat.div_add_mod (D0 t * 58 + c) 4294967296
  generalize hq : (D0 t * 58 + c) / 4294967296 = q at *
  generalize hr : (D0 t * 58 + c) % 4294967296 = r at *
  have hp : (4294967296 : Nat) ^ (t + 1) = 4294967296 * 4294967296 ^ t := by rw [Nat.pow_succ, Nat.mul_comm]
  rw [hp]
  generalize 4294967296 ^ t = p at *
  have e2 : r * p + q * (4294967296 * p) = (D0 t * 58 + c) * p := by
    rw [← e, Nat.add_mul, Nat.mul_assoc 4294967296 q p, Nat.mul_left_comm 4294967296 q p]
    omega
  have e3 : (D0 t * 58 + c) * p = c * p + 58 * (D0 t * p) := by rw [Nat.add_mul, Nat.mul_comm (D0 t) 58, Nat.mul_assoc, Nat.add_comm]
  rw [Nat.mul_add]
  omega
/-- The number that the first digits stand for, the greatest one first. -/
def nv (dg : Nat → Nat) : Nat → Nat
  | 0 => 0
  | r + 1 => nv dg r * 58 + dg r
theorem nv_lt (dg : Nat → Nat) (h : ∀ t, dg t < 58) (r : Nat) : nv dg r < 58 ^ r := by
  induction r with
  | zero => exact Nat.one_pos
  | succ r ih =>
    have := h r
    rw [nv, Nat.pow_succ]
    omega
theorem nv_zero (dg : Nat → Nat) (k : Nat) (h : ∀ t, t < k → dg t = 0) : nv dg k = 0 := by
  induction k with
  | zero => rfl
  | succ k ih => rw [nv, ih (fun t ht => h t (by omega)), h k (by omega)]
/-- The digits of a text. -/
def dgOf (k J : Nat) (D : Nat → Nat) (q : Nat) : Nat := if q < k then 0 else D (J - 1 - (q - k))
theorem nv_dgOf (k J : Nat) (D : Nat → Nat) : ∀ r, r ≤ J → nv (dgOf k J D) (k + r) * 58 ^ (J - r) + dval D (J - r) = dval D J := by
  intro r
  induction r with
  | zero =>
    intro _
    rw [Nat.add_zero, nv_zero _ k (fun t ht => by unfold dgOf; rw [if_pos ht])]
    simp
  | succ r ih =>
    intro hr
    have h1 := ih (by omega)
    have hd : dgOf k J D (k + r) = D (J - 1 - r) := by unfold dgOf; rw [if_neg (by omega), Nat.add_sub_cancel_left]
    obtain ⟨s, hs⟩ : ∃ s, J - r = s + 1 := ⟨J - r - 1, by omega⟩
    have e1 : J - (r + 1) = s := by omega
    have e2 : J - 1 - r = s := by omega
    rw [hs, dval, Nat.pow_succ] at h1
    rw [show k + (r + 1) = k + r + 1 by omega, nv, hd, e1, e2, Nat.add_mul, Nat.mul_assoc, Nat.mul_comm 58]
    omega
theorem nv_all (k J : Nat) (D : Nat → Nat) : nv (dgOf k J D) (k + J) = dval D J := by
  have := nv_dgOf k J D J (Nat.le_refl _)
  rw [Nat.sub_self] at this
  simpa [dval] using this
theorem txt_length (k J : Nat) (D : Nat → Nat) : (txt k J D).length = k + J := by simp [txt]
theorem txt_get (k J : Nat) (D : Nat → Nat) (q : Nat) (h : q < k + J) : (txt k J D)[q]'(by rw [txt_length]; exact h) = letter (dgOf k J D q) := by
  unfold txt dgOf
  by_cases hq : q < k
  · rw [List.getElem_append_left (by simpa using hq), if_pos hq]
    simp
  · rw [List.getElem_append_right (by simp; omega), if_neg hq]
    simp
theorem dgOf_lt (k J : Nat) (D : Nat → Nat) (h : ∀ t, D t < 58) (q : Nat) : dgOf k J D q < 58 := by
  unfold dgOf
  split
  · decide
  · exact h _
theorem txt_small (k J : Nat) (D : Nat → Nat) (h : ∀ t, D t < 58) : ∀ b ∈ txt k J D, b.toNat < 128 := by
  intro b hb
  obtain ⟨q, hq, rfl⟩ := List.getElem_of_mem hb
  rw [txt_length] at hq
  rw [txt_get k J D q hq]
  exact letter_small _ (dgOf_lt k J D h q)
theorem and_high (a c j : Nat) (ha : a < 2 ^ j) : a &&& (c * 2 ^ j) = 0 := by
  apply Nat.eq_of_testBit_eq
  intro i
  rw [Nat.testBit_and, Nat.zero_testBit]
  by_cases h : i < j
  · have : (c * 2 ^ j).testBit i = false := by
      rw [Nat.testBit_mul_two_pow]
      simp
      omega
    rw [this, Bool.and_false]
  · have : a.testBit i = false := Nat.testBit_lt_two_pow (Nat.lt_of_lt_of_le ha (Nat.pow_le_pow_right (by decide) (by omega)))
    rw [this, Bool.false_and]
theorem and_u32 (a b : Nat) (ha : a < 4294967296) (hb : b < 4294967296) : bits .and .u32 (a : Int) (b : Int) = ((a &&& b : Nat) : Int) :=
  (bits_nat .u32 32 (Nat.le_refl _) (fun n h0 h1 => IntWalk.u32_in n (by omega)) a b (by omega) (by omega)).1
theorem and_u64 (a b : Nat) (ha : a < 18446744073709551616) (hb : b < 18446744073709551616) : bits .and .u64 (a : Int) (b : Int) = ((a &&& b : Nat) : Int) :=
  (bits_nat .u64 64 (Nat.le_refl _) (fun n h0 h1 => IntWalk.u64_in n (by omega)) a b (by omega) (by omega)).1
theorem and_zero (x : Nat) (hx : x < 4294967296) : bits .and .u32 (x : Int) 0 = 0 := by
  have := and_u32 x 0 hx (by decide)
  simpa using this
theorem and_mask (b : Nat) (hb : b < 4) (x : Nat) (hx : x < 256 ^ b) : bits .and .u32 (x : Int) (4294967295 * 2 ^ (b * 8) % 4294967296) = 0 := by
  have h4 : b = 0 ∨ b = 1 ∨ b = 2 ∨ b = 3 := by omega
  rcases h4 with rfl | rfl | rfl | rfl
  · have := and_u32 x 4294967295 (by omega) (by decide)
    have hx0 : x = 0 := by omega
    subst hx0
    simpa using this
  · have h1 := and_u32 x (16777215 * 2 ^ 8) (by omega) (by decide)
    rw [and_high x 16777215 8 (by omega)] at h1
    exact h1
  · have h1 := and_u32 x (65535 * 2 ^ 16) (by omega) (by decide)
    rw [and_high x 65535 16 (by omega)] at h1
    exact h1
  · have h1 := and_u32 x (255 * 2 ^ 24) (by omega) (by decide)
    rw [and_high x 255 24 (by omega)] at h1
    exact h1
theorem and_63 (x : Nat) (hx : x < 58) : bits .and .u32 (x : Int) 63 = (x : Int) := by
  have h1 := and_u32 x 63 (by omega) (by decide)
  rw [show (63 : Nat) = 2 ^ 6 - 1 by decide, Nat.and_two_pow_sub_one_eq_mod, Nat.mod_eq_of_lt (by omega)] at h1
  exact h1
theorem and_low (x : Nat) (hx : x < 18446744073709551616) : bits .and .u64 (x : Int) 4294967295 = ((x % 4294967296 : Nat) : Int) := by
  have h1 := and_u64 x 4294967295 hx (by decide)
  rw [show (4294967295 : Nat) = 2 ^ 32 - 1 by decide, Nat.and_two_pow_sub_one_eq_mod] at h1
  exact h1
end Go.Proofs.YtllofneeodnllaaGreatDoor

/- Base58's decoder: the walk. -/
namespace Go.Proofs.YtllofneeodnllaaGreatDoor
open Go.RowKit
attribute [local go_sem ↓] Go.wp_at_zero Go.wp_at_succ
/-- Words in a block, the least one last. -/
structure Wds (w : World) (b O : Nat) (W : Nat → Nat) : Prop where
  blk : ∃ ys, Blk w b 104 ys ∧ ys.size = O
  at_ : ∀ j, j < O → w.cell? ⟨b, j, none⟩ = some (.int .u32 (W (O - 1 - j)))
  lt : ∀ i, W i < 4294967296
theorem Wds.frozen {w : World} {b O : Nat} {W : Nat → Nat} (h : Wds w b O W) (i : Nat) : w.frozen? ⟨b, i, none⟩ = false := by
  obtain ⟨ys, hb, _⟩ := h.blk
  exact hb.frozen i
theorem Wds.set {w : World} {b O : Nat} {W : Nat → Nat} (h : Wds w b O W) (t e : Nat) (he : e = O - 1 - t) (ht : t < O) (v : Nat) (hv : v < 4294967296) : Wds (w.setCell ⟨b, e, none⟩ (.int .u32 v)) b O (setD W t v) := by
  obtain ⟨ys, hb, hs⟩ := h.blk
  refine ⟨⟨_, hb.set_ _ _, by simp [hs]⟩, fun j hj => ?_, fun k => ?_⟩
  · by_cases h1 : j = e
    · rw [h1, blk_set_same hb _ _ (by omega)]
      unfold setD
      rw [if_pos (by omega)]
    · rw [blk_set_cell hb _ _ _ h1, h.at_ j hj]
      unfold setD
      rw [if_neg (by omega)]
  · unfold setD
    split
    · exact hv
    · exact h.lt k
theorem made_at (v : Value) (n j : Nat) (hj : j < n) : (madeCells #[v] n)[j]? = some v := by
  have h := toList_madeCells_one v n
  rw [← Array.getElem?_toList, h]
  simp [hj]
theorem Wds.new {w : World} {b O : Nat} {X : Array Value} (h : Blk w b 104 X) (hX : X = madeCells #[Value.int .u32 0] O) : Wds w b O (fun _ => 0) :=
  ⟨⟨_, h, by rw [hX, size_madeCells]⟩, fun j hj => by rw [h.cell, hX, made_at _ _ _ hj]; rfl, fun _ => by decide⟩
theorem wval_zero (O : Nat) : wval (fun _ => 0) O = 0 := by
  induction O with
  | zero => rfl
  | succ m ih => rw [wval, ih]; simp
/-- The bytes of a number, the greatest one first. -/
def byteAt (V n q : Nat) : Nat := V / 256 ^ (n - 1 - q) % 256
def beL (V n : Nat) : List UInt8 := (List.range n).map fun q => UInt8.ofNat (byteAt V n q)
/-- What the decoder gives. -/
def DecR (V n k : Nat) (R : List UInt8) : Prop :=
  (R = beL V n ∧ ∀ q, q < n → byteAt V n q = 0) ∨ ∃ n0, n0 < n ∧ (∀ q, q < n0 → byteAt V n q = 0) ∧ byteAt V n n0 ≠ 0 ∧ R = (beL V n).drop (n0 - k)
theorem u32_info : (Tryz.prog.info? 104).map (fun i => (i.zero, i.size, i.bytes)) = some (some (.int .u32 0), 1, 4) := by kernel_rfl
theorem pow_words (O : Nat) : (4294967296 : Nat) ^ O = 256 ^ (4 * O) := by
  rw [show (4294967296 : Nat) = 256 ^ 4 by decide, ← Nat.pow_mul]
/-- The bytes that are laid so far, zeros behind them. -/
structure Bin (w : World) (b Bn : Nat) (f : Nat → Nat) (c : Nat) : Prop where
  blk : ∃ ys, Blk w b 5 ys ∧ ys.size = Bn
  lo : ∀ q, q < c → w.cell? ⟨b, q, none⟩ = some (.int .u8 (f q))
  hi : ∀ q, c ≤ q → q < Bn → w.cell? ⟨b, q, none⟩ = some (.int .u8 0)
theorem Bin.new {w : World} {b Bn : Nat} {f : Nat → Nat} {X : Array Value} (h : Blk w b 5 X) (hX : X = madeCells #[Value.int .u8 0] Bn) : Bin w b Bn f 0 :=
  ⟨⟨_, h, by rw [hX, size_madeCells]⟩, fun q hq => absurd hq (by omega), fun q _ hq => by rw [h.cell, hX, made_at _ _ _ hq]⟩
theorem Bin.frozen {w : World} {b Bn : Nat} {f : Nat → Nat} {c : Nat} (h : Bin w b Bn f c) (i : Nat) : w.frozen? ⟨b, i, none⟩ = false := by
  obtain ⟨ys, hb, _⟩ := h.blk
  exact hb.frozen i
theorem Bin.put {w : World} {b Bn : Nat} {f : Nat → Nat} {c : Nat} (h : Bin w b Bn f c) (hc : c < Bn) (v : Nat) (hv : v = f c) : Bin (w.setCell ⟨b, c, none⟩ (.int .u8 v)) b Bn f (c + 1) := by
  obtain ⟨ys, hb, hs⟩ := h.blk
  refine ⟨⟨_, hb.set_ _ _, by simp [hs]⟩, fun q hq => ?_, fun q h1 h2 => ?_⟩
  · by_cases e : q = c
    · rw [e, blk_set_same hb _ _ (by omega), hv]
    · rw [blk_set_cell hb _ _ _ e]
      exact h.lo q (by omega)
  · rw [blk_set_cell hb _ _ _ (by omega)]
    exact h.hi q (by omega) h2
theorem Wds.far {w : World} {b O b2 : Nat} {W : Nat → Nat} (h : Wds w b O W) (hne : b ≠ b2) (i : Nat) (v : Value) : Wds (w.setCell ⟨b2, i, none⟩ v) b O W := by
  obtain ⟨ys, hb, hs⟩ := h.blk
  have hk := hb.far (p := ⟨b2, i, none⟩) hne v
  refine ⟨⟨ys, hk, hs⟩, fun j hj => ?_, h.lt⟩
  rw [hk.cell j, ← hb.cell j]
  exact h.at_ j hj
theorem byte_word (y t : Nat) (ht : t < 4) : y % 4294967296 / 2 ^ (8 * t) % 256 = y / 256 ^ t % 256 := by
  have h4 : t = 0 ∨ t = 1 ∨ t = 2 ∨ t = 3 := by omega
  rcases h4 with rfl | rfl | rfl | rfl
  · simp only [Nat.mul_zero, Nat.pow_zero, Nat.div_one]; omega
  · show y % 4294967296 / 256 % 256 = y / 256 % 256; omega
  · show y % 4294967296 / 65536 % 256 = y / 65536 % 256; omega
  · show y % 4294967296 / 16777216 % 256 = y / 16777216 % 256; omega
theorem word_byte {W : Nat → Nat} (hl : ∀ i, W i < 4294967296) {O n V i t q : Nat} (hV : wval W O = V) (hi : i < O) (ht : t < 4) (hq : n - 1 - q = 4 * i + t) : W i / 2 ^ (8 * t) % 256 = byteAt V n q := by
  unfold byteAt
  rw [hq, ← wval_at O (fun k _ => hl k) i hi, byte_word _ t ht, hV, Nat.pow_add, ← pow_words, Nat.div_div_eq_div_mul]
theorem dec_round {dg : Nat → Nat} (hlt : ∀ q, dg q < 58) {n r O cc dd : Nat} {E W : Nat → Nat} (hr : r < n) (hs : wval E O + cc * 4294967296 ^ O = dd + 58 * wval W O) (hd : dg r = dd) (hw : wval W O = nv dg r) (hO : n ≤ 4 * O) : wval E O = nv dg (r + 1) ∧ cc = 0 := by
  have h1 : nv dg (r + 1) = nv dg r * 58 + dg r := rfl
  have h2 := nv_lt dg hlt (r + 1)
  have h3 : 58 ^ (r + 1) ≤ 58 ^ n := Nat.pow_le_pow_right (by decide) hr
  have h4 : 58 ^ n ≤ 256 ^ n := Nat.pow_le_pow_left (by decide) n
  have h5 : 256 ^ n ≤ 256 ^ (4 * O) := Nat.pow_le_pow_right (by decide) hO
  rw [← pow_words] at h5
  rw [hw, ← hd] at hs
  rcases Nat.eq_zero_or_pos cc with rfl | hc
  · exact ⟨by omega, rfl⟩
  · have h6 : 1 * 4294967296 ^ O ≤ cc * 4294967296 ^ O := Nat.mul_le_mul_right _ hc
    omega
theorem top_lt (E : Nat → Nat) {O n r bl : Nat} (hv : wval E O < 58 ^ r) (hr : r ≤ n) (hO : 0 < O) (hn : n = 4 * (O - 1) + bl) : E (O - 1) < 256 ^ bl := by
  obtain ⟨m, rfl⟩ : ∃ m, O = m + 1 := ⟨O - 1, by omega⟩
  rw [Nat.add_sub_cancel] at hn ⊢
  rw [wval] at hv
  have h3 : 58 ^ r ≤ 58 ^ n := Nat.pow_le_pow_right (by decide) hr
  have h4 : 58 ^ n ≤ 256 ^ n := Nat.pow_le_pow_left (by decide) n
  have h5 : 256 ^ n = 256 ^ bl * 4294967296 ^ m := by rw [pow_words, hn, Nat.pow_add, Nat.mul_comm]
  have h6 : E m * 4294967296 ^ m < 256 ^ bl * 4294967296 ^ m := by omega
  exact Nat.lt_of_mul_lt_mul_right h6
theorem beL_length (V n : Nat) : (beL V n).length = n := by simp [beL]
theorem Bin.rb {w : World} {b Bn V n : Nat} (h : Bin w b Bn (byteAt V n) n) (hn : n ≤ Bn) (hm : Bn ≤ maxLen) : RB w w.heap.size (some ⟨b, 0, none⟩) n Bn (beL V n) := by
  obtain ⟨ys, hb, _⟩ := h.blk
  refine ⟨⟨by rw [bv_length, beL_length, Nat.mul_one], fun _ => ⟨⟨b, 0, none⟩, rfl, hb.lt, fun j u hu => ?_⟩⟩, hn, hm⟩
  have hj : j < n := by
    rcases Nat.lt_or_ge j n with h1 | h1
    · exact h1
    · rw [List.getElem?_eq_none (by rw [bv_length, beL_length]; exact h1)] at hu
      cases hu
  rw [bv_get (beL V n) j (by rw [beL_length]; exact hj)] at hu
  injection hu with hu
  subst hu
  have h2 := h.lo j hj
  have h3 : byteAt V n j < 256 := Nat.mod_lt _ (by decide)
  have h4 : ((beL V n)[j]'(by rw [beL_length]; exact hj)).toNat = byteAt V n j := by
    simp only [beL, List.getElem_map, List.getElem_range, UInt8.toNat_ofNat']
    exact Nat.mod_eq_of_lt h3
  rw [h4, ← h2]
  unfold Addr.add
  split <;> simp_all
theorem dec_fin {V n k b Bn s : Nat} {w wr : World} (h : Bin wr b Bn (byteAt V n) n) (hn : n < Bn) (hm : Bn < 340) (hs : s ≤ n) (hR : DecR V n k ((beL V n).drop s)) (hb : Below w.heap.size w wr) : ∃ A c R, Ending.returned (.tuple #[.slice (some ⟨b, s, none⟩) (n - s) (Bn - s), .nilIface]) = .returned (.tuple #[.slice A R.length c, .nilIface]) ∧ DecR V n k R ∧ RB wr wr.heap.size A R.length c R ∧ Below w.heap.size w wr := by
  have hl : ((beL V n).drop s).length = n - s := by rw [List.length_drop, beL_length]
  refine ⟨some ⟨b, s, none⟩, Bn - s, (beL V n).drop s, by rw [hl], hR, ?_, hb⟩
  have h1 := (h.rb (Nat.le_of_lt hn) (by unfold maxLen; omega)).drop hs
  rw [if_neg (by omega)] at h1
  rw [hl]
  have h2 : (some (⟨b, 0, none⟩ : Addr)).map (·.add s) = some ⟨b, s, none⟩ := by
    unfold Addr.add
    simp only [Option.map_some]
    split <;> simp_all
  rw [h2] at h1
  exact h1
theorem zero_step {f : Nat → Nat} {i n : Nat} (h : ∀ y, y < i → y < n → f y = 0) (hi : f i = 0) : ∀ y, y < i + 1 → y < n → f y = 0 := fun y h1 h2 => by
  rcases Nat.lt_or_ge y i with h3 | h3
  · exact h y h3 h2
  · rw [show y = i by omega]
    exact hi
theorem meas_sub {a b c s : Nat} (h : c = a + s) (hs : s < b) : a + b - (intOf (Value.int IntKind.i64 ((c : Int) + 1))).toNat < a + b - (intOf (Value.int IntKind.i64 (c : Int))).toNat := by
  simp only [intOf]
  omega
theorem cast_byte (x mk : Nat) : (x : Int) / 2 ^ mk % 256 = ((x / 2 ^ mk % 256 : Nat) : Int) := by simp
set_option maxHeartbeats 4000000 in
set_option maxRecDepth 100000 in
theorem dec58_x (L : List UInt8) (dg : Nat → Nat) (n k : Nat) (w : World) (p : Nat) (xs : Array Value) (hp : Blk w p 201 xs) (ha : AlpX xs 58) (hl : L.length = n) (hn0 : 0 < n) (hn : n ≤ 110)
    (hdg : ∀ q (h : q < L.length), L[q] = letter (dg q)) (hlt : ∀ q, dg q < 58) (hk : k ≤ n) (hz : ∀ q, q < k → dg q = 0) (hnz : k < n → dg k ≠ 0) :
    Calls Tryz.prog 105 #[.string ⟨L.toArray⟩, .pointer (some ⟨p, 0, none⟩)] w fun e w' => ∃ A c R, e = .returned (.tuple #[.slice A R.length c, .nilIface]) ∧ DecR (nv dg n) n k R ∧ RB w' w'.heap.size A R.length c R ∧ Below w.heap.size w w' := by
  obtain ⟨i0, hi0, hz0, hz1, hz2⟩ := info_parts u8_info
  have hsm : ∀ b ∈ L, b.toNat < 128 := fun b hb => by
    obtain ⟨q, hq, rfl⟩ := List.getElem_of_mem hb
    rw [hdg q hq]
    exact letter_small _ (hlt q)
  obtain ⟨cr, w1, hcv, hcap, hmax, ⟨ys, hys, hyv⟩, hb1⟩ := conv_runes w L hsm (by omega)
  rw [hl] at hcv hcap
  have hsz : (⟨L.toArray⟩ : ByteArray).size = n := by simp [ByteArray.size, hl]
  have HP := Lib.hid hp
  have HA := Lib.hid ha
  have HYS := Lib.hid hys
  have HYV := Lib.hid hyv
  have HB1 := Lib.hid hb1
  have HDG := Lib.hid hdg
  have HLT := Lib.hid hlt
  have HZ := Lib.hid hz
  have HNZ := Lib.hid hnz
  have HL := Lib.hid hl
  have hn00 : ((n : Int) == 0) = false := by simp; omega
  obtain ⟨S, hS⟩ : ∃ S : ByteArray, S = ⟨L.toArray⟩ := ⟨_, rfl⟩
  rw [← hS] at hcv hsz ⊢
  clear hp ha hys hyv hb1 hdg hlt hz hnz hl hsm hS
  obtain ⟨O, hO⟩ : ∃ O, O = (n + 3) / 4 := ⟨_, rfl⟩
  have o1 : ((n : Int) + 3) / 4 = (O : Int) := by omega
  obtain ⟨j0, hj0, jz0, jz1, jz2⟩ := info_parts u32_info
  obtain ⟨Bn, hBn⟩ : ∃ Bn, Bn = (n + 3) * 3 := ⟨_, rfl⟩
  obtain ⟨X1, hX1⟩ : ∃ X1, X1 = madeCells #[Value.int .u8 0] Bn := ⟨_, rfl⟩
  obtain ⟨X2, hX2⟩ : ∃ X2, X2 = madeCells #[Value.int .u32 0] O := ⟨_, rfl⟩
  have hmk : ∀ W : World, (Instr.makeSlice 23 (.int .i64 (((n : Int) + 3) * 3)) (.int .i64 (((n : Int) + 3) * 3))).run Tryz.prog W = .ok (.slice (some ⟨W.heap.size, 0, none⟩) Bn Bn) (W.alloc (.cells X1 5)) := fun W => by
    have := run_make_rowN (P := Tryz.prog) 23 5 i0 (.int .u8 0) Tryz.underlying23 hi0 hz0 .i64 .i64 Bn Bn (Nat.le_refl _) (by rw [hz2]; omega) (by omega) W
    rw [hz1, Nat.mul_one, show ((Bn : Nat) : Int) = ((n : Int) + 3) * 3 by omega] at this
    rw [hX1]
    exact this
  have hmk2 : ∀ W : World, (Instr.makeSlice 185 (.int .i64 (((n : Int) + 3) / 4)) (.int .i64 (((n : Int) + 3) / 4))).run Tryz.prog W = .ok (.slice (some ⟨W.heap.size, 0, none⟩) O O) (W.alloc (.cells X2 104)) := fun W => by
    have := run_make_rowN (P := Tryz.prog) 185 104 j0 (.int .u32 0) Tryz.underlying185 hj0 jz0 .i64 .i64 O O (Nat.le_refl _) (by rw [jz2]; omega) (by omega) W
    rw [jz1, Nat.mul_one, ← o1] at this
    rw [hX2]
    exact this
  have x0 : w1.cell? ⟨p, 128, none⟩ = some (.int .u8 (letter 0).toNat) := by rw [(HP.out.below HB1.out HP.out.lt).cell]; exact HA.out.enc 0 (by omega)
  have hp1 : p < w1.heap.size := (HP.out.below HB1.out HP.out.lt).lt
  obtain ⟨z0, hz00⟩ : ∃ z0 : Nat, z0 = (letter 0).toNat := ⟨_, rfl⟩
  rw [← hz00] at x0
  have zw : IntKind.i32.wrap (z0 : Int) = (z0 : Int) := IntWalk.i32_in _ (by have := letter_small 0 (by omega); omega)
  have HZ0 := Lib.hid hz00
  have HX1 := Lib.hid hX1
  have HX2 := Lib.hid hX2
  have HBn := Lib.hid hBn
  have HO := Lib.hid hO
  have hO28 : O ≤ 28 := by omega
  have hO0 : 0 < O := by omega
  have HO1 := Lib.hid o1
  obtain ⟨bq, hbq⟩ : ∃ bq, bq = n % 4 := ⟨_, rfl⟩
  have b5 : (n : Int) % 4 = (bq : Int) := by omega
  have HBQ := Lib.hid hbq
  have hbq4 : bq < 4 := by omega
  clear hi0 hz0 hz1 hz2 hj0 jz0 jz1 jz2 hz00 hX1 hX2 hBn hO o1 hbq
  obtain ⟨w2, hw2⟩ : ∃ w2, w2 = (w1.alloc (.cells X1 5)).alloc (.cells X2 104) := ⟨_, rfl⟩
  have hb2 : Below w1.heap.size w1 w2 := by rw [hw2]; exact ((Below.refl _ w1).alloc (Nat.le_refl _) _).alloc (by simp) _
  have HB2 := Lib.hid (HB1.out.trans (hb2.mono HB1.out.size))
  have HY2 := Lib.hid (HYS.out.below hb2 HYS.out.lt)
  have HK1 := Lib.hid (show Blk w2 w1.heap.size 5 X1 by rw [hw2]; exact (Blk.new w1 _ _).alloc _)
  have HK2 := Lib.hid (show Blk w2 (w1.heap.size + 1) 104 X2 by rw [hw2]; exact Blk.new_ (by simp) _ _)
  have HP2 := Lib.hid ((HP.out.below HB1.out HP.out.lt).below hb2 hp1)
  have HW2 := Lib.hid hw2
  have hpw : w.heap.size < w1.heap.size := HYS.out.lt
  clear hw2 hb2
  obtain ⟨bl, hbl⟩ : ∃ bl, bl = if bq = 0 then 4 else bq := ⟨_, rfl⟩
  have HBL := Lib.hid (show n = 4 * (O - 1) + bl ∧ 1 ≤ bl ∧ bl ≤ 4 by
    have h1 := HO.out
    have h2 := HBQ.out
    split at hbl <;> omega)
  rcases Nat.eq_zero_or_pos bq with hb0 | hb0
  case' inl =>
    have hbl2 : bl = 4 := by rw [hbl, if_pos hb0]
    have HAND := Lib.hid (show ∀ x : Nat, x < 256 ^ bl → bits .and .u32 (x : Int) 0 = 0 from fun x hx => and_zero x (by rw [hbl2] at hx; exact hx))
    have HBE := Lib.hid hbl
    clear hbl hbl2
    have b6 : decide ((0 : Int) < (n : Int) % 4) = false := by simp; omega
    go_enter Tryz.func105, Tryz.ntmps105
    go_wp2_with fail
  case' inr =>
    have hbl2 : bl = bq := by rw [hbl, if_neg (by omega)]
    have HAND := Lib.hid (show ∀ x : Nat, x < 256 ^ bl → bits .and .u32 (x : Int) (4294967295 * 2 ^ (bq * 8) % 4294967296) = 0 from fun x hx => and_mask bq hbq4 x (by rw [hbl2] at hx; exact hx))
    have HBE := Lib.hid hbl
    clear hbl hbl2
    have b6 : decide ((0 : Int) < (n : Int) % 4) = true := by simp; omega
    go_enter Tryz.func105, Tryz.ntmps105
    go_wp2_with fail
  --DEV rotate_left; sorry
  all_goals
    rw [← HW2.out]
    go_loopw [9, 17] (fun zv iv wr => ∃ q : Nat, q ≤ k ∧ zv = .int .i64 q ∧ iv = .int .i64 q ∧ wr = w2) (fun _ iv _ => n - (intOf iv).toNat)
    case atStart => exact ⟨0, by omega, rfl, rfl, rfl⟩
    case round =>
      obtain ⟨q, hq, rfl, rfl, hww⟩ := hrel
      cases hww
      by_cases hlq : q < k
      · have hqn : q < n := by omega
        have c0 : w2.cell? ⟨w.heap.size, q, none⟩ = some (.int .i32 z0) := by
          rw [HY2.out.cell q, HYV.out q (by rw [HL.out]; exact hqn), HDG.out q (by rw [HL.out]; exact hqn), HZ.out q hlq, HZ0.out]
        go_wp2_with fail
        go_roundw
        case rel => exact ⟨q + 1, by omega, by go_num, by go_num, trivial⟩
        case measure => simp [intOf]; omega
      · obtain rfl : q = k := by omega
        have hstop : q < n → ∃ y : Nat, w2.cell? ⟨w.heap.size, q, none⟩ = some (.int .i32 y) ∧ ((y : Int) == (z0 : Int)) = false := fun hqn => by
          refine ⟨(letter (dg q)).toNat, ?_, ?_⟩
          · rw [HY2.out.cell q, HYV.out q (by rw [HL.out]; exact hqn), HDG.out q (by rw [HL.out]; exact hqn)]
          · have h1 : (letter (dg q)).toNat ≠ z0 := fun e => HNZ.out hqn (letter_inj _ _ (HLT.out q) (by decide) (UInt8.toNat_inj.1 (e.trans HZ0.out)))
            simp
            omega
        have HNZ2 := Lib.hid hlq
        clear hlq
        by_cases hqn : q < n
        case' pos => obtain ⟨y, c0, hy0⟩ := hstop hqn
        --DEV rotate_left; sorry
        all_goals
          clear hstop
          go_wp2_with fail
          go_loopw [6, 8, 75] (fun tv cv iv wr => ∃ (r : Nat) (W : Nat → Nat), r ≤ n ∧ (∃ tx, tv = .int .u64 tx) ∧ (∃ cx, cv = .int .u32 cx) ∧ iv = .int .i64 r ∧ Wds wr (w1.heap.size + 1) O W ∧ wval W O = nv dg r ∧ Below (w1.heap.size + 1) w2 wr) (fun _ _ iv _ => n - (intOf iv).toNat)
          case atStart => exact ⟨0, fun _ => 0, by omega, ⟨_, rfl⟩, ⟨_, rfl⟩, rfl, Wds.new HK2.out HX2.out, wval_zero O, Below.refl _ _⟩
          case round =>
            obtain ⟨r, W, hr, ⟨tx, rfl⟩, ⟨cx, rfl⟩, rfl, hwd, hwv, hb⟩ := hrel
            have HWD := Lib.hid hwd
            have HWV := Lib.hid hwv
            have HB := Lib.hid hb
            clear hwd hwv hb
            by_cases hlr : r < n
            · have hdd := HLT.out r
              obtain ⟨y, hy⟩ : ∃ y : Nat, y = (letter (dg r)).toNat := ⟨_, rfl⟩
              have hy127 : y < 128 := by rw [hy]; exact letter_small _ hdd
              have c0 : wr.cell? ⟨w.heap.size, r, none⟩ = some (.int .i32 y) := by
                rw [HB.out.cell (p := ⟨w.heap.size, r, none⟩) (show w.heap.size < w1.heap.size + 1 by omega), HY2.out.cell r, HYV.out r (by rw [HL.out]; exact hlr), HDG.out r (by rw [HL.out]; exact hlr), hy]
              have c1 : wr.cell? ⟨p, y, none⟩ = some (.int .i8 (dg r)) := by
                rw [HB.out.cell (p := ⟨p, y, none⟩) (show p < w1.heap.size + 1 by omega), HP2.out.cell y, hy]
                exact HA.out.dec (dg r) hdd hdd
              have HR := Lib.hid (And.intro hy rfl : y = (letter (dg r)).toNat ∧ nv dg (r + 1) = nv dg r * 58 + dg r)
              generalize hdr : dg r = dd at c1 hdd
              have HDR := Lib.hid hdr
              have d1 : decide ((127 : Int) < (y : Int)) = false := by simp; omega
              have d2 : ((dd : Int) == -1) = false := by simp <;> omega
              have d3 : IntKind.u32.wrap (dd : Int) = (dd : Int) := IntWalk.u32_in _ (by omega)
              clear hy hdr
              go_wp2_with fail
              have hO1 := HO1.out
              go_loopw [6, 8, 20] (fun tv cv jv wq => ∃ (t cc : Nat) (jx : Int) (E : Nat → Nat), t ≤ O ∧ (∃ tx, tv = .int .u64 tx) ∧ cv = .int .u32 cc ∧ cc < 58 ∧ jv = .int .i64 jx ∧ jx = (O : Int) - 1 - t ∧ Wds wq (w1.heap.size + 1) O E ∧ (∀ i, t ≤ i → i < O → E i = W i) ∧ wval E t + cc * 4294967296 ^ t = dd + 58 * wval W t ∧ Below (w1.heap.size + 1) w2 wq) (fun _ _ jv _ => (intOf jv + 1).toNat)
              case atStart => exact ⟨0, dd, ((n : Int) + 3) / 4 - 1, W, by omega, ⟨_, rfl⟩, rfl, hdd, rfl, by omega, HWD.out, fun _ _ _ => rfl, by simp [wval], HB.out⟩
              case round =>
                obtain ⟨t, cc, jx, E, ht, ⟨tx, rfl⟩, rfl, hcc, rfl, hjx, hwe, hE, hsum, hb⟩ := hrel
                have HWE := Lib.hid hwe
                have HE := Lib.hid hE
                have HSUM := Lib.hid hsum
                have HB3 := Lib.hid hb
                clear hwe hE hsum hb hO1
                by_cases htO : t < O
                · obtain ⟨e, he⟩ : ∃ e, e = O - 1 - t := ⟨_, rfl⟩
                  obtain rfl : jx = (e : Int) := by omega
                  have heO : e < O := by omega
                  have c2 := HWE.out.at_ e heO
                  have het : E (O - 1 - e) = W t := by rw [show O - 1 - e = t by omega]; exact HE.out t (Nat.le_refl _) htO
                  rw [het] at c2
                  have hlw := HWD.out.lt t
                  have f2 := HWE.out.frozen e
                  have hstep := word_step W E t cc dd HSUM.out
                  obtain ⟨T, hT⟩ : ∃ T, T = W t * 58 + cc := ⟨_, rfl⟩
                  rw [← hT] at hstep
                  have hset := fun (v : Nat) (hv : v < 4294967296) => HWE.out.set t e he htO v hv
                  have HSTEP := Lib.hid hstep
                  have HSET := Lib.hid hset
                  generalize hWt : W t = v at c2 hlw hT
                  have HWt := Lib.hid hWt
                  have hT2 : T < 249108103168 := by omega
                  have t1 : (v : Int) * 58 + (cc : Int) = (T : Int) := by omega
                  have HEQ := Lib.hid (And.intro he (And.intro hjx hT))
                  have A1 := Lib.hid (show bits .and .u32 ((T : Int) / 4294967296) 63 = ((T / 4294967296 : Nat) : Int) by
                    have := and_63 (T / 4294967296) (by omega)
                    rwa [Int.natCast_ediv] at this ⊢)
                  have A2 := Lib.hid (show bits .and .u64 (T : Int) 4294967295 % 4294967296 = ((T % 4294967296 : Nat) : Int) by
                    rw [and_low T (by omega)]
                    omega)
                  clear het hstep hset hWt hT he hjx
                  go_wp2_with fail
                  exact ⟨⟨t + 1, T / 4294967296, (e : Int) - 1, setD E t (T % 4294967296), by omega, ⟨_, rfl⟩, by rw [A1.out], by omega, rfl, by have := HEQ.out; omega, by rw [A2.out]; exact HSET.out _ (Nat.mod_lt _ (by decide)), fun i h1 h2 => by unfold setD; rw [if_neg (by omega)]; exact HE.out i (by omega) h2, HSTEP.out, HB3.out.setCell (p := ⟨w1.heap.size + 1, e, none⟩) (Nat.le_refl _) _⟩, by simp only [intOf]; omega⟩
                · obtain rfl : O = t := by omega
                  have hV : wval E O = nv dg (r + 1) ∧ cc = 0 := dec_round (HLT.out) hlr HSUM.out (by rw [HDR.out]) HWV.out (by have := HBL.out; omega)
                  obtain ⟨hV, rfl⟩ := hV
                  have c3 := HWE.out.at_ 0 hO0
                  have hx := top_lt E (by rw [hV]; exact nv_lt dg HLT.out (r + 1)) (show r + 1 ≤ n by omega) hO0 HBL.out.1
                  have hand := HAND.out _ hx
                  rw [Nat.sub_zero] at c3
                  generalize E (O - 1) = x at c3 hand
                  have HV := Lib.hid hV
                  have jneg : decide ((0 : Int) ≤ jx) = false := by simp; omega
                  clear hV hx hjx
                  go_wp2_with fail
                  exact ⟨⟨r + 1, E, by omega, ⟨_, rfl⟩, ⟨_, rfl⟩, by go_num, HWE.out, HV.out, HB3.out⟩, by simp [intOf]; omega⟩
            · obtain rfl : n = r := by omega
              go_wp2_with fail
              have hbin := Bin.new (w := wr) (f := byteAt (nv dg n) n) ((HK1.out).below HB.out (Nat.lt_succ_self _)) HX1.out
              go_loopw [14, 21, 22, 23] (fun bv jv cv _ wr => ∃ j b c0 : Nat, j ≤ O ∧ jv = .int .i64 j ∧ bv = .int .i64 b ∧ cv = .int .i64 c0 ∧ b = (if j = 0 then bl else 4) ∧ c0 = (if j = 0 then 0 else bl + 4 * (j - 1)) ∧ Bin wr w1.heap.size Bn (byteAt (nv dg n) n) c0 ∧ Wds wr (w1.heap.size + 1) O W ∧ Below w1.heap.size w2 wr) (fun _ jv _ _ _ => O - (intOf jv).toNat)
              case atStart => exact ⟨0, bl, 0, by omega, rfl, by have h1 := HBE.out; have h2 := HBQ.out; congr 1; split at h1 <;> omega, rfl, rfl, rfl, hbin, HWD.out, HB.out.mono (Nat.le_succ _)⟩
              case round =>
                obtain ⟨j, b, c0, hj, rfl, rfl, rfl, hbj, hcj, hbi, hwd, hb⟩ := hrel
                have HBI := Lib.hid hbi
                have HWD2 := Lib.hid hwd
                have HB4 := Lib.hid hb
                have HCJ := Lib.hid (And.intro hbj hcj)
                clear hbi hwd hb hbin
                have hO1 := HO1.out
                by_cases hjO : j < O
                · have hbb : 1 ≤ b ∧ b ≤ 4 := by have := HBL.out; split at hbj <;> omega
                  have hnn : n - 1 - c0 = 4 * (O - 1 - j) + (b - 1) ∧ c0 + b ≤ n := by
                    have h1 := HBL.out
                    split at hbj <;> split at hcj <;> omega
                  obtain ⟨b1, hb1⟩ : ∃ b1, b1 = b - 1 := ⟨_, rfl⟩
                  have m1 : (b : Int) - 1 = (b1 : Int) := by omega
                  have m2 : IntKind.u8.wrap (b1 : Int) = (b1 : Int) := IntWalk.u8_in _ (by omega)
                  have c2 := HWD2.out.at_ j hjO
                  have hBn2 : c0 + b ≤ Bn := by have := HBn.out; omega
                  have HNN := Lib.hid (And.intro hnn (And.intro hbb hb1))
                  have hg1 : decide ((j : Int) < ((n : Int) + 3) / 4) = true := by simp; omega
                  clear hbj hcj hnn hb1 hO1
                  generalize hx : W (O - 1 - j) = x at c2
                  have HX := Lib.hid hx
                  clear hx
                  go_wp2_with fail
                  go_loopw [22, 23] (fun cv mv wq => ∃ s c1 mk : Nat, s ≤ b ∧ c1 = c0 + s ∧ cv = .int .i64 c1 ∧ mv = .int .u8 mk ∧ (s < b ∧ mk = 8 * (b1 - s) ∨ s = b ∧ mk = 248) ∧ Bin wq w1.heap.size Bn (byteAt (nv dg n) n) c1 ∧ Wds wq (w1.heap.size + 1) O W ∧ Below w1.heap.size w2 wq) (fun cv _ _ => c0 + b - (intOf cv).toNat)
                  case atStart => exact ⟨0, c0, 8 * b1, by omega, rfl, rfl, by congr 1; omega, Or.inl ⟨by have := HNN.out; omega, rfl⟩, HBI.out, HWD2.out, HB4.out⟩
                  case round =>
                    obtain ⟨s, c1, mk, hs, hc1, rfl, rfl, hmk3, hbi, hwd, hb⟩ := hrel
                    have HBI3 := Lib.hid hbi
                    have HWD3 := Lib.hid hwd
                    have HB5 := Lib.hid hb
                    clear hbi hwd hb
                    by_cases hsb : s < b
                    · have hmk4 : mk = 8 * (b1 - s) := by omega
                      obtain ⟨⟨hn1, hn2⟩, ⟨hb1, hb2⟩, hb3⟩ := HNN.out
                      have hn3 : n - 1 - c1 = 4 * (O - 1 - j) + (b1 - s) := by omega
                      have hc1B : c1 < Bn := by omega
                      have c3 := HWD3.out.at_ j hjO
                      rw [HX.out] at c3
                      have c4 := HBI3.out.hi c1 (Nat.le_refl _) hc1B
                      have f4 := HBI3.out.frozen c1
                      have hwb := word_byte (t := b1 - s) (q := c1) HWD3.out.lt HWV.out (show O - 1 - j < O by omega) (by omega) hn3
                      rw [HX.out, ← hmk4] at hwb
                      have hput := HBI3.out.put hc1B (x / 2 ^ mk % 256) hwb
                      have HPUT := Lib.hid hput
                      have hg2 : decide ((mk : Int) ≤ 24) = true := by simp; omega
                      have HMK := Lib.hid (And.intro hmk4 (And.intro hc1 hn3))
                      have hmk24 : mk ≤ 24 := by omega
                      have hc110 : c1 < 110 := by omega
                      clear hput hwb hmk3 hmk4 hc1 hn1 hn3
                      go_wp2_with fail
                      rw [cast_byte]
                      refine ⟨⟨s + 1, c1 + 1, if s + 1 < b then 8 * (b1 - (s + 1)) else 248, by omega, by have := HMK.out; omega, by go_num, ?_, ?_, HPUT.out, HWD3.out.far (by omega) _ _, HB5.out.setCell (p := ⟨w1.heap.size, c1, none⟩) (Nat.le_refl _) _⟩, meas_sub HMK.out.2.1 hsb⟩
                      · have h2 := HMK.out
                        have h3 := HNN.out
                        congr 1
                        split <;> omega
                      · split
                        · exact Or.inl ⟨by omega, rfl⟩
                        · exact Or.inr ⟨by omega, rfl⟩
                    · obtain rfl : mk = 248 := by omega
                      obtain rfl : s = b := by omega
                      have HC1 := Lib.hid hc1
                      clear hmk3 hc1
                      by_cases hj0 : j = 0
                      case' pos => have hjz : ((j : Int) == 0) = true := by simp [hj0]
                      case' neg => have hjz : ((j : Int) == 0) = false := by simp [hj0]
                      all_goals
                        have HJ0 := Lib.hid hj0
                        clear hj0
                        go_wp2_with fail
                        refine ⟨⟨j + 1, _, c1, by omega, by go_num, rfl, rfl, ?_, ?_, HBI3.out, HWD3.out, HB5.out⟩, by simp only [intOf]; omega⟩
                        · have h1 := HCJ.out.1
                          have h2 := HJ0.out
                          first
                            | exact (if_neg (by omega)).symm
                            | rw [h1, if_neg h2, if_neg (by omega)]
                        · rw [if_neg (by omega)]
                          have h1 := HCJ.out
                          have h2 := HJ0.out
                          have h3 := HC1.out
                          rw [h3]
                          obtain ⟨h4, h5⟩ := h1
                          first
                            | rw [h4, h5]; done
                            | rw [h4, h5]; split <;> omega
                · obtain rfl : j = O := by omega
                  clear hbj hcj
                  obtain rfl : n = c0 := by
                    have h1 := HCJ.out.2
                    have h2 := HBL.out
                    rw [h1, if_neg (by omega)]
                    omega
                  have hg3 : decide ((j : Int) < ((n : Int) + 3) / 4) = false := by have := HO1.out; simp; omega
                  go_wp2_with fail
                  go_loopw [24, 25, 162] (fun _ _ iv wq => ∃ i : Nat, i ≤ Bn ∧ iv = .int .i64 i ∧ (∀ y, y < i → y < n → byteAt (nv dg n) n y = 0) ∧ wq = wr) (fun _ _ iv _ => Bn - (intOf iv).toNat)
                  case atStart => exact ⟨0, by omega, rfl, fun y hy => absurd hy (by omega), rfl⟩
                  case round =>
                    obtain ⟨i, hi, rfl, hz, hww⟩ := hrel
                    have HZZ := Lib.hid hz
                    clear hz
                    cases hww
                    have hBn1 : Bn = (n + 3) * 3 := HBn.out
                    have hBn3 : n < Bn := by omega
                    have hBn4 : Bn < 340 := by omega
                    by_cases hiB : i < Bn
                    · by_cases hin : i < n
                      · obtain ⟨v, hv⟩ : ∃ v, v = byteAt (nv dg n) n i := ⟨_, rfl⟩
                        have hv256 : v < 256 := by rw [hv]; exact Nat.mod_lt _ (by decide)
                        have c4 : wr.cell? ⟨w1.heap.size, i, none⟩ = some (.int .u8 v) := by rw [HBI.out.lo i (by omega), hv]
                        have HVV := Lib.hid hv
                        clear hv hBn1
                        by_cases hv0 : v = 0
                        · have hg4 : decide ((0 : Int) < (v : Int)) = false := by simp; omega
                          go_wp2_with fail
                          exact ⟨⟨i + 1, by omega, by go_num, zero_step HZZ.out (HVV.out.symm.trans hv0), trivial⟩, by simp only [intOf]; omega⟩
                        · have hg4 : decide ((0 : Int) < (v : Int)) = true := by simp; omega
                          by_cases hst : i < q
                          · have hg5 : decide ((i : Int) - (q : Int) < 0) = true := by simp; omega
                            go_wp2_with fail
                            go_ret2
                            have hR : DecR (nv dg n) n q ((beL (nv dg n) n).drop 0) := Or.inr ⟨i, hin, fun z hz => HZZ.out z hz (by omega), by rw [← HVV.out]; exact hv0, by rw [show i - q = 0 by omega]⟩
                            exact dec_fin HBI.out hBn3 hBn4 (Nat.zero_le _) hR (HB2.out.trans (HB4.out.mono (Nat.le_of_lt hpw)))
                          · obtain ⟨y, hy⟩ : ∃ y, i = q + y := ⟨i - q, by omega⟩
                            have hy2 : (i : Int) - (q : Int) = (y : Int) := by omega
                            have HY := Lib.hid hy
                            clear hy
                            have hy3 : decide ((y : Int) < 0) = false := by simp
                            go_wp2_with fail
                            all_goals
                              go_ret2
                              have hyi := HY.out
                              have hR : DecR (nv dg n) n q ((beL (nv dg n) n).drop y) := Or.inr ⟨i, hin, fun z hz => HZZ.out z hz (by omega), by rw [← HVV.out]; exact hv0, by rw [show i - q = y by omega]⟩
                              exact dec_fin HBI.out hBn3 hBn4 (by omega) hR (HB2.out.trans (HB4.out.mono (Nat.le_of_lt hpw)))
                      · have c4 := HBI.out.hi i (by omega) hiB
                        clear hBn1
                        go_wp2_with fail
                        exact ⟨⟨i + 1, by omega, by go_num, fun y h1 h2 => HZZ.out y (by omega) h2, trivial⟩, by simp only [intOf]; omega⟩
                    · obtain rfl : i = Bn := by omega
                      clear hBn1
                      go_wp2_with fail
                      go_ret2
                      have hR : DecR (nv dg n) n q ((beL (nv dg n) n).drop 0) := Or.inl ⟨rfl, fun z hz => HZZ.out z (by omega) hz⟩
                      exact dec_fin HBI.out hBn3 hBn4 (Nat.zero_le _) hR (HB2.out.trans (HB4.out.mono (Nat.le_of_lt hpw)))
end Go.Proofs.YtllofneeodnllaaGreatDoor
