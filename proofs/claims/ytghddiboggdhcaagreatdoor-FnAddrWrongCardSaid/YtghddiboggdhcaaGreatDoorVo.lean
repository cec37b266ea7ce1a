/- Rows of bytes that are written: made of zeros, or of a text. No condition. -/
import Derived.Test.YtghddiboggdhcaaGreatDoorVi2
import Derived.Test.YtghddiboggdhcaaGreatDoorPu
import Derived.Test.YtghddiboggdhcaaGreatDoorXf
import Derived.Test.YtghddiboggdhcaaGreatDoorPg
set_option maxRecDepth 100000
set_option maxHeartbeats 8000000
namespace Go.Proofs.YtghddiboggdhcaaGreatDoor
open Go.RowKit
def OutSN (N : Nat) (w : World) (e : Ending) (w' : World) : Prop := ∃ l : List UInt8, e = .returned (.string ⟨l.toArray⟩) ∧ l.length ≤ N ∧ Below w.heap.size w w'
theorem made_zero (N : Nat) : madeCells (Value.int .u8 0).cells (N * 1) = (bv (List.replicate N 0)).toArray := by
  apply Array.ext'
  show ((Array.range (N * 1)).map (fun i => (#[Value.int .u8 0] : Array Value)[i % 1]!)).toList = _
  apply List.ext_getElem?
  intro j
  simp only [bv, List.map_replicate, Array.toList_map, List.getElem?_map, Array.toList_range, List.getElem?_replicate]
  by_cases hj : j < N
  · simp [hj, Nat.mod_one]
  · simp [hj]
theorem make_zeros (s : Nat) (hs : s ≤ 1000000) (W : World) : (Instr.makeSlice 22 (.int .i64 (s : Int)) (.int .i64 (s : Int))).run Tryz.prog W = .ok (.slice (some ⟨W.heap.size, 0, none⟩) s s) (W.alloc (.cells (bv (List.replicate s 0)).toArray 5)) := by
  obtain ⟨i0, hi0, hz0, hz1, hz2⟩ := info_parts u8_info
  have := run_make_rowN (P := Tryz.prog) 22 5 i0 (.int .u8 0) Tryz.underlying22 hi0 hz0 .i64 .i64 s s (Nat.le_refl _) (by rw [hz2]; omega) (by omega) W
  rw [hz1] at this
  rwa [made_zero] at this
def BufF (w : World) (b G : Nat) : Prop := ∃ (L : List UInt8) (f : Nat × Nat), L.length = G ∧ G ≤ f.1 ∧ w.heap[b]? = some (.cells (bv L).toArray 5 f)
theorem BufF.put {w : World} {b G : Nat} (h : BufF w b G) (i : Nat) (u : UInt8) : BufF (w.setCell ⟨b, i, none⟩ (.int .u8 u.toNat)) b G := by
  obtain ⟨L, f, hl, hf, hb⟩ := h
  refine ⟨L.set i u, f, by simp [hl], hf, ?_⟩
  have : (w.setCell ⟨b, i, none⟩ (.int .u8 u.toNat)).heap[b]? = some (.cells ((bv L).toArray.setIfInBounds i (.int .u8 u.toNat)) 5 f) := by
    simp [World.setCell, Array.getElem?_modify, hb]
  rwa [bvr_set] at this
theorem BufF.at_ {w : World} {b G : Nat} (h : BufF w b G) (i : Nat) (hi : i < G) : ∃ u : UInt8, w.cell? ⟨b, i, none⟩ = some (.int .u8 u.toNat) := by
  obtain ⟨L, f, hl, hf, hb⟩ := h
  exact ⟨L[i]'(by omega), (cell_of_row w b i _ _ f hb).trans (by simp [bv, hl, hi])⟩
theorem BufF.frozen {w : World} {b G : Nat} (h : BufF w b G) (i : Nat) (hi : i < G) : w.frozen? ⟨b, i, none⟩ = false := by
  obtain ⟨L, f, hl, hf, hb⟩ := h
  simp only [World.frozen?, hb]
  simp
  omega
theorem BufF.drewN {w : World} {b G : Nat} (h : BufF w b G) (k : Nat) : BufF (w.drewN k) b G := h
theorem BufF.text {w : World} {b G : Nat} (h : BufF w b G) (n : Nat) (hn : n ≤ G) (hm : G ≤ maxLen) : ∃ l : List UInt8, l.length = n ∧ ∀ dst, Tryz.prog.underlying dst = some .string → (convert 22 dst (.slice (some ⟨b, 0, none⟩) n G)).run Tryz.prog w = .ok (.string ⟨l.toArray⟩) w := by
  obtain ⟨L, f, hl, hf, hb⟩ := h
  have hr := (RB.of_fr hb (by omega)).take (k := n) (by omega)
  rw [hl] at hr
  exact ⟨L.take n, by simp [hl, hn], run_convert_RB hr 22 5 Tryz.underlying22 Tryz.underlying5⟩
theorem conv_buff (w : World) (S : List UInt8) (h : S.length ≤ 1000000) : ∃ G w', S.length ≤ G ∧ G ≤ maxLen ∧ (convert 9 22 (.string ⟨S.toArray⟩)).run Tryz.prog w = .ok (.slice (some ⟨w.heap.size, 0, none⟩) S.length G) w' ∧ BufF w' w.heap.size G ∧ Below w.heap.size w w' := by
  have hc := Lib.run_convert_string_bytes (P := Tryz.prog) w 9 22 5 ⟨S.toArray⟩ Tryz.underlying9 Tryz.underlying22 Tryz.underlying5
  have hz : (⟨S.toArray⟩ : ByteArray).size = S.length := size_toArray S
  rw [hz] at hc
  have hge := grownCap_ge w S.length 0 5
  have hbc : Lib.bytesCells w 5 ⟨S.toArray⟩ = (bv (S ++ List.replicate (grownCap w S.length 0 5 - S.length) 0)).toArray := by
    unfold Lib.bytesCells
    rw [hz]
    simp [bv]
  have hs : (Lib.bytesCells w 5 ⟨S.toArray⟩).size = grownCap w S.length 0 5 := by
    rw [hbc]
    simp [bv]
    omega
  exact ⟨_, _, hge, grownCap_le_maxLen _ _ _ _ (by unfold maxLen; omega), hc, ⟨S ++ List.replicate (grownCap w S.length 0 5 - S.length) 0, ((Lib.bytesCells w 5 ⟨S.toArray⟩).size, (Lib.bytesCells w 5 ⟨S.toArray⟩).size + 1), by simp; omega, by rw [hs]; exact Nat.le_refl _, by rw [← hbc]; exact Lib.bytesWorld_at_new w _ _⟩, below_bytesWorld _ _ _⟩
theorem RB.of_blkq {w : World} {g : Nat} {t : TypeId} {l : List UInt8} (h : Blk w g t (bv l).toArray) (hm : l.length ≤ maxLen) : RB w w.heap.size (some ⟨g, 0, none⟩) l.length l.length l := by
  refine ⟨⟨by simp [bv], fun _ => ⟨_, rfl, h.lt, fun j u hu => ?_⟩⟩, Nat.le_refl _, hm⟩
  have hadd : (⟨g, 0, none⟩ : Addr).add j = ⟨g, j, none⟩ := by unfold Addr.add; split <;> simp_all
  rw [hadd, h.cell j]
  simpa using hu
theorem ba_getq (S : List UInt8) (i : Nat) (x : UInt8) (h : S[i]? = some x) : ∀ h2 : i < (⟨S.toArray⟩ : ByteArray).size, (⟨S.toArray⟩ : ByteArray)[i]'h2 = x := fun h2 => by
  have hl : i < S.length := (List.getElem?_eq_some_iff.1 h).1
  have h3 : S[i] = x := (List.getElem?_eq_some_iff.1 h).2
  show (S.toArray)[i]'_ = x
  simpa using h3
end Go.Proofs.YtghddiboggdhcaaGreatDoor
/- base32: bytes as text; a text in small letters; a text without the signs at its end. No condition beyond. -/
namespace Go.Proofs.YtghddiboggdhcaaGreatDoor
open Go.RowKit
attribute [local go_sem ↓] Go.wp_at_zero Go.wp_at_succ
theorem enclen32_x (p n : Nat) (w : World) (hn : n ≤ 100000) (hP : w.cell? ⟨p, 288, none⟩ = some (.int .i32 61)) : Calls Tryz.prog 221 #[.pointer (some ⟨p, 0, none⟩), .int .i64 n] w fun e w' => e = .returned (.int .i64 ((n + 4) / 5 * 8 : Nat)) ∧ w = w' := by
  obtain ⟨Q, hQ⟩ : ∃ Q, Q = (n + 4) / 5 := ⟨_, rfl⟩
  have h1 : ((n : Int) + 4) / 5 = (Q : Int) := by omega
  have h2 : IntKind.i64.wrap ((n : Int) + 4) = (n : Int) + 4 := IntWalk.i64_in _ (by omega)
  have h3 : IntKind.i64.wrap ((Q : Int) * 8) = (Q : Int) * 8 := IntWalk.i64_in _ (by omega)
  rw [← hQ]
  clear hQ
  go_enter Tryz.func221, Tryz.ntmps221
  go_wp2_with fail
  go_ret
  exact ⟨congrArg (fun z => Ending.returned (.int .i64 z)) (show (Q : Int) * 8 = ((Q * 8 : Nat) : Int) by omega), rfl⟩
theorem encstr32_x (al : List UInt8) (hal : al.length = 32) (p : Nat) (xs : Array Value) (A : Option Addr) (n c : Nat) (d : List UInt8) (w : World) (hx : EncX al 289 32 xs 32) (hp : Blk w p 244 xs) (h : RB w w.heap.size A n c d) (hn : n ≤ 10000) :
    Calls Tryz.prog 187 #[.pointer (some ⟨p, 0, none⟩), .slice A n c] w (OutSN 20000 w) := by
  obtain ⟨N, hN⟩ : ∃ N, N = (n + 4) / 5 * 8 := ⟨_, rfl⟩
  have HL := Lib.hid (enclen32_x p n w (by omega) ((hp.cell _).trans hx.pad))
  have hmk := make_zeros N (by omega) w
  obtain ⟨w1, hw1⟩ : ∃ w1, w1 = w.alloc (.cells (bv (List.replicate N 0)).toArray 5) := ⟨_, rfl⟩
  rw [← hw1] at hmk
  have hbw : Below w.heap.size w w1 := by rw [hw1]; exact (Below.refl _ w).alloc (Nat.le_refl _) _
  have hps : p < w.heap.size := hp.lt
  have hE := enc32_any al hal w.heap.size w.heap.size N p xs A n c d w1 hx ⟨Below.refl _ w1, ⟨List.replicate N 0, by simp, by rw [hw1]; exact Blk.new _ _ _⟩, hp.below hbw hps⟩ (Nat.le_refl _) (by omega) (h.below hbw) (by omega) hN N (Nat.le_refl _) (by omega)
  rw [← hN] at HL
  have HE := Lib.hid hE
  have HBW := Lib.hid hbw
  have HN := Lib.hid (show N ≤ 20000 by omega)
  clear hE hw1 hN hx hp h hbw
  go_enter Tryz.func187, Tryz.ntmps187
  go_wp2_with fail
  refine HL.out.mono ?_
  rintro e w' ⟨rfl, rfl⟩
  go_wp2_with fail
  refine HE.out.mono ?_
  rintro e w2 ⟨rfl, hw⟩
  obtain ⟨l, hl, hb⟩ := hw.buf
  have hcv := run_convert_RB (RB.of_blkq hb (by unfold maxLen; have := HN.out; omega)) 22 5 Tryz.underlying22 Tryz.underlying5 9 Tryz.underlying9
  rw [hl] at hcv
  have HB := Lib.hid (HBW.out.trans hw.bel)
  have HLL := Lib.hid hl
  clear hw hb hl
  go_wp2_with fail
  go_ret
  exact ⟨l, rfl, by have := HLL.out; have := HN.out; omega, HB.out⟩
theorem lower_x (S : List UInt8) (hS : S.length ≤ 100000) (w : World) : Calls Tryz.prog 186 #[.string ⟨S.toArray⟩] w (OutSN S.length w) := by
  obtain ⟨G, w1, hG, hGm, hcv, hbf, hbw⟩ := conv_buff w S (by omega)
  obtain ⟨n, hn⟩ : ∃ n, n = S.length := ⟨_, rfl⟩
  rw [← hn] at hcv hG hS ⊢
  have HBF := Lib.hid hbf
  have HBW := Lib.hid hbw
  clear hbf hbw hn
  go_enter Tryz.func186, Tryz.ntmps186
  go_wp2_with fail
  go_loopw [4, 5, 10] (fun i c k wr => ∃ j : Nat, j ≤ n ∧ k = .int .i64 j ∧ BufF wr w.heap.size G ∧ Below w.heap.size w wr) (fun _ _ k _ => n - (intOf k).toNat)
  case atStart => exact ⟨0, by omega, rfl, HBF.out, HBW.out⟩
  case round =>
    obtain ⟨j, hj, rfl, hb, hbe⟩ := hrel
    have HB := Lib.hid hb
    have HBE := Lib.hid hbe
    clear hb hbe hcv
    by_cases hlt : j < n
    · obtain ⟨u, hu⟩ := HB.out.at_ j (by omega)
      have hf := HB.out.frozen j (by omega)
      have hul := u.toNat_lt
      obtain ⟨X, hX⟩ : ∃ X, X = u.toNat := ⟨_, rfl⟩
      rw [← hX] at hu hul
      clear hX
      by_cases h1 : 65 ≤ X
      · by_cases h2 : X ≤ 90
        · have e1 : decide ((65 : Int) ≤ (X : Int)) = true := by simp; omega
          have e2 : decide ((X : Int) ≤ 90) = true := by simp; omega
          have hv : (X : Int) - 65 + 97 = ((UInt8.ofNat (X + 32)).toNat : Int) := by
            have : (UInt8.ofNat (X + 32)).toNat = X + 32 := by rw [UInt8.toNat_ofNat']; omega
            rw [this]
            omega
          have HV := Lib.hid hv
          clear hv
          go_wp2_with fail
          rw [HV.out]
          exact ⟨⟨j + 1, by omega, by go_num, HB.out.put j _, HBE.out.setCell (p := ⟨w.heap.size, j, none⟩) (Nat.le_refl _) _⟩, by simp [intOf]; omega⟩
        · have e1 : decide ((65 : Int) ≤ (X : Int)) = true := by simp; omega
          have e2 : decide ((X : Int) ≤ 90) = false := by simp; omega
          go_wp2_with fail
          exact ⟨⟨j + 1, by omega, by go_num, HB.out, HBE.out⟩, by simp [intOf]; omega⟩
      · have e1 : decide ((65 : Int) ≤ (X : Int)) = false := by simp; omega
        go_wp2_with fail
        exact ⟨⟨j + 1, by omega, by go_num, HB.out, HBE.out⟩, by simp [intOf]; omega⟩
    · obtain rfl : j = n := by omega
      obtain ⟨l, hl, ht⟩ := HB.out.text j hG hGm
      have hcv := ht 9 Tryz.underlying9
      have HL := Lib.hid hl
      clear ht hl
      go_wp2_with fail
      go_ret
      exact ⟨l, rfl, by rw [HL.out]; exact Nat.le_refl _, HBE.out⟩
theorem trimr_g (S : List UInt8) (c : UInt8) (hS : S.length ≤ 100000) (w : World) : Calls Tryz.prog 192 #[.string ⟨S.toArray⟩, .string ⟨#[c]⟩] w (OutSN S.length w) := by
  have hsz := size_toArray S
  have h47 : ∀ h2 : 0 < (⟨#[c]⟩ : ByteArray).size, (⟨#[c]⟩ : ByteArray)[0]'h2 = c := fun _ => rfl
  have h1s : (⟨#[c]⟩ : ByteArray).size = 1 := rfl
  go_enter Tryz.func192, Tryz.ntmps192
  go_wp2_with fail
  go_loopw [5, 6, 7] (fun a b c wq => ∃ k : Nat, k ≤ S.length ∧ a = .int .i64 k ∧ ∃ q, wq = w.drewN q) (fun a _ _ _ => (intOf a).toNat)
  case atStart => exact ⟨S.length, Nat.le_refl _, rfl, 0, rfl⟩
  case round =>
    obtain ⟨k, hk, rfl, q, hq⟩ := hrel
    rw [hq]
    clear hq
    by_cases hpos : 0 < k
    · obtain ⟨m, rfl⟩ : ∃ m, k = m + 1 := ⟨k - 1, by omega⟩
      have hm1 : ((m + 1 : Nat) : Int) - 1 = (m : Int) := by omega
      have hx := ba_getq S m (S[m]'(by omega)) (by simp)
      generalize S[m]'(by omega) = y at hx
      have hmT : m < S.length := by omega
      have hxt := extract_take S (m + 1)
      have hb1 : decide ((0 : Int) < ((m + 1 : Nat) : Int)) = true := decide_eq_true (by omega)
      obtain ⟨M, hM⟩ : ∃ M, M = m + 1 := ⟨_, rfl⟩
      rw [← hM] at hm1 hb1 hk hxt ⊢
      have HM := Lib.hid hM
      have hMS : M ≤ S.length := by omega
      have hm2 : IntKind.i64.wrap ((M : Int) - 1) = (m : Int) := by rw [hm1]; exact IntWalk.i64_in _ (by omega)
      clear hM hpos
      go_wp2_with fail
      go_loopw [6, 7] (fun f i wq => ∃ (k : Nat) (b : Bool), k ≤ 1 ∧ f = .bool b ∧ i = .int .i64 k ∧ ∃ q, wq = w.drewN q) (fun _ i _ => 3 - (intOf i).toNat)
      case atStart => exact ⟨0, false, by omega, rfl, rfl, q, rfl⟩
      case round =>
        obtain ⟨k, b, hk, rfl, rfl, q2, hq⟩ := hrel
        rw [hq]
        clear hq
        rcases (by omega : k = 0 ∨ k = 1) with rfl | rfl
        · rw [show ((0 : Nat) : Int) = 0 from rfl]
          obtain ⟨v, hv⟩ : ∃ v, v = ((c.toNat : Int) == (y.toNat : Int)) := ⟨_, rfl⟩
          have hv2 : ((c.toNat : Int) == (y.toNat : Int)) = v := hv.symm
          clear hv
          cases v
          · go_wp2_with fail
            go_quiet (fail)
            go_wp2_with fail
            exact ⟨⟨1, b, by omega, rfl, rfl, _, rfl⟩, by simp [intOf]⟩
          · go_wp2_with fail
            go_quiet (fail)
            go_wp2_with fail
            exact ⟨⟨1, true, by omega, rfl, rfl, _, rfl⟩, by simp [intOf]⟩
        · rw [show ((1 : Nat) : Int) = 1 from rfl]
          cases b
          · go_wp2_with fail
            go_ret
            exact ⟨S.take M, rfl, by simp; omega, below_drewN (Below.refl _ _) _⟩
          · go_wp2_with fail
            exact ⟨⟨m, by omega, by rfl, _, rfl⟩, by simp [intOf]; have := HM.out; omega⟩
    · obtain rfl : k = 0 := by omega
      have hxt := extract_take S 0
      go_wp2_with fail
      go_ret
      exact ⟨[], rfl, by simp, below_drewN (Below.refl _ _) _⟩
end Go.Proofs.YtghddiboggdhcaaGreatDoor
/- Numbers as text, up to 64 bits; bytes of numbers as text: /memory, /ipcidr, /onion, /onion3, /garlic32. Condition: the table of powers of ten is as laid. -/
namespace Go.Proofs.YtghddiboggdhcaaGreatDoor
open Go.RowKit Go.Sort
variable {K : Nat}
attribute [local go_sem ↓] Go.wp_at_zero Go.wp_at_succ
theorem fuint_64 (u : Nat) (hu : 100 ≤ u) (hum : u < 18446744073709551616) (w : World) (ht : Lib.TabIs Tryz.prog w "internal/strconv.uint64pow10" .u64 Lib.pow10Tab) : Calls Tryz.prog 213 #[.int .u64 u, .int .i64 10] w (OutS 1000 w) := by
  have hu1 : 1 ≤ u := by omega
  have hu64 : u < 18446744073709551616 := hum
  have hnd20 : Lib.nDigits u ≤ 20 := by have := Lib.numDigits_eq u hu1 hu64; split at this <;> omega
  have hal : Tryz.prog.arrayLen 238 = 24 := by kernel_rfl
  have hsl1 : ∀ W, (Instr.sliceAt 238 (.pointer (some ⟨w.heap.size, 0, none⟩)) none (some (.int .i64 (Lib.nDigits u : Int))) none).run Tryz.prog W = .ok (.slice (some ⟨w.heap.size, 0, none⟩) (Lib.nDigits u) 24) W := fun W => by
    rw [run_sliceAt_array_h W 238 ⟨w.heap.size, 0, none⟩ (by kernel_rfl) .i64 (Lib.nDigits u : Int) (by omega) (by rw [hal]; omega)]
    go_simp
  have hH0 : Holds (fun (b : UInt8) => Value.int .u8 (b.toNat : Int)) (w.alloc (.cells Lib.zeros24 238)) w.heap.size 0 (Array.replicate (Lib.nDigits u) (0 : UInt8)) := fun j hj => by
    have hj' : j < Lib.nDigits u := by simpa using hj
    refine ⟨?_, World.frozen?_alloc_new _ _ _ _⟩
    rw [World.cell?_alloc_new, Nat.zero_add, Lib.zeros24_at _ (by omega), getElem!_pos _ j hj]
    simp
  have hfmt := Tryz.internal_strconv_formatBase10 w.heap.size 0 24 u (Array.replicate (Lib.nDigits u) 0) (w.alloc (.cells Lib.zeros24 238)) hH0 (by rw [Array.size_replicate]; exact Lib.lt_pow_nDigits u) hu64 (by rw [Array.size_replicate]; omega)
  rw [Array.size_replicate] at hfmt
  have HH0 := Lib.hid hH0
  clear hH0 hal
  go_enter Tryz.func213, Tryz.ntmps213
  go_wp2_with (first
    | (go_at_call 278; refine (Tryz.internal_strconv_numDigits u hu1 hu64 _ (Lib.tabIs_alloc ht _)).mono ?_; rintro e w' ⟨rfl, rfl⟩))
  go_at_call 279
  refine hfmt.mono ?_
  rintro e w' ⟨rfl, k, v', dk, rfl, hF⟩
  have hcv : (convert 22 9 (.slice (some ⟨w.heap.size, 0, none⟩) (Lib.nDigits u) 24)).run Tryz.prog ((putRow (fun (b : UInt8) => Value.int .u8 (b.toNat : Int)) (w.alloc (.cells Lib.zeros24 238)) w.heap.size 0 dk).drewN k) = .ok (.string ⟨(Lib.decDigits u).toArray⟩) ((putRow (fun (b : UInt8) => Value.int .u8 (b.toNat : Int)) (w.alloc (.cells Lib.zeros24 238)) w.heap.size 0 dk).drewN k) := by
    have h := run_convert_bytes_back (P := Tryz.prog) ((putRow (fun (b : UInt8) => Value.int .u8 (b.toNat : Int)) (w.alloc (.cells Lib.zeros24 238)) w.heap.size 0 dk).drewN k) 22 9 5 ⟨w.heap.size, 0, none⟩ 24 (Lib.decDigits u) Tryz.underlying22 Tryz.underlying5 Tryz.underlying9 (fun j hj => by
      rw [Lib.row_is_numeral hF j hj, Lib.add_plain, World.cell?_drewN]
      exact cell?_putRow (fun (b : UInt8) => Value.int .u8 (b.toNat : Int)) _ w.heap.size 0 _ dk HH0.out (by rw [hF.size, Array.size_replicate]) j (by rw [hF.size]; rw [Lib.decDigits_length] at hj; exact hj))
    rw [Lib.decDigits_length] at h
    exact h
  have hb : Below w.heap.size w ((putRow (fun (b : UInt8) => Value.int .u8 (b.toNat : Int)) (w.alloc (.cells Lib.zeros24 238)) w.heap.size 0 dk).drewN k) := by
    obtain ⟨os, eo⟩ := Lib.fin_at w (.cells Lib.zeros24 238) dk k 0
    rw [eo]
    exact Lib.below_grow _ _ (Nat.le_refl _) _ _
  have HB := Lib.hid hb
  clear hb
  go_wp2
  go_ret
  exact ⟨_, rfl, by have := Lib.decDigits_length u; simp [ByteArray.size]; omega, HB.out⟩
theorem sfuint_64 (u : Nat) (hum : u < 18446744073709551616) (hK : u < K) (w : World) (ht : Tab K w) : Calls Tryz.prog 177 #[.int .u64 u, .int .i64 10] w (OutS 1000 w) := by
  have hc : Calls Tryz.prog 213 #[.int .u64 u, .int .i64 10] w (OutS 1000 w) := by
    rcases Nat.lt_or_ge u 100 with h | h
    · exact fuint_small u h w
    · exact fuint_64 u h hum w (ht.is (by omega))
  have HC := Lib.hid hc
  clear hc
  go_enter Tryz.func177, Tryz.ntmps177
  go_wp2_with fail
  refine HC.out.mono ?_
  rintro e w1 ⟨s, rfl, hs, hb⟩
  have HB := Lib.hid hb
  clear hb
  go_wp2_with fail
  go_ret
  exact ⟨s, rfl, hs, HB.out⟩
def std32 : List UInt8 := [65, 66, 67, 68, 69, 70, 71, 72, 73, 74, 75, 76, 77, 78, 79, 80, 81, 82, 83, 84, 85, 86, 87, 88, 89, 90, 50, 51, 52, 53, 54, 55]
def low32 : List UInt8 := [97, 98, 99, 100, 101, 102, 103, 104, 105, 106, 107, 108, 109, 110, 111, 112, 113, 114, 115, 116, 117, 118, 119, 120, 121, 122, 50, 51, 52, 53, 54, 55]
theorem std32_alph : Alph 32 std32 := ⟨rfl, by decide, by decide⟩
theorem low32_alph : Alph 32 low32 := ⟨rfl, by decide, by decide⟩
def OutEnc (t : TypeId) (al : List UInt8) (S n k : Nat) (w : World) (e : Ending) (w' : World) : Prop := ∃ g xs, e = .returned (.pointer (some ⟨g, 0, none⟩)) ∧ Blk w' g t xs ∧ EncX al S n xs k ∧ w.heap.size ≤ g ∧ Below w.heap.size w w'
theorem zz32_x (w : World) : Calls Tryz.prog 183 #[] w (OutEnc 244 std32 289 32 32 w) := by
  have HN := Lib.hid (newenc32_x std32 std32_alph w)
  go_enter Tryz.func183, Tryz.ntmps183
  go_wp2_with fail
  refine HN.out.mono ?_
  rintro e w1 ⟨xs, rfl, hb, ha, hbe⟩
  have H := Lib.hid (And.intro hb (And.intro ha hbe))
  clear hb ha hbe
  go_wp2_with fail
  go_ret
  exact ⟨_, xs, rfl, H.out.1, H.out.2.1, Nat.le_refl _, H.out.2.2⟩
theorem gar32_x (w : World) : Calls Tryz.prog 191 #[] w (OutEnc 244 low32 289 32 32 w) := by
  have HN := Lib.hid (newenc32_x low32 low32_alph w)
  go_enter Tryz.func191, Tryz.ntmps191
  go_wp2_with fail
  refine HN.out.mono ?_
  rintro e w1 ⟨xs, rfl, hb, ha, hbe⟩
  have H := Lib.hid (And.intro hb (And.intro ha hbe))
  clear hb ha hbe
  go_wp2_with fail
  go_ret
  exact ⟨_, xs, rfl, H.out.1, H.out.2.1, Nat.le_refl _, H.out.2.2⟩
theorem gar32_bts (A : Option Addr) (n c : Nat) (d : List UInt8) (w : World) (h : RB w w.heap.size A n c d) (hn : n ≤ 10000) : Calls Tryz.prog 152 #[.slice A n c] w (OutBS (decide (35 ≤ d.length ∨ d.length = 32)) w) := by
  have q0 : ∀ w : World, (binOp .neq 52 .nilIface .nilIface).run Tryz.prog w = .ok (.bool false) w := fun _ => by kernel_rfl
  have qn : ∀ (t : TypeId) (v : Value) (w : World), (binOp .neq 52 (.iface t v) .nilIface).run Tryz.prog w = .ok (.bool true) w := fun _ _ _ => by kernel_rfl
  have HV := Lib.hid (gar32_val A n c d w h)
  have HR := Lib.hid h
  clear h
  go_enter Tryz.func152, Tryz.ntmps152
  go_wp2_with fail
  refine HV.out.mono ?_
  rintro e w1 ⟨⟨hok, rfl⟩ | ⟨hok, t, v, rfl⟩, hb⟩
  · have HB := Lib.hid hb
    have HOK := Lib.hid hok
    clear hb hok
    go_wp2_with fail
    refine (gar32_x w1).mono ?_
    rintro e w2 ⟨g, xs, rfl, hk, hx, _, hb2⟩
    have HB2 := Lib.hid (HB.out.trans (hb2.mono HB.out.size))
    have HES := Lib.hid (encstr32_x low32 rfl g xs A n c d w2 hx hk ((HR.out.below HB2.out).more HB2.out.size) hn)
    clear hb2 hk hx
    go_wp2_with fail
    refine HES.out.mono ?_
    rintro e w3 ⟨l, rfl, hl, hb3⟩
    have HB3 := Lib.hid (HB2.out.trans (hb3.mono HB2.out.size))
    have HT := Lib.hid (trimr_g l 61 (by omega) w3)
    clear hb3 hl
    go_wp2_with fail
    refine HT.out.mono ?_
    rintro e w4 ⟨l2, rfl, hl2, hb4⟩
    have HB4 := Lib.hid (HB3.out.trans (hb4.mono HB3.out.size))
    clear hb4 hl2
    go_wp2_with fail
    go_ret2
    exact ⟨.inl ⟨HOK.out, _, rfl⟩, HB4.out⟩
  · have HB := Lib.hid hb
    have HOK := Lib.hid hok
    clear hb hok
    go_wp2_with fail
    go_ret2
    exact ⟨.inr ⟨HOK.out, _, t, v, rfl⟩, HB.out⟩
end Go.Proofs.YtghddiboggdhcaaGreatDoor
/- /onion and /onion3: checked, and as text, whatever the bytes. Condition: the table of powers of ten is as laid. -/
namespace Go.Proofs.YtghddiboggdhcaaGreatDoor
open Go.RowKit
variable {K : Nat}
attribute [local go_sem ↓] Go.wp_at_zero Go.wp_at_succ
def nz2 (d : List UInt8) (k : Nat) : Bool := decide (Lib.beNat [d.getD k 0, d.getD (k + 1) 0] ≠ 0)
theorem u16_at {g c n k : Nat} {d : List UInt8} {w : World} (h : RB w w.heap.size (some ⟨g, 0, none⟩) n c d) (hk : k + 2 ≤ n) : ∃ N : Nat, N < 65536 ∧ nz2 d k = decide (N ≠ 0) ∧ ∀ w', Below w.heap.size w w' → ∀ C, 2 ≤ C → Calls Tryz.prog 176 #[.agg #[], .slice (some ⟨g, k, none⟩) 2 C] w' (fun e w2 => e = .returned (.int .u16 N) ∧ Below w'.heap.size w' w2) := by
  have hl := h.len
  have h0 : d[k]? = some (d.getD k 0) := by rw [List.getD_eq_getElem?_getD, List.getElem?_eq_getElem (by omega : k < d.length)]; rfl
  have h1 : d[k + 1]? = some (d.getD (k + 1) 0) := by rw [List.getD_eq_getElem?_getD, List.getElem?_eq_getElem (by omega : k + 1 < d.length)]; rfl
  refine ⟨Lib.beNat [d.getD k 0, d.getD (k + 1) 0], beNat_lt _ _, rfl, fun w' hb C hC => ?_⟩
  have h' := (h.below hb).more hb.size
  exact Tryz.binary_BE_Uint16 g k 2 C _ _ w' (by omega) (h'.cellAt k _ h0) (h'.cellAt (k + 1) _ h1)
theorem onion_val (g n c : Nat) (d : List UInt8) (w : World) (h : RB w w.heap.size (some ⟨g, 0, none⟩) n c d) : Calls Tryz.prog 144 #[.slice (some ⟨g, 0, none⟩) n c] w (OutVal (decide (d.length = 12) && nz2 d 10) w) := by
  have hl := h.len
  have HE := Lib.hid (fun s w => errnew_any s w)
  rw [hl]
  by_cases hn : n = 12
  · subst hn
    have hc := h.cap
    have hc1 : ¬ c = 10 := by omega
    have hcI : (10 : Int) ≤ (c : Int) := by omega
    have hcJ : (12 : Int) ≤ (c : Int) := by omega
    have hc2 : ((c : Int) == 10) = false := by simp; omega
    obtain ⟨N, hN, hz, hu⟩ := u16_at (k := 10) h (by omega)
    rw [hz]
    have HD := Lib.hid hN
    clear h hz
    go_enter Tryz.func144, Tryz.ntmps144
    go_wp2_with fail
    go_region_law (first
      | (go_simp; go_at_call 176; refine (hu _ (Below.refl _ w).drew (c - 10) (by omega)).mono ?_; rintro e w1 ⟨rfl, hb⟩))
    all_goals (
    have HB := Lib.hid (((Below.refl _ w).drew).trans hb)
    clear hb hu
    by_cases hN0 : N = 0
    · subst hN0
      go_wp2_with fail
      refine (HE.out _ _).mono ?_
      rintro e w2 ⟨t, v, rfl, hb2⟩
      have HB2 := Lib.hid (HB.out.trans (hb2.mono HB.out.size))
      clear hb2
      go_wp2_with fail
      go_ret
      exact ⟨.inr ⟨by simp, t, v, rfl⟩, HB2.out⟩
    · have e1 : ((N : Int) == 0) = false := by simp; omega
      go_wp2_with fail
      go_ret
      exact ⟨.inl ⟨by simp [hN0], rfl⟩, HB.out⟩)
  · have e1 : ((n : Int) != 12) = true := by simp; omega
    clear h
    go_enter Tryz.func144, Tryz.ntmps144
    go_wp2_with fail
    refine (HE.out _ _).mono ?_
    rintro e w1 ⟨t, v, rfl, hb⟩
    have HB := Lib.hid hb
    clear hb
    go_wp2_with fail
    go_ret
    exact ⟨.inr ⟨by simp [hn], t, v, rfl⟩, HB.out⟩
theorem onion_bts (g c : Nat) (d : List UInt8) (w : World) (h : RB w w.heap.size (some ⟨g, 0, none⟩) 12 c d) (hK : 65536 ≤ K) (ht : Tab K w) : Calls Tryz.prog 143 #[.slice (some ⟨g, 0, none⟩) 12 c] w (OutBS (nz2 d 10) w) := by
  have hc := h.cap
  have hc1 : ¬ c = 10 := by omega
  have hcI : (10 : Int) ≤ (c : Int) := by omega
  have hcJ : (12 : Int) ≤ (c : Int) := by omega
  have hc2 : ((c : Int) == 10) = false := by simp; omega
  obtain ⟨N, hN, hz, hu⟩ := u16_at (k := 10) h (by omega)
  rw [hz]
  have HU := Lib.hid hu
  have HD := Lib.hid hN
  have HE := Lib.hid (fun s w => errnew_any s w)
  have HT := Lib.hid ht
  have HR := Lib.hid (h.take (k := 10) (by omega))
  clear h hu hz ht
  go_enter Tryz.func143, Tryz.ntmps143
  go_wp2_with fail
  go_region_law (first
    | (go_simp; go_at_call 183; refine (zz32_x _).mono ?_; rintro e w2 ⟨p, xs, rfl, hk, hx, _, hb2⟩; have hW2 : Below w.heap.size w w2 := ((Below.refl _ w).drew).trans hb2)
    | (go_simp; go_at_call 187; refine (encstr32_x std32 rfl p xs (some ⟨g, 0, none⟩) 10 c _ w2 hx hk ((HR.out.below hW2).more hW2.size) (by omega)).mono ?_; rintro e w3 ⟨l, rfl, hl, hb3⟩; have hW3 : Below w.heap.size w w3 := hW2.trans (hb3.mono hW2.size))
    | (go_simp; go_at_call 186; refine (lower_x l (by omega) w3).mono ?_; rintro e w4 ⟨l2, rfl, hl2, hb4⟩; have hW4 : Below w.heap.size w w4 := hW3.trans (hb4.mono hW3.size)))
  all_goals (
  have HB4 := Lib.hid hW4
  have HL2 := Lib.hid (show l2.length ≤ 20000 by omega)
  clear hW4 hW3 hW2 hb4 hl2 hl hb3 hb2 hk hx
  go_wp2_with fail
  go_region_law (first
    | (go_simp; go_at_call 176; refine (HU.out _ HB4.out.drew (c - 10) (by omega)).mono ?_; rintro e w5 ⟨rfl, hb5⟩))
  all_goals (
  have HB5 := Lib.hid (HB4.out.drew.trans (hb5.mono HB4.out.drew.size))
  clear hb5
  by_cases hN0 : N = 0
  · subst hN0
    go_wp2_with fail
    refine (HE.out _ _).mono ?_
    rintro e w6 ⟨t, v, rfl, hb6⟩
    have HB6 := Lib.hid (HB5.out.trans (hb6.mono HB5.out.size))
    clear hb6
    go_wp2_with fail
    go_ret2
    exact ⟨.inr ⟨by simp, _, t, v, rfl⟩, HB6.out⟩
  · have e1 : ((N : Int) == 0) = false := by simp; omega
    obtain ⟨t1, ht1, hs1⟩ := add_some (P := Tryz.prog) ⟨l2.toArray⟩ ⟨#[58]⟩ 20000 1 (by rw [size_toArray]; exact HL2.out) (by decide) (by omega)
    have HS1 := Lib.hid hs1
    clear hs1
    go_wp2_with fail
    refine (sfuint_64 N (by omega) (by omega) w5 (HT.out.below HB5.out)).mono ?_
    rintro e w6 ⟨s, rfl, hs, hb6⟩
    have HB6 := Lib.hid (HB5.out.trans (hb6.mono HB5.out.size))
    obtain ⟨t2, ht2, hs2⟩ := add_some (P := Tryz.prog) t1 s 20001 1000 HS1.out hs (by omega)
    clear hb6 hs2
    go_wp2_with fail
    go_ret2
    exact ⟨.inl ⟨by simp [hN0], _, rfl⟩, HB6.out⟩))
theorem onion3_val (g n c : Nat) (d : List UInt8) (w : World) (h : RB w w.heap.size (some ⟨g, 0, none⟩) n c d) : Calls Tryz.prog 147 #[.slice (some ⟨g, 0, none⟩) n c] w (OutVal (decide (d.length = 37) && nz2 d 35) w) := by
  have hl := h.len
  have HE := Lib.hid (fun s w => errnew_any s w)
  rw [hl]
  by_cases hn : n = 37
  · subst hn
    have hc := h.cap
    have hc1 : ¬ c = 35 := by omega
    have hcI : (35 : Int) ≤ (c : Int) := by omega
    have hcJ : (37 : Int) ≤ (c : Int) := by omega
    have hc2 : ((c : Int) == 35) = false := by simp; omega
    obtain ⟨N, hN, hz, hu⟩ := u16_at (k := 35) h (by omega)
    rw [hz]
    have HD := Lib.hid hN
    clear h hz
    go_enter Tryz.func147, Tryz.ntmps147
    go_wp2_with fail
    go_region_law (first
      | (go_simp; go_at_call 176; refine (hu _ (Below.refl _ w).drew (c - 35) (by omega)).mono ?_; rintro e w1 ⟨rfl, hb⟩))
    all_goals (
    have HB := Lib.hid (((Below.refl _ w).drew).trans hb)
    clear hb hu
    by_cases hN0 : N = 0
    · subst hN0
      go_wp2_with fail
      refine (HE.out _ _).mono ?_
      rintro e w2 ⟨t, v, rfl, hb2⟩
      have HB2 := Lib.hid (HB.out.trans (hb2.mono HB.out.size))
      clear hb2
      go_wp2_with fail
      go_ret
      exact ⟨.inr ⟨by simp, t, v, rfl⟩, HB2.out⟩
    · have e1 : ((N : Int) == 0) = false := by simp; omega
      go_wp2_with fail
      go_ret
      exact ⟨.inl ⟨by simp [hN0], rfl⟩, HB.out⟩)
  · have e1 : ((n : Int) != 37) = true := by simp; omega
    clear h
    go_enter Tryz.func147, Tryz.ntmps147
    go_wp2_with fail
    refine (HE.out _ _).mono ?_
    rintro e w1 ⟨t, v, rfl, hb⟩
    have HB := Lib.hid hb
    clear hb
    go_wp2_with fail
    go_ret
    exact ⟨.inr ⟨by simp [hn], t, v, rfl⟩, HB.out⟩
theorem onion3_bts (g c : Nat) (d : List UInt8) (w : World) (h : RB w w.heap.size (some ⟨g, 0, none⟩) 37 c d) (hK : 65536 ≤ K) (ht : Tab K w) : Calls Tryz.prog 146 #[.slice (some ⟨g, 0, none⟩) 37 c] w (OutBS (nz2 d 35) w) := by
  have hc := h.cap
  have hc1 : ¬ c = 35 := by omega
  have hcI : (35 : Int) ≤ (c : Int) := by omega
  have hcJ : (37 : Int) ≤ (c : Int) := by omega
  have hc2 : ((c : Int) == 35) = false := by simp; omega
  obtain ⟨N, hN, hz, hu⟩ := u16_at (k := 35) h (by omega)
  rw [hz]
  have HU := Lib.hid hu
  have HD := Lib.hid hN
  have HE := Lib.hid (fun s w => errnew_any s w)
  have HT := Lib.hid ht
  have HR := Lib.hid (h.take (k := 35) (by omega))
  clear h hu hz ht
  go_enter Tryz.func146, Tryz.ntmps146
  go_wp2_with fail
  go_region_law (first
    | (go_simp; go_at_call 183; refine (zz32_x _).mono ?_; rintro e w2 ⟨p, xs, rfl, hk, hx, _, hb2⟩; have hW2 : Below w.heap.size w w2 := ((Below.refl _ w).drew).trans hb2)
    | (go_simp; go_at_call 187; refine (encstr32_x std32 rfl p xs (some ⟨g, 0, none⟩) 35 c _ w2 hx hk ((HR.out.below hW2).more hW2.size) (by omega)).mono ?_; rintro e w3 ⟨l, rfl, hl, hb3⟩; have hW3 : Below w.heap.size w w3 := hW2.trans (hb3.mono hW2.size))
    | (go_simp; go_at_call 186; refine (lower_x l (by omega) w3).mono ?_; rintro e w4 ⟨l2, rfl, hl2, hb4⟩; have hW4 : Below w.heap.size w w4 := hW3.trans (hb4.mono hW3.size)))
  all_goals (
  have HB4 := Lib.hid hW4
  have HL2 := Lib.hid (show l2.length ≤ 20000 by omega)
  clear hW4 hW3 hW2 hb4 hl2 hl hb3 hb2 hk hx
  go_wp2_with fail
  go_region_law (first
    | (go_simp; go_at_call 176; refine (HU.out _ HB4.out.drew (c - 35) (by omega)).mono ?_; rintro e w5 ⟨rfl, hb5⟩))
  all_goals (
  have HB5 := Lib.hid (HB4.out.drew.trans (hb5.mono HB4.out.drew.size))
  clear hb5
  by_cases hN0 : N = 0
  · subst hN0
    go_wp2_with fail
    refine (HE.out _ _).mono ?_
    rintro e w6 ⟨t, v, rfl, hb6⟩
    have HB6 := Lib.hid (HB5.out.trans (hb6.mono HB5.out.size))
    clear hb6
    go_wp2_with fail
    go_ret2
    exact ⟨.inr ⟨by simp, _, t, v, rfl⟩, HB6.out⟩
  · have e1 : decide ((N : Int) < 1) = false := by simp; omega
    obtain ⟨t1, ht1, hs1⟩ := add_some (P := Tryz.prog) ⟨l2.toArray⟩ ⟨#[58]⟩ 20000 1 (by rw [size_toArray]; exact HL2.out) (by decide) (by omega)
    have HS1 := Lib.hid hs1
    clear hs1
    go_wp2_with fail
    refine (sfuint_64 N (by omega) (by omega) w5 (HT.out.below HB5.out)).mono ?_
    rintro e w6 ⟨s, rfl, hs, hb6⟩
    have HB6 := Lib.hid (HB5.out.trans (hb6.mono HB5.out.size))
    obtain ⟨t2, ht2, hs2⟩ := add_some (P := Tryz.prog) t1 s 20001 1000 HS1.out hs (by omega)
    clear hb6 hs2
    go_wp2_with fail
    go_ret2
    exact ⟨.inl ⟨by simp [hN0], _, rfl⟩, HB6.out⟩))
end Go.Proofs.YtghddiboggdhcaaGreatDoor
/- base64: an encoding made of an alphabet. No condition beyond. -/
namespace Go.Proofs.YtghddiboggdhcaaGreatDoor
open Go.RowKit
theorem newenc64_x (al : List UInt8) (ha : Alph 64 al) (w : World) : Calls Tryz.prog 223 #[.string ⟨al.toArray⟩] w fun e w' => ∃ xs, e = .returned (.pointer (some ⟨w.heap.size, 0, none⟩)) ∧ Blk w' w.heap.size 249 xs ∧ EncX al 322 64 xs 64 ∧ Below w.heap.size w w' := by
  have hsz := size_toArray al
  have hl := ha.len
  rw [hl] at hsz
  have hz : (Tryz.zeroCells249).size = 322 := by rfl
  obtain ⟨X0, hX0⟩ : ∃ X, X = (Tryz.zeroCells249).setIfInBounds 320 (.int .i32 61) := ⟨_, rfl⟩
  have s0 : X0.size = 322 := by rw [hX0]; simp [hz]
  have hcp1 := fun ty => Lib.run_copy_row_string (P := Tryz.prog) (w.alloc (.cells X0 249)) 22 9 ty 5 w.heap.size 0 64 64 ⟨al.toArray⟩ _ 249 Tryz.underlying22 (by kernel_rfl) (heap_alloc_new _ _) (by rw [hsz]; decide) (by rw [hsz, s0]; decide)
  rw [hsz] at hcp1
  obtain ⟨X1, hX1⟩ : ∃ X1, X1 = (X0.toList.take 0 ++ Lib.byteCells al ++ X0.toList.drop (0 + 64)).toArray := ⟨_, rfl⟩
  have hX1' : (X0.toList.take 0 ++ Lib.byteCells (⟨al.toArray⟩ : ByteArray).data.toList ++ X0.toList.drop (0 + 64)).toArray = X1 := by rw [hX1]
  rw [hX1'] at hcp1
  simp only [alloc_setRow] at hcp1
  have s1 : X1.size = 322 := by rw [hX1]; simp [Lib.byteCells, hl, s0]
  have hf : ff256.size = 256 := by rfl
  have hcp2 := fun ty => Lib.run_copy_row_string (P := Tryz.prog) (w.alloc (.cells X1 249)) 22 9 ty 5 w.heap.size 64 256 256 ff256 _ 249 Tryz.underlying22 (by kernel_rfl) (heap_alloc_new _ _) (by rw [hf]; decide) (by rw [hf, s1]; decide)
  rw [hf] at hcp2
  have hex := encx_of al 322 64 _ hz hl (by decide) X0 X1 hX0 hX1
  obtain ⟨X2, hX2⟩ : ∃ X2, X2 = (X1.toList.take 64 ++ Lib.byteCells ff256.data.toList ++ X1.toList.drop (64 + 256)).toArray := ⟨_, rfl⟩
  rw [← hX2] at hcp2 hex
  simp only [alloc_setRow] at hcp2
  have HEX := Lib.hid hex
  have HA := Lib.hid ha
  rw [hX0] at hcp1
  have hff : ff256 = ⟨#[255, 255, 255, 255, 255, 255, 255, 255, 255, 255, 255, 255, 255, 255, 255, 255, 255, 255, 255, 255, 255, 255, 255, 255, 255, 255, 255, 255, 255, 255, 255, 255, 255, 255, 255, 255, 255, 255, 255, 255, 255, 255, 255, 255, 255, 255, 255, 255, 255, 255, 255, 255, 255, 255, 255, 255, 255, 255, 255, 255, 255, 255, 255, 255, 255, 255, 255, 255, 255, 255, 255, 255, 255, 255, 255, 255, 255, 255, 255, 255, 255, 255, 255, 255, 255, 255, 255, 255, 255, 255, 255, 255, 255, 255, 255, 255, 255, 255, 255, 255, 255, 255, 255, 255, 255, 255, 255, 255, 255, 255, 255, 255, 255, 255, 255, 255, 255, 255, 255, 255, 255, 255, 255, 255, 255, 255, 255, 255, 255, 255, 255, 255, 255, 255, 255, 255, 255, 255, 255, 255, 255, 255, 255, 255, 255, 255, 255, 255, 255, 255, 255, 255, 255, 255, 255, 255, 255, 255, 255, 255, 255, 255, 255, 255, 255, 255, 255, 255, 255, 255, 255, 255, 255, 255, 255, 255, 255, 255, 255, 255, 255, 255, 255, 255, 255, 255, 255, 255, 255, 255, 255, 255, 255, 255, 255, 255, 255, 255, 255, 255, 255, 255, 255, 255, 255, 255, 255, 255, 255, 255, 255, 255, 255, 255, 255, 255, 255, 255, 255, 255, 255, 255, 255, 255, 255, 255, 255, 255, 255, 255, 255, 255, 255, 255, 255, 255, 255, 255, 255, 255, 255, 255, 255, 255, 255, 255, 255, 255, 255, 255, 255, 255, 255, 255, 255, 255]⟩ := by rfl
  rw [hff] at hcp2
  clear ha hX1 hX1' hX2 hex s0 s1 hX0 hz hf hff
  go_enter Tryz.func223, Tryz.ntmps223
  go_wp2_with fail
  go_loopw [4] (fun i wr => ∃ (k : Nat) (xs : Array Value), k ≤ 64 ∧ i = .int .i64 k ∧ Blk wr w.heap.size 249 xs ∧ EncX al 322 64 xs k ∧ Below w.heap.size w wr) (fun i _ => 64 - (intOf i).toNat)
  case atStart => exact ⟨0, X2, by omega, rfl, Blk.new _ _ _, HEX.out, (Below.refl _ w).alloc (Nat.le_refl _) _⟩
  case round =>
    obtain ⟨k, xs, hk, rfl, hblk, hex, hb⟩ := hrel
    have HK := Lib.hid hblk
    have HX := Lib.hid hex
    have HB := Lib.hid hb
    clear hb hblk hex hcp1 hcp2 HEX
    by_cases hlt : k < 64
    · have hka : k < al.length := by rw [hl]; exact hlt
      obtain ⟨o1, o2⟩ := HA.out.ok _ (List.getElem_mem hka)
      have hfree := HX.out.free al[k] (fun j hj hjk e => by have := (List.getElem_inj HA.out.nodup).1 e; omega)
      have hset := Lib.hid (HX.out.set HA.out.len hka (by decide))
      obtain ⟨C, hC⟩ : ∃ C, C = al[k] := ⟨_, rfl⟩
      have hix : ∀ h : k < (⟨al.toArray⟩ : ByteArray).size, (⟨al.toArray⟩ : ByteArray)[k]'h = C := fun _ => hC.symm
      rw [← hC] at o1 o2 hfree hset
      clear hC
      have c0 : wr.cell? ⟨w.heap.size, 64 + C.toNat, none⟩ = some (.int .u8 255) := (HK.out.cell _).trans hfree
      have f0 := HK.out.frozen (64 + C.toNat)
      have e1 : ((C.toNat : Int) == 10) = false := by
        rw [beq_eq_false_iff_ne]; exact fun e => o1 (UInt8.toNat_inj.1 (by simpa using (by omega : C.toNat = 10)))
      have e2 : ((C.toNat : Int) == 13) = false := by
        rw [beq_eq_false_iff_ne]; exact fun e => o2 (UInt8.toNat_inj.1 (by simpa using (by omega : C.toNat = 13)))
      have hCl := C.toNat_lt
      have hw8 : IntKind.u8.wrap (k : Int) = k := by rw [IntKind.wrap_u8]; omega
      go_wp2_with fail
      go_quiet (fail)
      go_wp2_with fail
      have hCi : (C.toNat : Int) < 256 := by omega
      have c0' : ∀ n, (wr.drewN n).cell? ⟨w.heap.size, 64 + C.toNat, none⟩ = some (.int .u8 255) := fun _ => c0
      have f0' : ∀ n, (wr.drewN n).frozen? ⟨w.heap.size, 64 + C.toNat, none⟩ = false := fun _ => f0
      go_region_law (fail)
      all_goals (
        go_wp2_with fail
        exact ⟨⟨k + 1, _, by omega, by go_num, (HK.out.drewN _).set_ (64 + C.toNat) _, hset.out, (below_drewN HB.out _).setCell (p := ⟨w.heap.size, 64 + C.toNat, none⟩) (Nat.le_refl _) _⟩, by simp [intOf]; omega⟩)
    · obtain rfl : k = 64 := by omega
      go_wp2_with fail
      go_ret
      exact ⟨xs, rfl, HK.out, HX.out, HB.out⟩
end Go.Proofs.YtghddiboggdhcaaGreatDoor
/- base64: bytes into letters. No condition beyond. -/
namespace Go.Proofs.YtghddiboggdhcaaGreatDoor
open Go.RowKit
theorem mk63 (X : Int) : bits .and .u64 X 63 = (mk_ .u64 63 X : Nat) ∧ mk_ .u64 63 X < 64 := by
  have hlt : (BitVec.ofInt 64 X).toNat &&& 63 < 64 := Nat.and_lt_two_pow (n := 6) _ (by decide)
  have h : bits .and .u64 X 63 = (((BitVec.ofInt 64 X).toNat &&& 63 : Nat) : Int) := by
    have h0 : bits .and .u64 X 63 = IntKind.u64.wrap (((BitVec.ofInt 64 X) &&& (BitVec.ofInt 64 63)).toNat : Int) := rfl
    rw [h0, BitVec.toNat_and, IntKind.wrap_u64, show (BitVec.ofInt 64 63).toNat = 63 by rfl]
    omega
  unfold mk_
  rw [h]
  exact ⟨by simp, by simpa using hlt⟩
structure EncY (al : List UInt8) (P : Int) (xs : Array Value) : Prop where
  size : xs.size = 322
  enc : ∀ j (h : j < al.length), xs[j]? = some (.int .u8 (al[j]).toNat)
  pad : xs[320]? = some (.int .i32 P)
theorem EncX.y {al : List UInt8} {xs : Array Value} {k : Nat} (h : EncX al 322 64 xs k) : EncY al 61 xs := ⟨h.size, h.enc, h.pad⟩
theorem EncY.letters {al : List UInt8} {P : Int} {xs : Array Value} (h : EncY al P xs) : ∃ U : Nat → UInt8, ∀ J, J < al.length → xs[J]? = some (.int .u8 (U J).toNat) :=
  ⟨fun J => al.getD J 0, fun J hJ => by have := h.enc J hJ; simpa [List.getD, hJ] using this⟩
def tl64 (P : Int) (m : Nat) : Nat := if m = 0 then 0 else if P = -1 then m + 1 else 4
attribute [local go_sem ↓] Go.wp_at_zero Go.wp_at_succ
theorem enc64_any (al : List UInt8) (hal : al.length = 64) (P : Int) (hP : P = 61 ∨ P = -1) (B b N p : Nat) (xs : Array Value) (A : Option Addr) (n c : Nat) (d : List UInt8) (w : World) (hx : EncY al P xs) (hw : EncW B b N p 249 xs w w) (hB : B ≤ b) (hp : p ≠ b) (h : RB w B A n c d) (hn : n ≤ 100000) (hN : N = 4 * (n / 3) + tl64 P (n % 3)) (C : Nat) (hC : N ≤ C) (_hCm : C ≤ 1000000) :
    Calls Tryz.prog 227 #[.pointer (some ⟨p, 0, none⟩), .slice (some ⟨b, 0, none⟩) N C, .slice A n c] w fun e w' => e = .returned (.tuple #[]) ∧ EncW B b N p 249 xs w w' := by
  have HX := Lib.hid hx
  have HW := Lib.hid hw
  have HR := Lib.hid h
  have hm63 := fun X => (mk63 X).1
  have hl63 : ∀ X, ((mk_ .u64 63 X : Nat) : Int) < 64 := fun X => by have := (mk63 X).2; omega
  obtain ⟨U, hU⟩ := hx.letters
  have HU := Lib.hid hU
  have HN := Lib.hid hN
  have HP := Lib.hid hP
  clear h hx hw hU hN hP
  go_enter Tryz.func227, Tryz.ntmps227
  by_cases h0 : n = 0
  · subst h0
    go_wp2_with fail
    refine bodyPost_ret (results_none rfl _ _ _) rfl ?_
    exact ⟨rfl, HW.out⟩
  · have e0 : ((n : Int) == 0) = false := by simp; omega
    have HLA := Lib.hid (load_head w p 249 247 64 xs HW.out.blk (by rw [HX.out.size]; decide) (by kernel_rfl) (by kernel_rfl))
    go_upto_block 0 with (refine step_load rfl (.tmp 14) 247 rfl _ _ rfl HLA.out ?_)
    generalize (xs.toList.take 64).toArray = ys
    try go_simp
    go_cut [1, 2] (fun dv sv wc => ∃ (q m L L2 : Nat) (A1 D1 : Option Addr) (c1 : Nat), n = 3 * q + m ∧ m < 3 ∧ dv = .slice D1 L L2 ∧ (0 < m → D1 = some ⟨b, 4 * q, none⟩) ∧ N = 4 * q + L ∧ C = 4 * q + L2 ∧ sv = .slice A1 m c1 ∧ RB w B A1 m c1 (d.drop (3 * q)) ∧ EncW B b N p 249 xs w wc)
    case first =>
      go_wp2_with fail
      go_loopw [1, 2] (fun dv sv wr => ∃ (q m L L2 : Nat) (A1 D1 : Option Addr) (c1 : Nat), n = 3 * q + m ∧ dv = .slice D1 L L2 ∧ (0 < m → D1 = some ⟨b, 4 * q, none⟩) ∧ N = 4 * q + L ∧ C = 4 * q + L2 ∧ sv = .slice A1 m c1 ∧ RB w B A1 m c1 (d.drop (3 * q)) ∧ EncW B b N p 249 xs w wr) (fun _ sv _ => match sv with | .slice _ m _ => m | _ => 0)
      case atStart => exact ⟨0, n, N, C, A, _, c, by omega, rfl, fun _ => rfl, by omega, by omega, rfl, HR.out, HW.out⟩
      case round =>
        obtain ⟨q, m, L, L2, A1, D1, c1, hnq, rfl, hD, hL, hL2, rfl, hr, hw⟩ := hrel
        have HQ := Lib.hid (And.intro hnq (And.intro hL (And.intro hL2 HN.out)))
        have HRw := Lib.hid hr
        have HR1 := Lib.hid (hr.below hw.bel)
        have HW1 := Lib.hid hw
        clear hr hw HLA
        by_cases h5 : 3 ≤ m
        · have e5 : decide ((3 : Int) ≤ (m : Int)) = true := by simp; omega
          obtain ⟨ad, rfl, _, c0⟩ := HR1.out.at_ (k := 0) (by omega) (by rw [HR1.out.len]; omega)
          obtain ⟨_, E1, _, c1'⟩ := HR1.out.at_ (k := 1) (by omega) (by rw [HR1.out.len]; omega)
          cases E1
          obtain ⟨_, E1, _, c2⟩ := HR1.out.at_ (k := 2) (by omega) (by rw [HR1.out.len]; omega)
          cases E1
          have b0 : (0 : Int) < (m : Int) := by omega
          have b1 : (1 : Int) < (m : Int) := by omega
          have b2 : (2 : Int) < (m : Int) := by omega
          generalize ((d.drop (3 * q))[0]'_).toNat = x0 at c0
          generalize ((d.drop (3 * q))[1]'_).toNat = x1 at c1'
          generalize ((d.drop (3 * q))[2]'_).toNat = x2 at c2
          have d0 : wr.cell? ad = some (.int .u8 x0) := by have := c0; rwa [show ad.add 0 = ad by simp [Addr.add]] at this
          have d1 : wr.cell? ⟨ad.block, ad.off + 1, none⟩ = some (.int .u8 x1) := by have := c1'; rwa [show ad.add 1 = ⟨ad.block, ad.off + 1, none⟩ by simp [Addr.add]] at this
          have d2 : wr.cell? ⟨ad.block, ad.off + 2, none⟩ = some (.int .u8 x2) := by have := c2; rwa [show ad.add 2 = ⟨ad.block, ad.off + 2, none⟩ by simp [Addr.add]] at this
          clear c0 c1' c2
          have htl : ∀ k : Nat, 3 ≤ k → 4 * (k / 3) + tl64 P (k % 3) = 4 + (4 * ((k - 3) / 3) + tl64 P ((k - 3) % 3)) := fun k hk => by
            have e1 : k / 3 = (k - 3) / 3 + 1 := by omega
            have e2 : k % 3 = (k - 3) % 3 := by omega
            rw [e1, e2]
            omega
          have l7 : 4 ≤ L ∧ L ≤ L2 := by
            have h1 := HQ.out.2.2.2
            have h2 := HQ.out.1
            have e1 : n / 3 = q + m / 3 := by omega
            have e2 : n % 3 = m % 3 := by omega
            rw [HQ.out.2.1, e1, e2] at h1
            have h3 := htl m h5
            omega
          clear htl
          obtain rfl := hD (by omega)
          clear hnq hL hL2 hD
          have g0 : (0 : Int) < (L : Int) := by omega
          have g1 : (1 : Int) < (L : Int) := by omega
          have g2 : (2 : Int) < (L : Int) := by omega
          have g3 : (3 : Int) < (L : Int) := by omega
          go_upto_region 3 with fail
          go_cut [6] (fun v wc => ∃ X : Int, v = .int .u64 X ∧ EncW B b N p 249 xs w wc)
          case first =>
            go_quiet (fail)
            go_wp2_with fail
            go_meet
            exact ⟨_, rfl, HW1.out.drewN _⟩
          case' rest =>
            obtain ⟨X, rfl, hv⟩ := hcut
            have HV := Lib.hid hv
            clear d0 d1 d2 hv
            have cX : ∀ X, wc.cell? ⟨p, mk_ .u64 63 X, none⟩ = some (.int .u8 (U (mk_ .u64 63 X)).toNat) := fun X => (HV.out.blk.cell _).trans (HU.out _ (by rw [hal]; exact (mk63 X).2))
            obtain ⟨z0, hz0⟩ := HV.out.buf.at_ (4 * q) (by have := HQ.out.2.1; omega)
            have cF0 := HV.out.buf.frozen (4 * q)
            obtain ⟨z1, hz1⟩ := HV.out.buf.at_ (4 * q + 1) (by have := HQ.out.2.1; omega)
            have cF1 := HV.out.buf.frozen (4 * q + 1)
            obtain ⟨z2, hz2⟩ := HV.out.buf.at_ (4 * q + 2) (by have := HQ.out.2.1; omega)
            have cF2 := HV.out.buf.frozen (4 * q + 2)
            obtain ⟨z3, hz3⟩ := HV.out.buf.at_ (4 * q + 3) (by have := HQ.out.2.1; omega)
            have cF3 := HV.out.buf.frozen (4 * q + 3)
            go_wp2_with fail
            refine ⟨⟨q + 1, m - 3, L - 4, L2 - 4, _, _, c1 - 3, by have := HQ.out.1; omega, rfl, ?_, by have := HQ.out.2.1; omega, by have := HQ.out.2.2.1; omega, rfl, ?_, (((HV.out.put hB hp (4 * q) _).put hB hp (4 * q + 1) _).put hB hp (4 * q + 2) _).put hB hp (4 * q + 3) _⟩, by simp; omega⟩
            · intro hm
              have : L2 ≠ 4 := by
                have h1 := HQ.out.2.2.2
                have h2 := HQ.out.1
                have h3 := HQ.out.2.1
                have h4 := HQ.out.2.2.1
                have hpos : 4 * (n / 3) + tl64 P (n % 3) > 4 * (q + 1) := by
                  by_cases hm3 : 6 ≤ m
                  · omega
                  · have e2 : n / 3 = q + 1 := by omega
                    have e3 : n % 3 = m - 3 := by omega
                    rw [e2, e3]
                    unfold tl64
                    rw [if_neg (by omega : ¬ (m - 3 = 0))]
                    split <;> omega
                omega
              rw [if_neg this]
              congr 2
            · have hd5 := HRw.out.drop (k := 3) (by omega)
              rw [List.drop_drop] at hd5
              simpa [Addr.add, Nat.mul_add] using hd5
        · have e5 : decide ((3 : Int) ≤ (m : Int)) = false := by simp; omega
          clear hnq hL hL2
          go_wp2_with fail
          go_meet
          exact ⟨q, m, L, L2, A1, D1, c1, HQ.out.1, by omega, rfl, hD, HQ.out.2.1, HQ.out.2.2.1, rfl, HRw.out, HW1.out⟩
    case' rest =>
      rename_i Q0 K0 hK0
      refine hK0 _ _ ?_
      clear hK0
      obtain ⟨q, m, L, L2, A1, D1, c1, hnq, hm5, rfl, hD, hL, hL2, rfl, hr, hw⟩ := hcut
      by_cases hm0 : m = 0
      · subst hm0
        have HW1 := Lib.hid hw
        clear hD hnq hL hL2 hr hw
        go_wp2_with fail
        refine bodyPost_ret (results_none rfl _ _ _) rfl ?_
        exact ⟨rfl, HW1.out⟩
      · obtain rfl := hD (by omega)
        have h1 := HN.out
        have e1 : n / 3 = q := by omega
        have e2 : n % 3 = m := by omega
        rw [e1, e2, hL] at h1
        obtain ⟨ad, rfl, _, c0⟩ := (hr.below hw.bel).at_ (k := 0) (by omega) (by rw [hr.len]; omega)
        generalize ((d.drop (3 * q))[0]'_).toNat = x0 at c0
        have d0 : wc.cell? ad = some (.int .u8 x0) := by have := c0; rwa [show ad.add 0 = ad by simp [Addr.add]] at this
        clear c0
        have HW1 := Lib.hid hw
        have cX : ∀ X, wc.cell? ⟨p, mk_ .u64 63 X, none⟩ = some (.int .u8 (U (mk_ .u64 63 X)).toNat) := fun X => (HW1.out.blk.cell _).trans (HU.out _ (by rw [hal]; exact (mk63 X).2))
        have cP : wc.cell? ⟨p, 320, none⟩ = some (.int .i32 P) := (HW1.out.blk.cell _).trans HX.out.pad
        rcases (by omega : m = 1 ∨ m = 2) with rfl | rfl
        · rcases HP.out with rfl | rfl
          · obtain rfl : L = 4 := by have h9 : tl64 (61) 1 = 4 := (by decide); omega
            have hLL : 4 ≤ L2 := by omega
            obtain ⟨z0, hz0⟩ := HW1.out.buf.at_ (4 * q) (by omega)
            have cF0 := HW1.out.buf.frozen (4 * q)
            obtain ⟨z1, hz1⟩ := HW1.out.buf.at_ (4 * q + 1) (by omega)
            have cF1 := HW1.out.buf.frozen (4 * q + 1)
            obtain ⟨z2, hz2⟩ := HW1.out.buf.at_ (4 * q + 2) (by omega)
            have cF2 := HW1.out.buf.frozen (4 * q + 2)
            obtain ⟨z3, hz3⟩ := HW1.out.buf.at_ (4 * q + 3) (by omega)
            have cF3 := HW1.out.buf.frozen (4 * q + 3)
            clear hr hw hnq hm5 hm0 hL hL2 e1 e2 h1
            go_wp2_with fail
            try (go_quiet (fail); go_wp2_with fail)
            go_end0
            first | exact ⟨rfl, ((((HW1.out.put hB hp (4 * q) _).put hB hp (4 * q + 1) _).put hB hp (4 * q + 2) 61).put hB hp (4 * q + 3) 61)⟩ | exact ⟨rfl, (((((HW1.out.drewN _).put hB hp (4 * q) _).put hB hp (4 * q + 1) _).put hB hp (4 * q + 2) 61).put hB hp (4 * q + 3) 61)⟩
          · obtain rfl : L = 2 := by have h9 : tl64 (-1) 1 = 2 := (by decide); omega
            have hLL : 2 ≤ L2 := by omega
            obtain ⟨z0, hz0⟩ := HW1.out.buf.at_ (4 * q) (by omega)
            have cF0 := HW1.out.buf.frozen (4 * q)
            obtain ⟨z1, hz1⟩ := HW1.out.buf.at_ (4 * q + 1) (by omega)
            have cF1 := HW1.out.buf.frozen (4 * q + 1)
            clear hr hw hnq hm5 hm0 hL hL2 e1 e2 h1
            go_wp2_with fail
            try (go_quiet (fail); go_wp2_with fail)
            go_end0
            first | exact ⟨rfl, ((HW1.out.put hB hp (4 * q) _).put hB hp (4 * q + 1) _)⟩ | exact ⟨rfl, (((HW1.out.drewN _).put hB hp (4 * q) _).put hB hp (4 * q + 1) _)⟩
        · rcases HP.out with rfl | rfl
          · obtain rfl : L = 4 := by have h9 : tl64 (61) 2 = 4 := (by decide); omega
            have hLL : 4 ≤ L2 := by omega
            obtain ⟨_, E1, _, c1'⟩ := (hr.below hw.bel).at_ (k := 1) (by omega) (by rw [hr.len]; omega)
            cases E1
            generalize ((d.drop (3 * q))[1]'_).toNat = x1 at c1'
            have d1 : wc.cell? ⟨ad.block, ad.off + 1, none⟩ = some (.int .u8 x1) := by have := c1'; rwa [show ad.add 1 = ⟨ad.block, ad.off + 1, none⟩ by simp [Addr.add]] at this
            clear c1'
            obtain ⟨z0, hz0⟩ := HW1.out.buf.at_ (4 * q) (by omega)
            have cF0 := HW1.out.buf.frozen (4 * q)
            obtain ⟨z1, hz1⟩ := HW1.out.buf.at_ (4 * q + 1) (by omega)
            have cF1 := HW1.out.buf.frozen (4 * q + 1)
            obtain ⟨z2, hz2⟩ := HW1.out.buf.at_ (4 * q + 2) (by omega)
            have cF2 := HW1.out.buf.frozen (4 * q + 2)
            obtain ⟨z3, hz3⟩ := HW1.out.buf.at_ (4 * q + 3) (by omega)
            have cF3 := HW1.out.buf.frozen (4 * q + 3)
            clear hr hw hnq hm5 hm0 hL hL2 e1 e2 h1
            go_wp2_with fail
            try (go_quiet (fail); go_wp2_with fail)
            go_end0
            first | exact ⟨rfl, ((((HW1.out.put hB hp (4 * q) _).put hB hp (4 * q + 1) _).put hB hp (4 * q + 2) _).put hB hp (4 * q + 3) 61)⟩ | exact ⟨rfl, (((((HW1.out.drewN _).put hB hp (4 * q) _).put hB hp (4 * q + 1) _).put hB hp (4 * q + 2) _).put hB hp (4 * q + 3) 61)⟩
          · obtain rfl : L = 3 := by have h9 : tl64 (-1) 2 = 3 := (by decide); omega
            have hLL : 3 ≤ L2 := by omega
            obtain ⟨_, E1, _, c1'⟩ := (hr.below hw.bel).at_ (k := 1) (by omega) (by rw [hr.len]; omega)
            cases E1
            generalize ((d.drop (3 * q))[1]'_).toNat = x1 at c1'
            have d1 : wc.cell? ⟨ad.block, ad.off + 1, none⟩ = some (.int .u8 x1) := by have := c1'; rwa [show ad.add 1 = ⟨ad.block, ad.off + 1, none⟩ by simp [Addr.add]] at this
            clear c1'
            obtain ⟨z0, hz0⟩ := HW1.out.buf.at_ (4 * q) (by omega)
            have cF0 := HW1.out.buf.frozen (4 * q)
            obtain ⟨z1, hz1⟩ := HW1.out.buf.at_ (4 * q + 1) (by omega)
            have cF1 := HW1.out.buf.frozen (4 * q + 1)
            obtain ⟨z2, hz2⟩ := HW1.out.buf.at_ (4 * q + 2) (by omega)
            have cF2 := HW1.out.buf.frozen (4 * q + 2)
            clear hr hw hnq hm5 hm0 hL hL2 e1 e2 h1
            go_wp2_with fail
            try (go_quiet (fail); go_wp2_with fail)
            go_end0
            first | exact ⟨rfl, (((HW1.out.put hB hp (4 * q) _).put hB hp (4 * q + 1) _).put hB hp (4 * q + 2) _)⟩ | exact ⟨rfl, ((((HW1.out.drewN _).put hB hp (4 * q) _).put hB hp (4 * q + 1) _).put hB hp (4 * q + 2) _)⟩
end Go.Proofs.YtghddiboggdhcaaGreatDoor
/- base64: bytes as text, with and without signs that fill up; /garlic64 and /certhash as text. No condition beyond. -/
namespace Go.Proofs.YtghddiboggdhcaaGreatDoor
open Go.RowKit
attribute [local go_sem ↓] Go.wp_at_zero Go.wp_at_succ
theorem enclen64_x (P : Int) (hP : P = 61 ∨ P = -1) (p n : Nat) (w : World) (hn : n ≤ 100000) (hc : w.cell? ⟨p, 320, none⟩ = some (.int .i32 P)) : Calls Tryz.prog 226 #[.pointer (some ⟨p, 0, none⟩), .int .i64 n] w fun e w' => e = .returned (.int .i64 (4 * (n / 3) + tl64 P (n % 3) : Nat)) ∧ w = w' := by
  rcases hP with rfl | rfl
  · obtain ⟨Q, hQ⟩ : ∃ Q, Q = (n + 2) / 3 := ⟨_, rfl⟩
    have h1 : ((n : Int) + 2) / 3 = (Q : Int) := by omega
    have h2 : IntKind.i64.wrap ((n : Int) + 2) = (n : Int) + 2 := IntWalk.i64_in _ (by omega)
    have h3 : IntKind.i64.wrap ((Q : Int) * 4) = (Q : Int) * 4 := IntWalk.i64_in _ (by omega)
    have hE : 4 * (n / 3) + tl64 61 (n % 3) = Q * 4 := by
      unfold tl64
      rw [if_neg (by decide : ¬ ((61 : Int) = -1))]
      split <;> omega
    rw [hE]
    clear hQ hE
    go_enter Tryz.func226, Tryz.ntmps226
    go_wp2_with fail
    go_ret
    exact ⟨congrArg (fun z => Ending.returned (.int .i64 z)) (show (Q : Int) * 4 = ((Q * 4 : Nat) : Int) by omega), rfl⟩
  · obtain ⟨q, hq⟩ : ∃ q, q = n / 3 := ⟨_, rfl⟩
    obtain ⟨m, hm⟩ : ∃ m, m = n % 3 := ⟨_, rfl⟩
    obtain ⟨s, hs⟩ : ∃ s, s = (m * 8 + 5) / 6 := ⟨_, rfl⟩
    have h1 : (n : Int) / 3 = (q : Int) := by omega
    have h3 : IntKind.i64.wrap ((q : Int) * 4) = (q : Int) * 4 := IntWalk.i64_in _ (by omega)
    have h4 : (n : Int) % 3 = (m : Int) := by omega
    have h5 : IntKind.i64.wrap ((m : Int) * 8) = (m : Int) * 8 := IntWalk.i64_in _ (by omega)
    have h6 : IntKind.i64.wrap ((m : Int) * 8 + 5) = (m : Int) * 8 + 5 := IntWalk.i64_in _ (by omega)
    have h7 : ((m : Int) * 8 + 5) / 6 = (s : Int) := by omega
    have h8 : IntKind.i64.wrap ((q : Int) * 4 + (s : Int)) = (q : Int) * 4 + (s : Int) := IntWalk.i64_in _ (by omega)
    have hE : 4 * (n / 3) + tl64 (-1) (n % 3) = q * 4 + s := by
      unfold tl64
      rw [← hm, ← hq]
      rw [if_pos rfl]
      split <;> omega
    rw [hE]
    clear hE hs hm hq
    go_enter Tryz.func226, Tryz.ntmps226
    go_wp2_with fail
    go_ret
    exact ⟨congrArg (fun z => Ending.returned (.int .i64 z)) (show (q : Int) * 4 + (s : Int) = ((q * 4 + s : Nat) : Int) by omega), rfl⟩
theorem encstr64_x (al : List UInt8) (hal : al.length = 64) (P : Int) (hP : P = 61 ∨ P = -1) (p : Nat) (xs : Array Value) (A : Option Addr) (n c : Nat) (d : List UInt8) (w : World) (hx : EncY al P xs) (hp : Blk w p 249 xs) (h : RB w w.heap.size A n c d) (hn : n ≤ 10000) :
    Calls Tryz.prog 190 #[.pointer (some ⟨p, 0, none⟩), .slice A n c] w (OutSN 20000 w) := by
  obtain ⟨N, hN⟩ : ∃ N, N = 4 * (n / 3) + tl64 P (n % 3) := ⟨_, rfl⟩
  have hN2 : N ≤ 20000 := by
    have : tl64 P (n % 3) ≤ 4 := by unfold tl64; split <;> try omega
                                    split <;> omega
    omega
  have HL := Lib.hid (enclen64_x P hP p n w (by omega) ((hp.cell _).trans hx.pad))
  have hmk := make_zeros N (by omega) w
  obtain ⟨w1, hw1⟩ : ∃ w1, w1 = w.alloc (.cells (bv (List.replicate N 0)).toArray 5) := ⟨_, rfl⟩
  rw [← hw1] at hmk
  have hbw : Below w.heap.size w w1 := by rw [hw1]; exact (Below.refl _ w).alloc (Nat.le_refl _) _
  have hps : p < w.heap.size := hp.lt
  have hE := enc64_any al hal P hP w.heap.size w.heap.size N p xs A n c d w1 hx ⟨Below.refl _ w1, ⟨List.replicate N 0, by simp, by rw [hw1]; exact Blk.new _ _ _⟩, hp.below hbw hps⟩ (Nat.le_refl _) (by omega) (h.below hbw) (by omega) hN N (Nat.le_refl _) (by omega)
  rw [← hN] at HL
  have HE := Lib.hid hE
  have HBW := Lib.hid hbw
  have HN := Lib.hid hN2
  clear hE hw1 hN hx hp h hbw hN2 hP
  go_enter Tryz.func190, Tryz.ntmps190
  go_wp2_with fail
  refine HL.out.mono ?_
  rintro e w' ⟨rfl, rfl⟩
  go_wp2_with fail
  refine HE.out.mono ?_
  rintro e w2 ⟨rfl, hw⟩
  obtain ⟨l, hl, hb⟩ := hw.buf
  have hcv := run_convert_RB (RB.of_blkq hb (by unfold maxLen; have := HN.out; omega)) 22 5 Tryz.underlying22 Tryz.underlying5 9 Tryz.underlying9
  rw [hl] at hcv
  have HB := Lib.hid (HBW.out.trans hw.bel)
  have HLL := Lib.hid hl
  clear hw hb hl
  go_wp2_with fail
  go_ret
  exact ⟨l, rfl, by have := HLL.out; have := HN.out; omega, HB.out⟩
def gar64 : List UInt8 := [65, 66, 67, 68, 69, 70, 71, 72, 73, 74, 75, 76, 77, 78, 79, 80, 81, 82, 83, 84, 85, 86, 87, 88, 89, 90, 97, 98, 99, 100, 101, 102, 103, 104, 105, 106, 107, 108, 109, 110, 111, 112, 113, 114, 115, 116, 117, 118, 119, 120, 121, 122, 48, 49, 50, 51, 52, 53, 54, 55, 56, 57, 45, 126]
def url64 : List UInt8 := [65, 66, 67, 68, 69, 70, 71, 72, 73, 74, 75, 76, 77, 78, 79, 80, 81, 82, 83, 84, 85, 86, 87, 88, 89, 90, 97, 98, 99, 100, 101, 102, 103, 104, 105, 106, 107, 108, 109, 110, 111, 112, 113, 114, 115, 116, 117, 118, 119, 120, 121, 122, 48, 49, 50, 51, 52, 53, 54, 55, 56, 57, 45, 95]
theorem gar64_alph : Alph 64 gar64 := ⟨rfl, by decide, by decide⟩
theorem url64_alph : Alph 64 url64 := ⟨rfl, by decide, by decide⟩
theorem gar64_x (w : World) : Calls Tryz.prog 188 #[] w (OutEnc 249 gar64 322 64 64 w) := by
  have HN := Lib.hid (newenc64_x gar64 gar64_alph w)
  go_enter Tryz.func188, Tryz.ntmps188
  go_wp2_with fail
  refine HN.out.mono ?_
  rintro e w1 ⟨xs, rfl, hb, ha, hbe⟩
  have H := Lib.hid (And.intro hb (And.intro ha hbe))
  clear hb ha hbe
  go_wp2_with fail
  go_ret
  exact ⟨_, xs, rfl, H.out.1, H.out.2.1, Nat.le_refl _, H.out.2.2⟩
theorem gar64_bts (A : Option Addr) (n c : Nat) (d : List UInt8) (w : World) (h : RB w w.heap.size A n c d) (hn : n ≤ 10000) : Calls Tryz.prog 149 #[.slice A n c] w (OutBS (decide (386 ≤ d.length)) w) := by
  have q0 : ∀ w : World, (binOp .neq 52 .nilIface .nilIface).run Tryz.prog w = .ok (.bool false) w := fun _ => by kernel_rfl
  have qn : ∀ (t : TypeId) (v : Value) (w : World), (binOp .neq 52 (.iface t v) .nilIface).run Tryz.prog w = .ok (.bool true) w := fun _ _ _ => by kernel_rfl
  have HV := Lib.hid (gar64_val A n c d w h)
  have HR := Lib.hid h
  clear h
  go_enter Tryz.func149, Tryz.ntmps149
  go_wp2_with fail
  refine HV.out.mono ?_
  rintro e w1 ⟨⟨hok, rfl⟩ | ⟨hok, t, v, rfl⟩, hb⟩
  · have HB := Lib.hid hb
    have HOK := Lib.hid hok
    clear hb hok
    go_wp2_with fail
    refine (gar64_x w1).mono ?_
    rintro e w2 ⟨g, xs, rfl, hk, hx, _, hb2⟩
    have HB2 := Lib.hid (HB.out.trans (hb2.mono HB.out.size))
    have HES := Lib.hid (encstr64_x gar64 rfl 61 (.inl rfl) g xs A n c d w2 hx.y hk ((HR.out.below HB2.out).more HB2.out.size) hn)
    clear hb2 hk hx
    go_wp2_with fail
    refine HES.out.mono ?_
    rintro e w3 ⟨l, rfl, hl, hb3⟩
    have HB3 := Lib.hid (HB2.out.trans (hb3.mono HB2.out.size))
    clear hb3 hl
    go_wp2_with fail
    go_ret2
    exact ⟨.inl ⟨HOK.out, _, rfl⟩, HB3.out⟩
  · have HB := Lib.hid hb
    have HOK := Lib.hid hok
    clear hb hok
    go_wp2_with fail
    go_ret2
    exact ⟨.inr ⟨HOK.out, _, t, v, rfl⟩, HB.out⟩
theorem EncY.repad {al : List UInt8} {P : Int} {xs : Array Value} (h : EncY al P xs) (hal : al.length = 64) (Q : Int) : EncY al Q (xs.setIfInBounds 320 (.int .i32 Q)) :=
  ⟨by simp [h.size], fun j hj => by rw [Array.getElem?_setIfInBounds_ne (by omega)]; exact h.enc j hj, Array.getElem?_setIfInBounds_self_of_lt (by rw [h.size]; decide)⟩
def OutY (al : List UInt8) (w : World) (e : Ending) (w' : World) : Prop := ∃ g ys, e = .returned (.pointer (some ⟨g, 0, none⟩)) ∧ Blk w' g 249 ys ∧ EncY al (-1) ys ∧ Below w.heap.size w w'
theorem withpad_x (al : List UInt8) (hal : al.length = 64) (xs : Array Value) (hx : EncY al 61 xs) (w : World) : Calls Tryz.prog 299 #[.agg xs, .int .i32 (-1)] w (OutY al w) := by
  have h320 := hx.pad
  have HX := Lib.hid (hx.repad hal (-1))
  clear hx
  go_enter Tryz.func299, Tryz.ntmps299
  go_wp2_with fail
  go_ret
  exact ⟨_, _, rfl, Blk.new _ _ _, HX.out, (Below.refl _ w).alloc (Nat.le_refl _) _⟩
theorem b64_x (w : World) : Calls Tryz.prog 240 #[.bool false, .bool true] w (OutY url64 w) := by
  have HN := Lib.hid (newenc64_x url64 url64_alph w)
  go_enter Tryz.func240, Tryz.ntmps240
  go_wp2_with fail
  refine HN.out.mono ?_
  rintro e w1 ⟨xs, rfl, hb, ha, hbe⟩
  have hsz := ha.size
  have HLA := Lib.hid (load_head w1 w.heap.size 249 249 322 xs hb (by rw [hsz]; exact Nat.le_refl _) (by kernel_rfl) (by kernel_rfl))
  have hts : (xs.toList.take 322).toArray = xs := by rw [List.take_of_length_le (by simp [hsz])]
  rw [hts] at HLA
  have HW := Lib.hid (withpad_x url64 rfl xs ha.y w1)
  have H := Lib.hid hbe
  clear hb ha hbe hsz hts
  go_wp2_with (refine step_load rfl _ 249 rfl _ _ rfl HLA.out ?_)
  refine HW.out.mono ?_
  rintro e w2 ⟨g, ys, rfl, hb, hy, hb2⟩
  have H2 := Lib.hid (And.intro hb (And.intro hy (H.out.trans (hb2.mono H.out.size))))
  clear hb hy hb2
  go_wp2_with fail
  go_ret
  exact ⟨g, ys, rfl, H2.out.1, H2.out.2.1, H2.out.2.2⟩
theorem mbenc_x (A : Option Addr) (n c : Nat) (d : List UInt8) (w : World) (h : RB w w.heap.size A n c d) (hn : n ≤ 10000) : Calls Tryz.prog 195 #[.int .i64 117, .slice A n c] w (OutBS true w) := by
  have HR := Lib.hid h
  clear h
  go_enter Tryz.func195, Tryz.ntmps195
  go_wp2_with fail
  refine (b64_x w).mono ?_
  rintro e w2 ⟨g, ys, rfl, hk, hy, hb2⟩
  have HB2 := Lib.hid hb2
  have HES := Lib.hid (encstr64_x url64 rfl (-1) (.inr rfl) g ys A n c d w2 hy hk ((HR.out.below hb2).more hb2.size) hn)
  clear hb2 hk hy
  go_wp2_with fail
  refine HES.out.mono ?_
  rintro e w3 ⟨l, rfl, hl, hb3⟩
  have HB3 := Lib.hid (HB2.out.trans (hb3.mono HB2.out.size))
  obtain ⟨t1, ht1, hs1⟩ := add_some (P := Tryz.prog) ⟨#[117]⟩ ⟨l.toArray⟩ 1 20000 (by decide) (by rw [size_toArray]; exact hl) (by omega)
  clear hb3 hl hs1
  go_wp2_with fail
  go_ret2
  exact ⟨.inl ⟨rfl, _, rfl⟩, HB3.out⟩
theorem cert_bts (A : Option Addr) (n c : Nat) (d : List UInt8) (w : World) (h : RB w w.heap.size A n c d) (hn : n ≤ 10000) : Calls Tryz.prog 155 #[.slice A n c] w (OutBS true w) := by
  have HM := Lib.hid (mbenc_x A n c d w h hn)
  clear h
  go_enter Tryz.func155, Tryz.ntmps155
  go_wp2_with fail
  refine HM.out.mono ?_
  rintro e w1 ⟨⟨_, s, rfl⟩ | ⟨h1, _⟩, hb⟩
  · have HB := Lib.hid hb
    clear hb
    go_wp2_with fail
    go_ret2
    exact ⟨.inl ⟨rfl, _, rfl⟩, HB.out⟩
  · exact absurd h1 (by decide)
end Go.Proofs.YtghddiboggdhcaaGreatDoor
