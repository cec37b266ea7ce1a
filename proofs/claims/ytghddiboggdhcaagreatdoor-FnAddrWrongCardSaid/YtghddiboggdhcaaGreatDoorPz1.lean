/- The text of an IPv6 address: there is one. -/
import Derived.Test.YtghddiboggdhcaaGreatDoorPg
set_option maxRecDepth 100000
set_option maxHeartbeats 4000000
namespace Go.Proofs.YtghddiboggdhcaaGreatDoor
open Go.RowKit
variable {K : Nat}
attribute [local go_sem ↓] Go.wp_at_zero Go.wp_at_succ
def Sixteen (w : World) (g : Nat) : Prop := ∀ k, k < 16 → ∃ b : UInt8, w.cell? ⟨g, k, none⟩ = some (.int .u8 b.toNat)
theorem Sixteen.below {w w' : World} {g : Nat} (h : Sixteen w g) (hb : Below w.heap.size w w') : Sixteen w' g := fun k hk => by
  obtain ⟨b, hc⟩ := h k hk
  exact ⟨b, (hb.cell (World.block_lt_of_cell? _ _ hc)).trans hc⟩
def Z10 (w : World) (g n : Nat) : Prop := ∀ j, j < n → w.cell? ⟨g, j, none⟩ = some (.int .u8 0)
def IsV4 (w : World) (g : Nat) : Prop := Z10 w g 10 ∧ w.cell? ⟨g, 10, none⟩ = some (.int .u8 255) ∧ w.cell? ⟨g, 11, none⟩ = some (.int .u8 255)
theorem IsV4.back {w w' : World} {g : Nat} (h : IsV4 w' g) (hb : Below w.heap.size w w') (hg : g < w.heap.size) : IsV4 w g :=
  ⟨fun j hj => (hb.cell (p := ⟨g, j, none⟩) hg).symm.trans (h.1 j hj), (hb.cell (p := ⟨g, 10, none⟩) hg).symm.trans h.2.1, (hb.cell (p := ⟨g, 11, none⟩) hg).symm.trans h.2.2⟩
theorem zeros_any (g c : Nat) (w : World) (h : Sixteen w g) (_hc : 10 ≤ c) : Calls Tryz.prog 208 #[.slice (some ⟨g, 0, none⟩) 10 c] w fun e w' => ((e = .returned (.bool true) ∧ Z10 w g 10) ∨ (e = .returned (.bool false) ∧ ¬ Z10 w g 10)) ∧ w = w' := by
  have H := Lib.hid h
  clear h
  go_enter Tryz.func208, Tryz.ntmps208
  go_wp2_with fail
  go_loopw [3] (fun i wr => ∃ k : Nat, k ≤ 10 ∧ i = .int .i64 k ∧ wr = w ∧ Z10 w g k) (fun i _ => 10 - (intOf i).toNat)
  case atStart => exact ⟨0, by omega, rfl, rfl, fun j hj => absurd hj (by omega)⟩
  case round =>
    obtain ⟨k, hk, rfl, rfl, hz⟩ := hrel
    have HZ := Lib.hid hz
    clear hz
    by_cases hlt : k < 10
    · obtain ⟨b, hb⟩ := H.out k (by omega)
      by_cases h0 : b.toNat = 0
      · rw [h0] at hb
        have hz1 : Z10 wr g (k + 1) := fun j hj => by
          by_cases e : j = k
          · rw [e]; exact hb
          · exact HZ.out j (by omega)
        have HZ1 := Lib.hid hz1
        clear hz1
        go_wp2_with fail
        go_roundw
        case rel => exact ⟨k + 1, by omega, by go_num, trivial, HZ1.out⟩
        case measure => simp [intOf]; omega
      · have h1 : ((b.toNat : Int) != 0) = true := by simp; omega
        have HB := Lib.hid hb
        go_wp2_with fail
        go_ret
        refine ⟨Or.inr ⟨rfl, fun hz => ?_⟩, rfl⟩
        have := hz k hlt
        rw [HB.out] at this
        injection this with this
        injection this with _ this
        omega
    · obtain rfl : k = 10 := by omega
      go_wp2_with fail
      go_ret
      exact ⟨Or.inl ⟨rfl, HZ.out⟩, rfl⟩
theorem i64_and15 (n : Int) : bits .and .i64 n 15 = n % 16 := by
  have h127 : (BitVec.ofInt 64 15).toNat = 2 ^ 4 - 1 := by decide
  have key : (BitVec.ofInt 64 n &&& BitVec.ofInt 64 15).toNat = (n % ((2 ^ 64 : Nat) : Int)).toNat % 2 ^ 4 := by
    rw [BitVec.toNat_and, BitVec.toNat_ofInt, h127, Nat.and_two_pow_sub_one_eq_mod]
  show IntKind.i64.wrap ((BitVec.ofInt 64 n &&& BitVec.ofInt 64 15).toNat : Nat) = n % 16
  rw [key, IntKind.wrap_i64]
  omega
theorem i64_or_nat (a b : Nat) (ha : a < 2 ^ 62) (hb : b < 2 ^ 62) : bits .or .i64 (a : Int) (b : Int) = ((a ||| b : Nat) : Int) := by
  have hlt : a ||| b < 2 ^ 62 := Nat.or_lt_two_pow ha hb
  have key : (BitVec.ofInt 64 (a : Int) ||| BitVec.ofInt 64 (b : Int)).toNat = a ||| b := by
    rw [BitVec.toNat_or, BitVec.toNat_ofInt, BitVec.toNat_ofInt]
    congr 1 <;> omega
  show IntKind.i64.wrap ((BitVec.ofInt 64 (a : Int) ||| BitVec.ofInt 64 (b : Int)).toNat : Nat) = _
  rw [key, IntKind.wrap_i64]
  omega
def boolN : Value → Nat
  | .bool true => 1
  | _ => 0
theorem hex_any (n : Nat) (w : World) (hn : n < 65536) : Calls Tryz.prog 209 #[.int .i64 n] w fun e w' => ∃ s, e = .returned (.string s) ∧ s.size ≤ 66000 ∧ w = w' := by
  go_enter Tryz.func209, Tryz.ntmps209
  go_wp2_with fail
  go_loopw [0, 3, 4] (fun v s mo wr => ∃ (m : Nat) (t : ByteArray) (b : Bool), v = .int .i64 m ∧ s = .string t ∧ mo = .bool b ∧ wr = w ∧ (b = true ∧ t.size = 0 ∧ m ≤ 65535 ∨ b = decide (0 < m) ∧ t.size + m ≤ 65536)) (fun v _ mo _ => 2 * (intOf v).toNat + boolN mo)
  case atStart => exact ⟨n, _, _, rfl, rfl, rfl, rfl, Or.inl ⟨rfl, rfl, by omega⟩⟩
  case round =>
    obtain ⟨m, t, b, rfl, rfl, rfl, rfl, hor⟩ := hrel
    have hm : m ≤ 65536 := by omega
    cases b
    · go_wp2_with fail
      go_ret
      exact ⟨t, rfl, by omega, rfl⟩
    · obtain ⟨k, hk⟩ : ∃ k, k = m % 16 := ⟨_, rfl⟩
      have hq : bits .and .i64 (m : Int) 15 = (k : Int) := by rw [i64_and15]; omega
      have hk16 : k < 16 := by omega
      have hts : t.size ≤ 65536 := by omega
      have hxs : ∀ b : ByteArray, (b.extract k (k + 1)).size ≤ 1 := fun b => by rw [ByteArray.size_extract]; omega
      have A0 : ∀ (b : ByteArray) (w : World), (Op.stringOp .add (b.extract k (k + 1)) t).run Tryz.prog w = .ok (.string (b.extract k (k + 1) ++ t)) w := fun b w => run_string_add_sum w _ t (by have := hxs b; omega)
      have HXS := Lib.hid hxs
      have HK := Lib.hid hk
      clear hk hxs
      go_wp2_with fail
      refine ⟨⟨m / 16, _, decide (0 < m / 16), by go_num, rfl, ?_, trivial, Or.inr ⟨rfl, ?_⟩⟩, ?_⟩
      · congr 1; apply Bool.eq_iff_iff.2; simp; omega
      · rw [ByteArray.size_append]
        have := HXS.out ⟨#[48, 49, 50, 51, 52, 53, 54, 55, 56, 57, 97, 98, 99, 100, 101, 102]⟩
        rcases hor with ⟨_, h1, h2⟩ | ⟨h1, h2⟩
        · omega
        · have : 0 < m := by simpa using h1
          omega
      · have hbn : boolN (Value.bool (decide (0 < (m : Int) / 16))) = if 0 < m / 16 then 1 else 0 := by
          by_cases h : 0 < m / 16
          · have : (0 : Int) < (m : Int) / 16 := by omega
            simp [boolN, h, this]
          · have : ¬ (0 : Int) < (m : Int) / 16 := by omega
            simp [boolN, h, this]
        rw [hbn]
        simp only [boolN, intOf]
        split <;> omega
theorem group_any (g c i bx : Nat) (w : World) (h : Sixteen w g) (hi : i < 8) (_hc : 16 ≤ c) (hb : w.cell? ⟨bx, 0, none⟩ = some (.slice (some ⟨g, 0, none⟩) 16 c)) : Calls Tryz.prog 210 #[.int .i64 i, .pointer (some ⟨bx, 0, none⟩)] w fun e w' => ∃ n : Nat, e = .returned (.int .i64 n) ∧ n < 65536 ∧ Below w.heap.size w w' := by
  obtain ⟨b0, h0⟩ := h (2 * i) (by omega)
  obtain ⟨b1, h1⟩ := h (2 * i + 1) (by omega)
  have hx0 := b0.toNat_lt
  have hx1 := b1.toNat_lt
  have e0 : IntKind.i64.wrap (b0.toNat : Int) = b0.toNat := IntWalk.i64_in _ (by omega)
  have e1 : IntKind.i64.wrap (b1.toNat : Int) = b1.toNat := IntWalk.i64_in _ (by omega)
  have e2 : IntKind.i64.wrap (2 * (i : Int)) = 2 * (i : Int) := IntWalk.i64_in _ (by omega)
  have e3 : IntKind.i64.wrap (2 * (i : Int) + 1) = 2 * (i : Int) + 1 := IntWalk.i64_in _ (by omega)
  have e4 : (2 * (i : Int)).toNat = 2 * i := by omega
  have e5 : (2 * (i : Int) + 1).toNat = 2 * i + 1 := by omega
  clear h
  go_enter Tryz.func210, Tryz.ntmps210
  go_wp2_with fail
  go_quiet (fail)
  go_wp2_with fail
  have hor : bits .or .i64 ((b0.toNat : Int) * 256) b1.toNat = ((b0.toNat * 256 ||| b1.toNat : Nat) : Int) := i64_or_nat (b0.toNat * 256) b1.toNat (by omega) (by omega)
  rw [hor]
  go_ret
  exact ⟨_, rfl, Nat.or_lt_two_pow (n := 16) (by omega) (by omega), below_drewN (Below.refl _ _) _⟩
theorem to4_sixteen (g c : Nat) (w : World) (h : Sixteen w g) (hc : 16 ≤ c) (hm : c ≤ maxLen) : Calls Tryz.prog 172 #[.slice (some ⟨g, 0, none⟩) 16 c] w fun e w' => ((e = .returned (.slice none 0 0) ∧ ¬ IsV4 w g) ∨ (e = .returned (.slice (some ⟨g, 12, none⟩) 4 (c - 12)) ∧ IsV4 w g)) ∧ w = w' := by
  have HZ := Lib.hid (zeros_any g c w h (by omega))
  obtain ⟨b10, h10⟩ := h 10 (by omega)
  obtain ⟨b11, h11⟩ := h 11 (by omega)
  have hm' : c ≤ 9223372036854775807 := hm
  have H10 := Lib.hid h10
  have H11 := Lib.hid h11
  clear h hm
  go_enter Tryz.func172, Tryz.ntmps172
  go_wp2_with fail
  refine HZ.out.mono ?_
  rintro e w1 ⟨⟨rfl, hz⟩ | ⟨rfl, hz⟩, rfl⟩
  · have HZ2 := Lib.hid hz
    clear hz
    by_cases a10 : b10.toNat = 255
    · rw [a10] at h10
      by_cases a11 : b11.toNat = 255
      · rw [a11] at h11
        go_wp2_with fail
        go_ret
        exact ⟨Or.inr ⟨rfl, HZ2.out, by rw [H10.out, a10]; rfl, by rw [H11.out, a11]; rfl⟩, rfl⟩
      · have a11' : ((b11.toNat : Int) == 255) = false := by simp; omega
        go_wp2_with fail
        go_ret
        refine ⟨Or.inl ⟨rfl, fun hv => ?_⟩, rfl⟩
        have := hv.2.2
        rw [H11.out] at this
        injection this with this
        injection this with _ this
        omega
    · have a10' : ((b10.toNat : Int) == 255) = false := by simp; omega
      go_wp2_with fail
      go_ret
      refine ⟨Or.inl ⟨rfl, fun hv => ?_⟩, rfl⟩
      have := hv.2.1
      rw [H10.out] at this
      injection this with this
      injection this with _ this
      omega
  · have HZ2 := Lib.hid hz
    clear hz
    go_wp2_with fail
    go_ret
    exact ⟨Or.inl ⟨rfl, fun hv => HZ2.out hv.1⟩, rfl⟩
theorem ipstr_sixteen (g c : Nat) (w : World) (h : Sixteen w g) (hc : 16 ≤ c) (hm : c ≤ maxLen) (h4 : ¬ IsV4 w g) : Calls Tryz.prog 173 #[.slice (some ⟨g, 0, none⟩) 16 c] w fun e w' => ∃ s, e = .returned (.string s) ∧ Below w.heap.size w w' := by
  have q : ∀ (w : World) (a : Option Addr) (n c n' c' : Nat), (binOp .neq 148 (.slice a n c) (.slice none n' c')).run Tryz.prog w = .ok (.bool (!a.isNone)) w := fun w a n c n' c' => run_neq_slice_nil_any w _ _ a n c n' c' Tryz.underlying148
  have hmf : ∀ (fn : Fn) (first cap : Array Value) (w : World), (Instr.makeFunc fn first cap).run Tryz.prog w = .ok (.func fn first cap) w := fun _ _ _ _ => rfl
  have hb1 : Below w.heap.size w (w.alloc (.cells #[.slice (some ⟨g, 0, none⟩) 16 c] 148)) := (Below.refl _ w).alloc (Nat.le_refl _) _
  obtain ⟨b00, h00⟩ := h 0 (by omega)
  have hg : g < w.heap.size := World.block_lt_of_cell? _ _ h00
  have h1 := h.below hb1
  have HT := Lib.hid (to4_sixteen g c _ h1 hc hm)
  have H4 := Lib.hid (fun hv => h4 (IsV4.back hv hb1 hg) : ¬ IsV4 (w.alloc (.cells #[.slice (some ⟨g, 0, none⟩) 16 c] 148)) g)
  have H1 := Lib.hid h1
  have HB1 := Lib.hid hb1
  have hbx : (w.alloc (.cells #[.slice (some ⟨g, 0, none⟩) 16 c] 148)).cell? ⟨w.heap.size, 0, none⟩ = some (.slice (some ⟨g, 0, none⟩) 16 c) := (Blk.new w 148 #[.slice (some ⟨g, 0, none⟩) 16 c]).cell 0
  have HBX := Lib.hid hbx
  clear h hm h4 h00 hb1 h1 hbx
  go_enter Tryz.func173, Tryz.ntmps173
  go_wp2_with fail
  refine HT.out.mono ?_
  rintro e w1 ⟨⟨rfl, _⟩ | ⟨rfl, hv⟩, rfl⟩
  case inr => exact absurd hv H4.out
  go_wp2_with fail
  have hcf : ∀ (args : Array Value) (w : World), (callFunc 210 args).run Tryz.prog w = .ok (.enter 210 args) w := fun _ _ => by kernel_rfl
  obtain ⟨w1, hw1⟩ : ∃ w1, w1 = w.alloc (.cells #[.slice (some ⟨g, 0, none⟩) 16 c] 148) := ⟨_, rfl⟩
  rw [← hw1] at H1 HB1 HBX ⊢
  clear hw1 HT H4
  go_loopw [8, 9, 10] (fun f t i wr => ∃ (k a b : Nat), k ≤ 8 ∧ i = .int .i64 k ∧ f = .int .i64 a ∧ t = .int .i64 b ∧ (a = 255 ∧ b = 255 ∨ a < b ∧ b ≤ 8) ∧ Below w1.heap.size w1 wr) (fun _ _ i _ => 8 - (intOf i).toNat)
  case atStart => exact ⟨0, 255, 255, by omega, rfl, rfl, rfl, Or.inl ⟨rfl, rfl⟩, Below.refl _ _⟩
  case round =>
    obtain ⟨k, a, b, hk, rfl, rfl, rfl, hab, hb⟩ := hrel
    have HB := Lib.hid hb
    have hab1 : a ≤ 255 ∧ b ≤ 255 := by omega
    clear hb
    by_cases hlt : k < 8
    · have hd0 : decide ((k : Int) < 8) = true := by simp; omega
      go_wp2_with fail
      go_loopw [11] (fun j wr => ∃ k2 : Nat, k ≤ k2 ∧ k2 ≤ 8 ∧ j = .int .i64 k2 ∧ Below w1.heap.size w1 wr) (fun j _ => 8 - (intOf j).toNat)
      case atStart => exact ⟨k, by omega, by omega, rfl, HB.out⟩
      case round =>
        obtain ⟨k2, hk2, hk3, rfl, hb⟩ := hrel
        have HB := Lib.hid hb
        clear hb
        by_cases hlt2 : k2 < 8
        · go_wp2_with fail
          refine (group_any g c k2 w.heap.size wr (H1.out.below HB.out) (by omega) hc ((HB.out.cell (World.block_lt_of_cell? _ _ HBX.out)).trans HBX.out)).mono ?_
          rintro e w2 ⟨n, rfl, hn, hb2⟩
          have HB2 := Lib.hid (HB.out.trans (hb2.mono HB.out.size))
          clear hb2
          by_cases hn0 : n = 0
          · subst hn0
            go_wp2_with fail
            go_roundw
            case rel => exact ⟨k2 + 1, by omega, by omega, by go_num, HB2.out⟩
            case measure => simp [intOf]; omega
          · have hn1 : ((n : Int) == 0) = false := by simp; omega
            have HB := HB2
            go_wp2_with fail
            all_goals first
              | exact ⟨⟨k + 1, k, k2, by omega, by go_num, rfl, rfl, Or.inr ⟨by omega, by omega⟩, HB.out⟩, by simp [intOf]; omega⟩
              | exact ⟨⟨k + 1, a, b, by omega, by go_num, rfl, rfl, hab, HB.out⟩, by simp [intOf]; omega⟩
        · obtain rfl : k2 = 8 := by omega
          go_wp2_with fail
          all_goals first
            | exact ⟨⟨k + 1, k, 8, by omega, by go_num, rfl, rfl, Or.inr ⟨by omega, by omega⟩, HB.out⟩, by simp [intOf]; omega⟩
            | exact ⟨⟨k + 1, a, b, by omega, by go_num, rfl, rfl, hab, HB.out⟩, by simp [intOf]; omega⟩
    · have hd0 : decide ((k : Int) < 8) = false := by simp; omega
      go_wp2_with fail
      go_loopw [13, 14] (fun s i wr => ∃ (t : ByteArray) (k : Nat), k ≤ 8 ∧ s = .string t ∧ i = .int .i64 k ∧ t.size ≤ 70000 * k ∧ Below w1.heap.size w1 wr) (fun _ i _ => 8 - (intOf i).toNat)
      case atStart => exact ⟨_, 0, by omega, rfl, rfl, by decide, HB.out⟩
      case round =>
        obtain ⟨t, k, hk, rfl, rfl, y0, hb⟩ := hrel
        have HB := Lib.hid hb
        clear hb
        by_cases hlt : k < 8
        · by_cases hka : k = a
          · subst hka
            obtain ⟨t1, A1, y1⟩ := add_some (P := Tryz.prog) t ⟨#[58, 58]⟩ (70000 * k) 2 y0 (by decide) (by omega)
            by_cases hb8 : b = 8
            · subst hb8
              go_wp2_with fail
              go_ret
              exact ⟨t1, rfl, HB1.out.trans (HB.out.mono HB1.out.size)⟩
            · have hb9 : ¬ (8 ≤ b) := by omega
              go_wp2_with fail
              refine (group_any g c b w.heap.size wr (H1.out.below HB.out) (by omega) hc ((HB.out.cell (World.block_lt_of_cell? _ _ HBX.out)).trans HBX.out)).mono ?_
              rintro e w2 ⟨n, rfl, hn, hb2⟩
              have HB2 := Lib.hid (HB.out.trans (hb2.mono HB.out.size))
              clear hb2
              go_wp2_with fail
              refine (hex_any n w2 hn).mono ?_
              rintro e w3 ⟨s2, rfl, z2, rfl⟩
              obtain ⟨t2, A2, y2⟩ := add_some (P := Tryz.prog) t1 s2 (70000 * k + 2) 66000 y1 z2 (by omega)
              go_wp2_with fail
              go_roundw
              case rel => exact ⟨t2, b + 1, by omega, rfl, by go_num, by omega, HB2.out⟩
              case measure => simp [intOf]; omega
          · have hka' : ((k : Int) == a) = false := by simp; omega
            by_cases hk0 : 0 < k
            · obtain ⟨t1, A1, y1⟩ := add_some (P := Tryz.prog) t ⟨#[58]⟩ (70000 * k) 1 y0 (by decide) (by omega)
              go_wp2_with fail
              refine (group_any g c k w.heap.size wr (H1.out.below HB.out) (by omega) hc ((HB.out.cell (World.block_lt_of_cell? _ _ HBX.out)).trans HBX.out)).mono ?_
              rintro e w2 ⟨n, rfl, hn, hb2⟩
              have HB2 := Lib.hid (HB.out.trans (hb2.mono HB.out.size))
              clear hb2
              go_wp2_with fail
              refine (hex_any n w2 hn).mono ?_
              rintro e w3 ⟨s2, rfl, z2, rfl⟩
              obtain ⟨t2, A2, y2⟩ := add_some (P := Tryz.prog) t1 s2 (70000 * k + 1) 66000 y1 z2 (by omega)
              go_wp2_with fail
              go_roundw
              case rel => exact ⟨t2, k + 1, by omega, rfl, by go_num, by omega, HB2.out⟩
              case measure => simp [intOf]; omega
            · have hk00 : k = 0 := by omega
              subst hk00
              go_wp2_with fail
              refine (group_any g c 0 w.heap.size wr (H1.out.below HB.out) (by omega) hc ((HB.out.cell (World.block_lt_of_cell? _ _ HBX.out)).trans HBX.out)).mono ?_
              rintro e w2 ⟨n, rfl, hn, hb2⟩
              have HB2 := Lib.hid (HB.out.trans (hb2.mono HB.out.size))
              clear hb2
              go_wp2_with fail
              refine (hex_any n w2 hn).mono ?_
              rintro e w3 ⟨s2, rfl, z2, rfl⟩
              obtain ⟨t2, A2, y2⟩ := add_some (P := Tryz.prog) t s2 (70000 * 0) 66000 y0 z2 (by omega)
              go_wp2_with fail
              go_roundw
              case rel => exact ⟨t2, 0 + 1, by omega, rfl, by go_num, by omega, HB2.out⟩
              case measure => simp [intOf]
        · obtain rfl : k = 8 := by omega
          go_wp2_with fail
          go_ret
          exact ⟨t, rfl, HB1.out.trans (HB.out.mono HB1.out.size)⟩
theorem ip6_any (g c : Nat) (d : List UInt8) (w : World) (hd : d.length = 16) (hK : 256 ≤ K) (h : RB w w.heap.size (some ⟨g, 0, none⟩) d.length c d) (ht : Tab K w) : Calls Tryz.prog 135 #[.slice (some ⟨g, 0, none⟩) d.length c] w (OutSE w) := by
  have q : ∀ (w : World) (a : Option Addr) (n c n' c' : Nat), (binOp .neq 148 (.slice a n c) (.slice none n' c')).run Tryz.prog w = .ok (.bool (!a.isNone)) w := fun w a n c n' c' => run_neq_slice_nil_any w _ _ a n c n' c' Tryz.underlying148
  have hmax := h.max
  have hcap := h.cap
  have h16 : Sixteen w g := fun k hk => ⟨d[k]'(by omega), h.cellAt k _ (List.getElem?_eq_getElem (by omega))⟩
  rw [hd] at hcap ⊢
  have HT := Lib.hid (to4_sixteen g c w h16 hcap hmax)
  have H16 := Lib.hid h16
  have HTab := Lib.hid ht
  obtain ⟨b0, c0⟩ := h16 12 (by omega)
  obtain ⟨b1, c1⟩ := h16 13 (by omega)
  obtain ⟨b2, c2⟩ := h16 14 (by omega)
  obtain ⟨b3, c3⟩ := h16 15 (by omega)
  have H4 := Lib.hid (fun (hc4 : 4 ≤ c - 12) => ipstr_four g (c - 12) 12 b0 b1 b2 b3 w c0 c1 c2 c3 hc4 (Nat.le_trans (Nat.sub_le _ _) hmax) (Nat.lt_of_lt_of_le b0.toNat_lt hK) (Nat.lt_of_lt_of_le b1.toNat_lt hK) (Nat.lt_of_lt_of_le b2.toNat_lt hK) (Nat.lt_of_lt_of_le b3.toNat_lt hK) ht)
  have HMX := Lib.hid hmax
  clear h ht hmax h16 c0 c1 c2 c3
  go_enter Tryz.func135, Tryz.ntmps135
  go_wp2_with fail
  refine HT.out.mono ?_
  rintro e w1 ⟨⟨rfl, hv⟩ | ⟨rfl, _⟩, rfl⟩
  · have HS := Lib.hid (ipstr_sixteen g c w H16.out hcap HMX.out hv)
    clear hv
    go_wp2_with fail
    refine HS.out.mono ?_
    rintro e w2 ⟨s, rfl, hb⟩
    have HB := Lib.hid hb
    clear hb
    go_wp2_with fail
    go_ret2
    exact ⟨s, rfl, HB.out⟩
  · go_wp2_with fail
    refine (H4.out (by omega)).mono ?_
    rintro e w2 ⟨s, rfl, z, hb⟩
    obtain ⟨t, A1, _⟩ := add_some (P := Tryz.prog) ⟨#[58, 58, 102, 102, 102, 102, 58]⟩ s 7 10000 (by decide) z (by omega)
    have HB := Lib.hid hb
    clear hb
    go_wp2_with fail
    go_ret2
    exact ⟨t, rfl, HB.out⟩
end Go.Proofs.YtghddiboggdhcaaGreatDoor
