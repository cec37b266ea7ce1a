/- The text of an IPv6 address by its transcoder; of an IPv4 address likewise. No condition. -/
import Derived.Test.YthpcfnegfdcbjaaGreatDoorMc
import Derived.Test.YthpcfnegfdcbjaaGreatDoorPh
namespace Go.Proofs.YthpcfnegfdcbjaaGreatDoor
open Go.RowKit
variable {K : Nat}
attribute [local go_sem ↓] Go.wp_at_zero Go.wp_at_succ
/-- The bytes are those of an IPv4 address behind ::ffff:. -/
def V4 (d : List UInt8) : Prop := (∀ j, j < 10 → d[j]? = some 0) ∧ d[10]? = some 255 ∧ d[11]? = some 255
/-- A text of which the sixteen bytes are read. -/
def Txt6 (d s : List UInt8) : Prop := (∃ a b, Run d a b ∧ s = txt6 d a b) ∨ V4 d ∧ s = [58, 58, 102, 102, 102, 102, 58] ++ dotted (d.getD 12 0) (d.getD 13 0) (d.getD 14 0) (d.getD 15 0)
theorem byte_of {w : World} {a : Addr} {b : UInt8} {n : Nat} (h : w.cell? a = some (.int .u8 b.toNat)) (h2 : w.cell? a = some (.int .u8 (n : Nat))) (hn : n < 256) : b = UInt8.ofNat n := by
  rw [h] at h2
  injection h2 with h2
  injection h2 with _ h2
  have h3 : b.toNat = n := by omega
  apply UInt8.toNat_inj.1
  rw [h3]
  simp
  omega
theorem V4.of {w : World} {g : Nat} {d : List UInt8} (h : S16 w g d) (hv : IsV4 w g) : V4 d := by
  have hd := h.1
  refine ⟨fun j hj => ?_, ?_, ?_⟩
  · rw [List.getElem?_eq_getElem (by omega)]
    exact congrArg some (byte_of (n := 0) (h.2 j (by omega)) (hv.1 j hj) (by decide))
  · rw [List.getElem?_eq_getElem (by omega)]
    exact congrArg some (byte_of (n := 255) (h.2 10 (by omega)) hv.2.1 (by decide))
  · rw [List.getElem?_eq_getElem (by omega)]
    exact congrArg some (byte_of (n := 255) (h.2 11 (by omega)) hv.2.2 (by decide))
theorem dotted_length (b0 b1 b2 b3 : UInt8) : (dotted b0 b1 b2 b3).length ≤ 15 := by
  unfold dotted
  simp only [List.length_append, Lib.decDigits_length, List.length_singleton]
  have := nDigits_byte b0
  have := nDigits_byte b1
  have := nDigits_byte b2
  have := nDigits_byte b3
  omega
set_option maxHeartbeats 2000000 in
set_option maxRecDepth 100000 in
theorem ip6_x (g c : Nat) (d : List UInt8) (w : World) (hd : d.length = 16) (hK : 256 ≤ K) (h : RB w w.heap.size (some ⟨g, 0, none⟩) d.length c d) (ht : Tab K w) : Calls Tryz.prog 175 #[.slice (some ⟨g, 0, none⟩) d.length c] w fun e w' => ∃ s, OutTxE ⟨s.toArray⟩ w e w' ∧ Txt6 d s := by
  have q : ∀ (w : World) (a : Option Addr) (n c n' c' : Nat), (binOp .neq 186 (.slice a n c) (.slice none n' c')).run Tryz.prog w = .ok (.bool (!a.isNone)) w := fun w a n c n' c' => run_neq_slice_nil_any w _ _ a n c n' c' Tryz.underlying186
  have hmax := h.max
  have hcap := h.cap
  have h16 : S16 w g d := ⟨hd, fun k hk => h.cellAt k _ (List.getElem?_eq_getElem hk)⟩
  rw [hd] at hcap ⊢
  have HT := Lib.hid (to4_sixteen g c w h16.any hcap hmax)
  have H16 := Lib.hid h16
  have HTab := Lib.hid ht
  have hb : ∀ k, k < 16 → w.cell? ⟨g, k, none⟩ = some (.int .u8 (d.getD k 0).toNat) := fun k hk => by
    rw [h16.2 k (by omega), List.getD_eq_getElem?_getD, List.getElem?_eq_getElem (by omega)]
    rfl
  have c0 := hb 12 (by omega)
  have c1 := hb 13 (by omega)
  have c2 := hb 14 (by omega)
  have c3 := hb 15 (by omega)
  obtain ⟨b0, hb0⟩ : ∃ b, b = d.getD 12 0 := ⟨_, rfl⟩
  obtain ⟨b1, hb1⟩ : ∃ b, b = d.getD 13 0 := ⟨_, rfl⟩
  obtain ⟨b2, hb2⟩ : ∃ b, b = d.getD 14 0 := ⟨_, rfl⟩
  obtain ⟨b3, hb3⟩ : ∃ b, b = d.getD 15 0 := ⟨_, rfl⟩
  rw [← hb0] at c0
  rw [← hb1] at c1
  rw [← hb2] at c2
  rw [← hb3] at c3
  have H4 := Lib.hid (fun (hc4 : 4 ≤ c - 12) => ipstr_fourx g (c - 12) 12 b0 b1 b2 b3 w c0 c1 c2 c3 hc4 (Nat.le_trans (Nat.sub_le _ _) hmax) (Nat.lt_of_lt_of_le b0.toNat_lt hK) (Nat.lt_of_lt_of_le b1.toNat_lt hK) (Nat.lt_of_lt_of_le b2.toNat_lt hK) (Nat.lt_of_lt_of_le b3.toNat_lt hK) ht)
  have hdl := dotted_length b0 b1 b2 b3
  obtain ⟨D, hD⟩ : ∃ D, D = dotted b0 b1 b2 b3 := ⟨_, rfl⟩
  rw [← hD] at H4 hdl
  have A1 : ∀ w, (Op.stringOp .add ⟨#[58, 58, 102, 102, 102, 102, 58]⟩ ⟨D.toArray⟩).run Tryz.prog w = .ok (.string ⟨([58, 58, 102, 102, 102, 102, 58] ++ D).toArray⟩) w := add_list (P := Tryz.prog) [58, 58, 102, 102, 102, 102, 58] D (by simp; omega)
  obtain ⟨T, hT⟩ : ∃ T, T = [58, 58, 102, 102, 102, 102, 58] ++ D := ⟨_, rfl⟩
  rw [← hT] at A1
  have HOK := Lib.hid (show V4 d → Txt6 d T from fun hv => Or.inr ⟨hv, by rw [hT, hD, hb0, hb1, hb2, hb3]⟩)
  have HMX := Lib.hid hmax
  clear h ht hmax h16 c0 c1 c2 c3 hb hD hT hb0 hb1 hb2 hb3
  go_enter Tryz.func175, Tryz.ntmps175
  go_wp2_with fail
  refine HT.out.mono ?_
  rintro e w1 ⟨⟨rfl, hv⟩ | ⟨rfl, hv⟩, rfl⟩
  · have HS := Lib.hid (ipstr_six g c d w H16.out hcap HMX.out hv)
    clear hv
    go_wp2_with fail
    refine HS.out.mono ?_
    rintro e w2 ⟨a, b, rfl, hrun, hb⟩
    have HB := Lib.hid hb
    have HTX := Lib.hid (Or.inl ⟨a, b, hrun, rfl⟩ : Txt6 d (txt6 d a b))
    generalize txt6 d a b = s at *
    clear hb hrun
    go_wp2_with fail
    go_ret2
    exact ⟨s, ⟨rfl, HB.out⟩, HTX.out⟩
  · have HV := Lib.hid (V4.of H16.out hv)
    go_wp2_with fail
    refine (H4.out (by omega)).mono ?_
    rintro e w2 ⟨rfl, hb⟩
    have HB := Lib.hid hb
    clear hb
    go_wp2_with fail
    go_ret2
    exact ⟨T, ⟨rfl, HB.out⟩, HOK.out HV.out⟩
end Go.Proofs.YthpcfnegfdcbjaaGreatDoor

/- zzDigit, zzFields4: an IPv4 address is read off its text. No condition. -/
namespace Go.Proofs.YthpcfnegfdcbjaaGreatDoor
open Go.RowKit
attribute [local go_sem ↓] Go.wp_at_zero Go.wp_at_succ
set_option maxHeartbeats 1000000 in
set_option maxRecDepth 100000 in
theorem digit_low (x : Nat) (hx : x < 10) (w : World) : Calls Tryz.prog 355 #[.int .u8 ((48 + x : Nat) : Int)] w fun e w' => e = .returned (.int .i64 x) ∧ w = w' := by
  have h1 : decide (48 ≤ ((48 + x : Nat) : Int)) = true := by simp; omega
  have h2 : decide (((48 + x : Nat) : Int) ≤ 57) = true := by simp; omega
  have h3 : IntKind.u8.wrap (((48 + x : Nat) : Int) - 48) = (x : Int) := by rw [IntKind.wrap_u8]; omega
  generalize ((48 + x : Nat) : Int) = c at *
  go_enter Tryz.func355, Tryz.ntmps355
  go_wp2_with fail
  go_ret
  exact ⟨rfl, rfl⟩
set_option maxHeartbeats 1000000 in
set_option maxRecDepth 100000 in
theorem digit_high (x : Nat) (hx : x < 6) (w : World) : Calls Tryz.prog 355 #[.int .u8 ((97 + x : Nat) : Int)] w fun e w' => e = .returned (.int .i64 ((x : Int) + 10)) ∧ w = w' := by
  have h1 : decide (48 ≤ ((97 + x : Nat) : Int)) = true := by simp; omega
  have h2 : decide (((97 + x : Nat) : Int) ≤ 57) = false := by simp; omega
  have h4 : decide (97 ≤ ((97 + x : Nat) : Int)) = true := by simp; omega
  have h5 : decide (((97 + x : Nat) : Int) ≤ 102) = true := by simp; omega
  have h3 : IntKind.u8.wrap (((97 + x : Nat) : Int) - 97) = (x : Int) := by rw [IntKind.wrap_u8]; omega
  generalize ((97 + x : Nat) : Int) = c at *
  go_enter Tryz.func355, Tryz.ntmps355
  go_wp2_with fail
  go_ret
  exact ⟨rfl, rfl⟩
set_option maxHeartbeats 1000000 in
set_option maxRecDepth 100000 in
theorem digit_none (c : Int) (hc : c = 58 ∨ c = 46) (w : World) : Calls Tryz.prog 355 #[.int .u8 c] w fun e w' => e = .returned (.int .i64 (-1)) ∧ w = w' := by
  rcases hc with rfl | rfl
  all_goals
    go_enter Tryz.func355, Tryz.ntmps355
    go_wp2_with fail
    go_ret
    exact ⟨rfl, rfl⟩
theorem hexd_nat (x : Nat) (hx : x < 16) : (hexd x).toNat = if x < 10 then 48 + x else 97 + (x - 10) := by
  unfold hexd
  split <;> simp <;> omega
theorem digit_x (x : Nat) (hx : x < 16) (w : World) : Calls Tryz.prog 355 #[.int .u8 (hexd x).toNat] w fun e w' => e = .returned (.int .i64 x) ∧ w = w' := by
  rw [hexd_nat x hx]
  by_cases h : x < 10
  · rw [if_pos h]
    exact digit_low x h w
  · rw [if_neg h]
    refine (digit_high (x - 10) (by omega) w).mono ?_
    rintro e w' ⟨rfl, rfl⟩
    exact ⟨by congr 2; omega, rfl⟩
/-- Cells set one after the other. -/
def setL (cs : Array Value) (o : Nat) : List UInt8 → Array Value
  | [] => cs
  | b :: l => setL (cs.setIfInBounds o (.int .u8 b.toNat)) (o + 1) l
theorem setL_snoc : ∀ (l : List UInt8) (cs : Array Value) (o : Nat) (b : UInt8), setL cs o (l ++ [b]) = (setL cs o l).setIfInBounds (o + l.length) (.int .u8 b.toNat)
  | [], _, _, _ => rfl
  | a :: l, cs, o, b => by
    show setL (cs.setIfInBounds o _) (o + 1) (l ++ [b]) = _
    rw [setL_snoc l, show o + 1 + l.length = o + (a :: l).length by simp; omega]
    rfl
theorem setL_size : ∀ (l : List UInt8) (cs : Array Value) (o : Nat), (setL cs o l).size = cs.size
  | [], _, _ => rfl
  | _ :: l, cs, o => by
    show (setL (cs.setIfInBounds o _) (o + 1) l).size = _
    rw [setL_size l]
    simp
/-- The numbers behind the first one, each with a dot ahead. -/
def restT : List UInt8 → List UInt8
  | [] => []
  | b :: bs => 46 :: (Lib.decDigits b.toNat ++ restT bs)
theorem dotted_rest (b0 b1 b2 b3 : UInt8) : dotted b0 b1 b2 b3 = [] ++ (Lib.decDigits b0.toNat ++ restT [b1, b2, b3]) := by simp [dotted, restT]
theorem dig_at (u j : Nat) (hj : j < Lib.nDigits u) : (Lib.decDigits u)[j]? = some (UInt8.ofNat (48 + u / 10 ^ (Lib.nDigits u - 1 - j) % 10)) := by
  rw [Lib.decDigits_eq]
  simp [hj, Lib.dg]
theorem dig_val (u n j : Nat) (hj : j < n) : u / 10 ^ (n - (j + 1)) = 10 * (u / 10 ^ (n - j)) + u / 10 ^ (n - 1 - j) % 10 := by
  have e1 : n - (j + 1) = n - 1 - j := by omega
  have e2 : n - j = (n - 1 - j) + 1 := by omega
  rw [e1, e2, Nat.pow_succ, ← Nat.div_div_eq_div_mul]
  omega
theorem nDigits_of (b : UInt8) : Lib.nDigits b.toNat = if b.toNat < 10 then 1 else if b.toNat < 100 then 2 else 3 := by
  have hb := b.toNat_lt
  split
  · rename_i h; exact Lib.nDigits_small h
  · rename_i h
    rw [Lib.nDigits_big h]
    split
    · rename_i h2; rw [Lib.nDigits_small (by omega)]
    · rename_i h2
      rw [Lib.nDigits_big (by omega), Lib.nDigits_small (by omega)]
theorem dig_first (b : UInt8) (h : 1 < Lib.nDigits b.toNat) : b.toNat / 10 ^ (Lib.nDigits b.toNat - 1) ≠ 0 := by
  rw [nDigits_of] at *
  split at h
  · omega
  · split at h
    · rename_i h1 h2
      rw [if_neg h1, if_pos h2]
      simp; omega
    · rename_i h1 h2
      rw [if_neg h1, if_neg h2]
      simp; omega
end Go.Proofs.YthpcfnegfdcbjaaGreatDoor

/- zzFields4: an IPv4 address is read off its text. No condition. -/
namespace Go.Proofs.YthpcfnegfdcbjaaGreatDoor
open Go.RowKit
attribute [local go_sem ↓] Go.wp_at_zero Go.wp_at_succ
theorem ba_get (S : List UInt8) (i : Nat) (x : UInt8) (h : S[i]? = some x) : ∀ h2 : i < (⟨S.toArray⟩ : ByteArray).size, (⟨S.toArray⟩ : ByteArray)[i]'h2 = x := fun h2 => by
  have hl : i < S.length := (List.getElem?_eq_some_iff.1 h).1
  have h3 : S[i] = x := (List.getElem?_eq_some_iff.1 h).2
  show (S.toArray)[i]'_ = x
  simpa using h3
theorem part_at (P D R : List UInt8) (j : Nat) (hj : j < D.length) : (P ++ (D ++ R))[P.length + j]? = D[j]? := by
  rw [List.getElem?_append_right (by omega), show P.length + j - P.length = j by omega, List.getElem?_append_left hj]
theorem part_end (P D R : List UInt8) (x : UInt8) : (P ++ (D ++ x :: R))[P.length + D.length]? = some x := by
  rw [List.getElem?_append_right (by omega), show P.length + D.length - P.length = D.length by omega, List.getElem?_append_right (by omega)]
  simp
set_option maxHeartbeats 4000000 in
set_option maxRecDepth 100000 in
theorem fields4_x (b0 b1 b2 b3 : UInt8) (g o n c B : Nat) (ty : TypeId) (cs : Array Value) (w : World) (h : Blk w g ty cs) (ho : o + 4 ≤ cs.size) (hn : 4 ≤ n) (_hnc : n ≤ c) (hc : c ≤ 1000) (hB : B ≤ g) (_hBw : B ≤ w.heap.size) :
    Calls Tryz.prog 304 #[.string ⟨(dotted b0 b1 b2 b3).toArray⟩, .slice (some ⟨g, o, none⟩) n c] w fun e w' => e = .returned (.bool true) ∧ Blk w' g ty (setL cs o [b0, b1, b2, b3]) ∧ Below B w w' := by
  obtain ⟨S, hS⟩ : ∃ S, S = dotted b0 b1 b2 b3 := ⟨_, rfl⟩
  have hSl : S.length ≤ 15 := by rw [hS]; exact dotted_length _ _ _ _
  have hsz := size_toArray S
  have HS := Lib.hid hS
  have HK := Lib.hid h
  rw [← hS]
  clear h hS
  go_enter Tryz.func304, Tryz.ntmps304
  go_wp2_with fail
  go_loopw [5, 6, 7, 8] (fun v p dg i wr => ∃ (P : List UInt8) (b : UInt8) (bs done : List UInt8) (j : Nat), S = P ++ (Lib.decDigits b.toNat ++ restT bs) ∧ i = .int .i64 ((P.length + j : Nat) : Int) ∧ j ≤ Lib.nDigits b.toNat ∧ done ++ b :: bs = [b0, b1, b2, b3] ∧ v = .int .i64 ((b.toNat / 10 ^ (Lib.nDigits b.toNat - j) : Nat) : Int) ∧ p = .int .i64 (done.length : Nat) ∧ dg = .int .i64 (j : Nat) ∧ Blk wr g ty (setL cs o done) ∧ Below B w wr) (fun _ _ _ i _ => 20 - (intOf i).toNat)
  case atStart => exact ⟨[], b0, [b1, b2, b3], [], 0, by rw [HS.out, dotted_rest], rfl, by omega, rfl, by
    have := Lib.lt_pow_nDigits b0.toNat
    rw [Nat.sub_zero, Nat.div_eq_of_lt this]; rfl, rfl, rfl, HK.out, Below.refl _ _⟩
  case round =>
    obtain ⟨P, b, bs, done, j, hSp, rfl, hj, hall, rfl, rfl, rfl, hkb, hb⟩ := hrel
    have hlen : S.length = P.length + (Lib.nDigits b.toNat + (restT bs).length) := by rw [hSp]; simp [Lib.decDigits_length]
    have hdl : done.length + (bs.length + 1) = 4 := by have := congrArg List.length hall; simpa using this
    obtain ⟨i, hi⟩ : ∃ i, i = P.length + j := ⟨_, rfl⟩
    rw [← hi]
    have HSP := Lib.hid hSp
    have HI := Lib.hid hi
    have HALL := Lib.hid hall
    have HKB := Lib.hid hkb
    have HBE := Lib.hid hb
    have hn3 : Lib.nDigits b.toNat ≤ 3 := nDigits_byte b
    have hn1 : 0 < Lib.nDigits b.toNat := by have := nDigits_of b; split at this <;> (try split at this) <;> omega
    have hDl : (Lib.decDigits b.toNat).length = Lib.nDigits b.toNat := Lib.decDigits_length _
    have hb255 := b.toNat_lt
    obtain ⟨V, hV⟩ : ∃ V, V = b.toNat / 10 ^ (Lib.nDigits b.toNat - j) := ⟨_, rfl⟩
    rw [← hV]
    have hVb : V ≤ b.toNat := by rw [hV]; exact Nat.div_le_self _ _
    have hc63 : c ≤ 9223372036854775807 := by omega
    by_cases hjn : j < Lib.nDigits b.toNat
    · have hlt : i < S.length := by omega
      have hx0 := part_at P (Lib.decDigits b.toNat) (restT bs) j (by omega)
      rw [← hSp, ← hi, dig_at _ _ hjn] at hx0
      obtain ⟨d, hd⟩ : ∃ d, d = b.toNat / 10 ^ (Lib.nDigits b.toNat - 1 - j) % 10 := ⟨_, rfl⟩
      rw [← hd] at hx0
      have hd10 : d < 10 := by omega
      obtain ⟨x, hx⟩ : ∃ x, x = UInt8.ofNat (48 + d) := ⟨_, rfl⟩
      rw [← hx] at hx0
      have hxn : x.toNat = 48 + d := by rw [hx]; simp; omega
      have hxg := ba_get S i x hx0
      have hnext := dig_val b.toNat (Lib.nDigits b.toNat) j hjn
      rw [← hV, ← hd] at hnext
      have hle : 10 * V + d ≤ b.toNat := by rw [← hnext]; exact Nat.div_le_self _ _
      have HNX := Lib.hid hnext
      have hz1 : IntKind.i64.wrap ((V : Int) * 10) = (V : Int) * 10 := by rw [IntKind.wrap_i64]; omega
      have hz2 : IntKind.i64.wrap ((V : Int) * 10 + (x.toNat : Int)) = (V : Int) * 10 + (x.toNat : Int) := by rw [IntKind.wrap_i64]; omega
      have hz3 : IntKind.i64.wrap ((V : Int) * 10 + (x.toNat : Int) - 48) = ((10 * V + d : Nat) : Int) := by rw [IntKind.wrap_i64]; omega
      have hq1 : decide (48 ≤ (x.toNat : Int)) = true := by simp; omega
      have hq2 : decide ((x.toNat : Int) ≤ 57) = true := by simp; omega
      have hq3 : decide (255 < ((10 * V + d : Nat) : Int)) = false := by simp; omega
      obtain ⟨V2, hV2⟩ : ∃ V2, V2 = 10 * V + d := ⟨_, rfl⟩
      rw [← hV2] at hz3 hq3 HNX
      have HV2 := Lib.hid hV2
      have hj1 : j = 1 → ¬ V = 0 := fun e h0 => by
        subst e
        exact dig_first b (by omega) (by rw [← hV]; exact h0)
      clear hSp hall hkb hb hi hlen hDl hd hx hnext hV hV2 hx0
      by_cases hj1' : j = 1
      · subst hj1'
        have hv0 : ((V : Int) == 0) = false := by have := hj1 rfl; simp; omega
        clear hj1
        go_wp2_with fail
        go_roundw
        case rel => exact ⟨P, b, bs, done, 1 + 1, HSP.out, by have := HI.out; congr 1; omega, by omega, HALL.out, by have h1 := HNX.out; have h2 := HV2.out; rw [h1]; congr 1; omega, rfl, rfl, HKB.out, HBE.out⟩
        case measure => simp [intOf]; omega
      · have hj1'' : ((j : Int) == 1) = false := by simp; omega
        clear hj1
        go_wp2_with fail
        go_roundw
        case rel => exact ⟨P, b, bs, done, j + 1, HSP.out, by have := HI.out; congr 1; omega, by omega, HALL.out, by have h1 := HNX.out; have h2 := HV2.out; rw [h1]; congr 1; omega, rfl, by go_num, HKB.out, HBE.out⟩
        case measure => simp [intOf]; omega
    · obtain rfl : j = Lib.nDigits b.toNat := by omega
      have hVe : V = b.toNat := by rw [hV, Nat.sub_self]; simp
      rcases bs with _ | ⟨b', bs'⟩
      · have hil : i = S.length := by simp [restT] at hlen; omega
        have hdl3 : done.length = 3 := by simpa using hdl
        have HFIN := Lib.hid (show setL cs o [b0, b1, b2, b3] = (setL cs o done).setIfInBounds (o + 3) (.int .u8 b.toNat) by rw [← hall, setL_snoc, hdl3])
        have hcell : wr.cell? ⟨g, o + 3, none⟩ = some ((setL cs o done)[o + 3]'(by rw [setL_size]; omega)) := by rw [hkb.cell (o + 3)]; exact Array.getElem?_eq_getElem _
        have hfro : wr.frozen? ⟨g, o + 3, none⟩ = false := hkb.frozen (o + 3)
        have HST := Lib.hid (hkb.set_ (o + 3) (.int .u8 b.toNat))
        have hzz : IntKind.u8.wrap (b.toNat : Int) = (b.toNat : Int) := by rw [IntKind.wrap_u8]; omega
        have h3n : 3 < n := by omega
        subst hVe
        rw [hdl3]
        clear hSp hall hkb hb hi hlen hDl hdl hV
        go_wp2_with fail
        go_ret
        exact ⟨rfl, by rw [HFIN.out]; exact HST.out, HBE.out.setCell (p := ⟨g, o + 3, none⟩) hB _⟩
      · have hlt : i < S.length := by simp [restT] at hlen; omega
        have hx0 := part_end P (Lib.decDigits b.toNat) (Lib.decDigits b'.toNat ++ restT bs') 46
        have hSp' : S = P ++ (Lib.decDigits b.toNat ++ 46 :: (Lib.decDigits b'.toNat ++ restT bs')) := hSp
        rw [← hSp', hDl, ← hi] at hx0
        have hxg := ba_get S i 46 hx0
        have hy0 := part_at P (Lib.decDigits b.toNat) (restT (b' :: bs')) (Lib.nDigits b.toNat - 1) (by omega)
        rw [← hSp, dig_at _ _ (by omega)] at hy0
        obtain ⟨k, hk⟩ : ∃ k, k = P.length + (Lib.nDigits b.toNat - 1) := ⟨_, rfl⟩
        rw [← hk] at hy0
        obtain ⟨d, hd⟩ : ∃ d, d = b.toNat / 10 ^ (Lib.nDigits b.toNat - 1 - (Lib.nDigits b.toNat - 1)) % 10 := ⟨_, rfl⟩
        rw [← hd] at hy0
        have hd10 : d < 10 := by omega
        obtain ⟨y, hy⟩ : ∃ y, y = UInt8.ofNat (48 + d) := ⟨_, rfl⟩
        rw [← hy] at hy0
        have hyn : y.toNat = 48 + d := by rw [hy]; simp; omega
        have hyg := ba_get S k y hy0
        have hki : IntKind.i64.wrap ((i : Int) - 1) = (k : Int) := by rw [IntKind.wrap_i64]; omega
        have hkS : k < S.length := by omega
        have hll : IntKind.i64.wrap ((S.length : Int) - 1) = ((S.length - 1 : Nat) : Int) := by rw [IntKind.wrap_i64]; omega
        have hn1' : 0 < Lib.nDigits b'.toNat := by have := nDigits_of b'; split at this <;> (try split at this) <;> omega
        have hq0 : ((i : Int) == 0) = false := by simp; omega
        have hq1 : ((i : Int) == ((S.length - 1 : Nat) : Int)) = false := by
          have : S.length = P.length + (Lib.nDigits b.toNat + (1 + (Lib.nDigits b'.toNat + (restT bs').length))) := by rw [hSp']; simp [Lib.decDigits_length]; omega
          simp; omega
        have hq2 : ((y.toNat : Int) == 46) = false := by simp; omega
        have hdl2 : done.length + (bs'.length + 2) = 4 := by simpa using hdl
        have hq3 : ((done.length : Int) == 3) = false := by simp; omega
        have hdn : done.length < n := by omega
        have hcell : wr.cell? ⟨g, o + done.length, none⟩ = some ((setL cs o done)[o + done.length]'(by rw [setL_size]; omega)) := by rw [hkb.cell (o + done.length)]; exact Array.getElem?_eq_getElem _
        have hfro : wr.frozen? ⟨g, o + done.length, none⟩ = false := hkb.frozen (o + done.length)
        have hzz : IntKind.u8.wrap (b.toNat : Int) = (b.toNat : Int) := by rw [IntKind.wrap_u8]; omega
        have hst := hkb.set_ (o + done.length) (.int .u8 b.toNat)
        rw [← setL_snoc] at hst
        have HST := Lib.hid hst
        have HV0 := Lib.hid (show ((b'.toNat / 10 ^ (Lib.nDigits b'.toNat - 0) : Nat) : Int) = 0 by
          have := Lib.lt_pow_nDigits b'.toNat
          rw [Nat.sub_zero, Nat.div_eq_of_lt this]; rfl)
        have HSN := Lib.hid (show S = (P ++ (Lib.decDigits b.toNat ++ [46])) ++ (Lib.decDigits b'.toNat ++ restT bs') by rw [hSp']; simp)
        have HAN := Lib.hid (show (done ++ [b]) ++ b' :: bs' = [b0, b1, b2, b3] by rw [← hall]; simp)
        have HIN := Lib.hid (show i + 1 = (P ++ (Lib.decDigits b.toNat ++ [46])).length + 0 by simp [Lib.decDigits_length]; omega)
        subst hVe
        clear hSp hSp' hall hkb hb hi hlen hDl hV hst hx0 hy0 hy hd hk HI HSP
        go_wp2_with fail
        go_roundw
        case rel => exact ⟨P ++ (Lib.decDigits b.toNat ++ [46]), b', bs', done ++ [b], 0, HSN.out, by rw [← HIN.out]; go_num, by omega, HAN.out, by rw [HV0.out], by simp, rfl, HST.out, HBE.out.setCell (p := ⟨g, o + done.length, none⟩) hB _⟩
        case measure => simp [intOf]; omega
end Go.Proofs.YthpcfnegfdcbjaaGreatDoor

/- How the text of an IPv6 address is read, step by step: in lists. No condition. -/
namespace Go.Proofs.YthpcfnegfdcbjaaGreatDoor
open Go.RowKit
/-- The digits of a group, their value. -/
def hexL (n : Nat) : List Nat := if _h : n < 16 then [n] else hexL (n / 16) ++ [n % 16]
def hv (xs : List Nat) : Nat := xs.foldl (fun a x => a * 16 + x) 0
theorem hv_snoc (xs : List Nat) (x : Nat) : hv (xs ++ [x]) = hv xs * 16 + x := by simp [hv]
theorem hexT_map (n : Nat) : hexT n = (hexL n).map hexd := by
  induction n using Nat.strongRecOn with
  | _ n ih =>
    rw [hexT, hexL]
    split
    · rfl
    · rw [List.map_append, ih (n / 16) (by omega)]; rfl
theorem hexL_val (n : Nat) : hv (hexL n) = n := by
  induction n using Nat.strongRecOn with
  | _ n ih =>
    rw [hexL]
    split
    · simp [hv]
    · rw [hv_snoc, ih (n / 16) (by omega)]; omega
theorem hexL_lt (n : Nat) : ∀ x ∈ hexL n, x < 16 := by
  induction n using Nat.strongRecOn with
  | _ n ih =>
    rw [hexL]
    split
    · intro x hx; simp at hx; omega
    · intro x hx
      rw [List.mem_append, List.mem_singleton] at hx
      rcases hx with hx | hx
      · exact ih (n / 16) (by omega) x hx
      · omega
theorem hexL_length (n : Nat) : (hexL n).length = (hexT n).length := by rw [hexT_map, List.length_map]
theorem hexd_dig (x : Nat) (hx : x < 10) : hexd x = UInt8.ofNat (48 + x) := by unfold hexd; rw [if_pos hx]
theorem dec_map (u : Nat) : ∃ xs : List Nat, Lib.decDigits u = xs.map hexd ∧ (∀ x ∈ xs, x < 16) ∧ xs.length = Lib.nDigits u := by
  refine ⟨(List.range (Lib.nDigits u)).map fun t => u / 10 ^ (Lib.nDigits u - 1 - t) % 10, ?_, fun x hx => ?_, by simp⟩
  · rw [Lib.decDigits_eq, List.map_map]
    apply List.map_congr_left
    intro t _
    rw [Function.comp_apply, hexd_dig _ (by omega)]
    rfl
  · obtain ⟨t, _, rfl⟩ := List.mem_map.1 hx
    omega
def gb (n : Nat) : List UInt8 := [UInt8.ofNat (n / 256), UInt8.ofNat (n % 256)]
def zs (k : Nat) : List UInt8 := List.replicate k 0
/-- What is read, where all has been read. -/
def Fin6 (T D : List UInt8) : Option Nat → Prop
  | none => D.length = 16 ∧ T = D
  | some e => e ≤ D.length ∧ D.length < 16 ∧ T = D.take e ++ zs (16 - D.length) ++ D.drop e
/-- A text that stands behind bytes D already read leads to T; ell is where zeros were left out. -/
inductive P6 (T : List UInt8) : List UInt8 → Option Nat → List UInt8 → Prop
  | lastG {D : List UInt8} {ell : Option Nat} {n : Nat} : n < 65536 → D.length + 2 ≤ 16 → Fin6 T (D ++ gb n) ell → P6 T D ell (hexT n)
  | more {D : List UInt8} {ell : Option Nat} {n : Nat} {s : List UInt8} : n < 65536 → D.length + 2 ≤ 16 → P6 T (D ++ gb n) ell s → P6 T D ell (hexT n ++ 58 :: s)
  | ellMid {D : List UInt8} {n : Nat} {s : List UInt8} : n < 65536 → D.length + 2 ≤ 16 → P6 T (D ++ gb n) (some (D.length + 2)) s → P6 T D none (hexT n ++ 58 :: 58 :: s)
  | ellEnd {D : List UInt8} {n : Nat} : n < 65536 → D.length + 2 ≤ 16 → Fin6 T (D ++ gb n) (some (D.length + 2)) → P6 T D none (hexT n ++ [58, 58])
  | quad {D : List UInt8} {e : Nat} {b0 b1 b2 b3 : UInt8} : D.length + 4 ≤ 16 → Fin6 T (D ++ [b0, b1, b2, b3]) (some e) → P6 T D (some e) (dotted b0 b1 b2 b3)
def Start6 (T s : List UInt8) : Prop := P6 T [] none s ∨ ∃ s', s = 58 :: 58 :: s' ∧ (P6 T [] (some 0) s' ∨ s' = [] ∧ T = zs 16)
theorem hexd_ne (x : Nat) (hx : x < 16) : hexd x ≠ 58 ∧ hexd x ≠ 46 := by
  have := hexd_nat x hx
  refine ⟨fun e => ?_, fun e => ?_⟩
  · rw [e] at this; simp at this; split at this <;> omega
  · rw [e] at this; simp at this; split at this <;> omega
theorem hexT_head (n : Nat) : ∃ c r, hexT n = c :: r ∧ c ≠ 58 := by
  have hp := hexT_pos n
  rcases hh : hexT n with _ | ⟨c, r⟩
  · rw [hh] at hp; simp at hp
  · refine ⟨c, r, rfl, ?_⟩
    rw [hexT_map] at hh
    rcases hl : hexL n with _ | ⟨x, xs⟩
    · rw [hl] at hh; simp at hh
    · rw [hl] at hh
      injection hh with h1 h2
      rw [← h1]
      exact (hexd_ne x (hexL_lt n x (by rw [hl]; simp))).1
theorem dotted_head (b0 b1 b2 b3 : UInt8) : ∃ c r, dotted b0 b1 b2 b3 = c :: r ∧ c ≠ 58 := by
  obtain ⟨xs, h1, h2, h3⟩ := dec_map b0.toNat
  have hn : 0 < xs.length := by rw [h3]; have := nDigits_of b0; split at this <;> (try split at this) <;> omega
  rcases xs with _ | ⟨x, xs⟩
  · simp at hn
  · refine ⟨hexd x, xs.map hexd ++ restT [b1, b2, b3], by rw [dotted_rest, h1]; rfl, (hexd_ne x (h2 x (by simp))).1⟩
theorem P6.head {T D : List UInt8} {ell : Option Nat} {s : List UInt8} (h : P6 T D ell s) : ∃ c r, s = c :: r ∧ c ≠ 58 := by
  cases h with
  | lastG => exact hexT_head _
  | more => rename_i n s h1 _ _; obtain ⟨c, r, e, hc⟩ := hexT_head n; exact ⟨c, _, by rw [e]; rfl, hc⟩
  | ellMid => rename_i n s h1 _ _; obtain ⟨c, r, e, hc⟩ := hexT_head n; exact ⟨c, _, by rw [e]; rfl, hc⟩
  | ellEnd => rename_i n h1 _ _; obtain ⟨c, r, e, hc⟩ := hexT_head n; exact ⟨c, _, by rw [e]; rfl, hc⟩
  | quad => exact dotted_head _ _ _ _
/-- The bytes of a group. -/
theorem grp_bytes {d : List UInt8} (hd : d.length = 16) (k : Nat) (hk : k < 8) : d.take (2 * k) ++ gb (grpN d k) = d.take (2 * (k + 1)) := by
  have h0 : 2 * k < d.length := by omega
  have h1 : 2 * k + 1 < d.length := by omega
  have e0 : d.getD (2 * k) 0 = d[2 * k] := by rw [List.getD_eq_getElem?_getD, List.getElem?_eq_getElem h0]; rfl
  have e1 : d.getD (2 * k + 1) 0 = d[2 * k + 1] := by rw [List.getD_eq_getElem?_getD, List.getElem?_eq_getElem h1]; rfl
  have hg : gb (grpN d k) = [d[2 * k], d[2 * k + 1]] := by
    unfold gb grpN
    rw [e0, e1]
    have x0 := (d[2 * k]).toNat_lt
    have x1 := (d[2 * k + 1]).toNat_lt
    rw [show ((d[2 * k]).toNat * 256 + (d[2 * k + 1]).toNat) / 256 = (d[2 * k]).toNat by omega, show ((d[2 * k]).toNat * 256 + (d[2 * k + 1]).toNat) % 256 = (d[2 * k + 1]).toNat by omega]
    simp
  rw [hg, show 2 * (k + 1) = 2 * k + 1 + 1 by omega, List.take_succ_eq_append_getElem h1, List.take_succ_eq_append_getElem h0, List.append_assoc]
  rfl
theorem grps_cons (d : List UInt8) (i j : Nat) (h : i < j) : grps d i j = grpN d i :: grps d (i + 1) j := by
  unfold grps
  rw [show j - i = (j - (i + 1)) + 1 by omega, List.range'_succ, List.map_cons]
theorem joinC_cons (d : List UInt8) (i j : Nat) (h : i + 1 < j) : joinC (grps d i j) = hexT (grpN d i) ++ 58 :: joinC (grps d (i + 1) j) := by
  rw [grps_cons d i j (by omega), grps_cons d (i + 1) j h]
  rfl
theorem joinC_last (d : List UInt8) (i : Nat) : joinC (grps d i (i + 1)) = hexT (grpN d i) := by
  rw [grps_cons d i (i + 1) (by omega), grps_nil]
  rfl
theorem p6_full {d : List UInt8} (hd : d.length = 16) : ∀ m k, k + m + 1 = 8 → P6 d (d.take (2 * k)) none (joinC (grps d k 8))
  | 0, k, h => by
    obtain rfl : k = 7 := by omega
    rw [show (8 : Nat) = 7 + 1 from rfl, joinC_last]
    refine .lastG (grpN_lt d 7) (by simp; omega) ?_
    rw [grp_bytes hd 7 (by omega)]
    exact ⟨by simp; omega, (List.take_of_length_le (by omega)).symm⟩
  | m + 1, k, h => by
    rw [joinC_cons d k 8 (by omega)]
    refine .more (grpN_lt d k) (by simp; omega) ?_
    rw [grp_bytes hd k (by omega)]
    exact p6_full hd m (k + 1) (by omega)
theorem take_mid {d : List UInt8} (b k : Nat) (h : b ≤ k) (hd : d.length = 16) (hk : k < 8) : (d.drop (2 * b)).take (2 * (k - b)) ++ gb (grpN d k) = (d.drop (2 * b)).take (2 * (k + 1 - b)) := by
  have h1 := grp_bytes hd k hk
  have h2 : ∀ m, b ≤ m → (d.drop (2 * b)).take (2 * (m - b)) = (d.take (2 * m)).drop (2 * b) := fun m hm => by
    rw [List.drop_take, show 2 * m - 2 * b = 2 * (m - b) by omega]
  rw [h2 k h, h2 (k + 1) (by omega), ← h1, List.drop_append_of_le_length (by simp; omega)]
theorem p6_post {d : List UInt8} (hd : d.length = 16) {a b : Nat} (hab : a + 2 ≤ b) (hF : Fin6 d (d.take (2 * a) ++ d.drop (2 * b)) (some (2 * a))) : ∀ m k, k + m + 1 = 8 → b ≤ k → P6 d (d.take (2 * a) ++ (d.drop (2 * b)).take (2 * (k - b))) (some (2 * a)) (joinC (grps d k 8))
  | 0, k, h, hb => by
    obtain rfl : k = 7 := by omega
    rw [show (8 : Nat) = 7 + 1 from rfl, joinC_last]
    refine .lastG (grpN_lt d 7) (by simp; omega) ?_
    have hT : (d.drop (2 * b)).take (2 * (7 + 1 - b)) = d.drop (2 * b) := List.take_of_length_le (by rw [List.length_drop]; omega)
    rw [List.append_assoc, take_mid b 7 hb hd (by omega), hT]
    exact hF
  | m + 1, k, h, hb => by
    rw [joinC_cons d k 8 (by omega)]
    refine .more (grpN_lt d k) (by simp; omega) ?_
    rw [List.append_assoc, take_mid b k hb hd (by omega)]
    exact p6_post hd hab hF m (k + 1) (by omega) (by omega)
theorem p6_pre {d : List UInt8} (hd : d.length = 16) {a b : Nat} (hab : a + 2 ≤ b) (hb8 : b ≤ 8) (hF : Fin6 d (d.take (2 * a) ++ d.drop (2 * b)) (some (2 * a))) : ∀ m k, k + m + 1 = a → P6 d (d.take (2 * k)) none (joinC (grps d k a) ++ 58 :: 58 :: joinC (grps d b 8))
  | 0, k, h => by
    obtain rfl : a = k + 1 := by omega
    rw [joinC_last]
    by_cases h8 : b = 8
    · subst h8
      rw [grps_nil]
      refine .ellEnd (grpN_lt d k) (by simp; omega) ?_
      rw [grp_bytes hd k (by omega)]
      have e1 : (d.take (2 * k)).length + 2 = 2 * (k + 1) := by simp; omega
      rw [e1]
      rwa [List.drop_of_length_le (by omega), List.append_nil] at hF
    · refine .ellMid (grpN_lt d k) (by simp; omega) ?_
      rw [grp_bytes hd k (by omega)]
      have e1 : (d.take (2 * k)).length + 2 = 2 * (k + 1) := by simp; omega
      rw [e1]
      have := p6_post hd hab hF (7 - b) b (by omega) (by omega)
      rwa [Nat.sub_self, Nat.mul_zero, List.take_zero, List.append_nil] at this
  | m + 1, k, h => by
    rw [joinC_cons d k a (by omega)]
    rw [List.append_assoc]
    refine .more (grpN_lt d k) (by simp; omega) ?_
    rw [grp_bytes hd k (by omega)]
    exact p6_pre hd hab hb8 hF m (k + 1) (by omega)
theorem zero_mid {d : List UInt8} (hd : d.length = 16) {a b : Nat} (hab : a ≤ b) (hb : b ≤ 8) (hz : Zer d a b) : d = d.take (2 * a) ++ zs (2 * b - 2 * a) ++ d.drop (2 * b) := by
  have h1 : d.drop (2 * a) = zs (2 * b - 2 * a) ++ d.drop (2 * b) := by
    apply List.ext_getElem?
    intro i
    by_cases hi : i < 2 * b - 2 * a
    · rw [List.getElem?_append_left (by simpa [zs] using hi), List.getElem?_drop, List.getElem?_eq_getElem (by omega)]
      simp only [zs, List.getElem?_replicate, hi, if_true]
      have hg := hz ((2 * a + i) / 2) (by omega) (by omega)
      have hk : 2 * ((2 * a + i) / 2) + 1 < d.length := by omega
      unfold grpN at hg
      rw [List.getD_eq_getElem?_getD, List.getD_eq_getElem?_getD, List.getElem?_eq_getElem (by omega), List.getElem?_eq_getElem hk] at hg
      simp only [Option.getD_some] at hg
      have hor : 2 * a + i = 2 * ((2 * a + i) / 2) ∨ 2 * a + i = 2 * ((2 * a + i) / 2) + 1 := by omega
      apply congrArg some
      apply UInt8.toNat_inj.1
      rcases hor with e | e
      · have : d[2 * a + i]'(by omega) = d[2 * ((2 * a + i) / 2)]'(by omega) := by congr 1
        rw [this]; show _ = 0; omega
      · have : d[2 * a + i]'(by omega) = d[2 * ((2 * a + i) / 2) + 1]'hk := by congr 1
        rw [this]; show _ = 0; omega
    · rw [List.getElem?_append_right (by simp [zs]; omega), List.getElem?_drop, List.getElem?_drop]
      congr 1
      simp [zs]
      omega
  rw [List.append_assoc, ← h1, List.take_append_drop]
theorem start_txt6 {d : List UInt8} (hd : d.length = 16) {a b : Nat} (hr : Run d a b) : Start6 d (txt6 d a b) := by
  unfold txt6
  rcases hr with ⟨rfl, rfl⟩ | ⟨hab, hb8, hz⟩
  · rw [if_pos rfl]
    exact .inl (by simpa using p6_full hd 7 0 (by omega))
  · rw [if_neg (by omega)]
    have hF : Fin6 d (d.take (2 * a) ++ d.drop (2 * b)) (some (2 * a)) := by
      have hl : (d.take (2 * a)).length = 2 * a := by simp; omega
      have hl2 : (d.take (2 * a) ++ d.drop (2 * b)).length = 2 * a + (16 - 2 * b) := by simp; omega
      refine ⟨by omega, by omega, ?_⟩
      rw [hl2, List.take_append_of_le_length (by omega), List.take_take, Nat.min_self, List.drop_append_of_le_length (by omega), List.drop_of_length_le (by omega), List.nil_append, show 16 - (2 * a + (16 - 2 * b)) = 2 * b - 2 * a by omega]
      exact zero_mid hd (by omega) hb8 hz
    by_cases ha : a = 0
    · subst ha
      refine .inr ⟨joinC (grps d b 8), by simp [grps, joinC], ?_⟩
      by_cases h8 : b = 8
      · subst h8
        refine .inr ⟨by simp [grps, joinC], ?_⟩
        have := zero_mid hd (Nat.zero_le 8) (Nat.le_refl _) hz
        simpa [List.drop_of_length_le (show d.length ≤ 16 by omega)] using this
      · have := p6_post hd hab hF (7 - b) b (by omega) (by omega)
        exact .inl (by simpa using this)
    · exact .inl (by simpa using p6_pre hd hab hb8 hF (a - 1) 0 (by omega))
theorem hexT_big (n q r : Nat) (h : n = 16 * q + r) (hr : r < 16) (hq : 0 < q) : hexT n = hexT q ++ [hexd r] := by
  rw [hexT_step, show n / 16 = q by omega, show n % 16 = r by omega, if_pos hq]
theorem hexT_ffff : hexT 65535 = [102, 102, 102, 102] := by
  have h0 : hexd 15 = 102 := by rfl
  have h1 : hexT 15 = [102] := by rw [hexT, dif_pos (by omega), h0]
  rw [hexT_big 65535 4095 15 (by omega) (by omega) (by omega), hexT_big 4095 255 15 (by omega) (by omega) (by omega), hexT_big 255 15 15 (by omega) (by omega) (by omega), h1, h0]
  rfl
theorem start_v4 {d : List UInt8} (hd : d.length = 16) (h : V4 d) : Start6 d ([58, 58, 102, 102, 102, 102, 58] ++ dotted (d.getD 12 0) (d.getD 13 0) (d.getD 14 0) (d.getD 15 0)) := by
  refine .inr ⟨hexT 65535 ++ 58 :: dotted (d.getD 12 0) (d.getD 13 0) (d.getD 14 0) (d.getD 15 0), by rw [hexT_ffff]; rfl, .inl (.more (by omega) (by decide) ?_)⟩
  refine .quad (by simp [gb]) ?_
  refine ⟨by omega, by simp [gb], ?_⟩
  apply List.ext_getElem?
  intro i
  by_cases hi : i < 16
  · rw [List.getElem?_eq_getElem (by omega)]
    have hg : ∀ k (hk : k < 16), d.getD k 0 = d[k]'(by omega) := fun k hk => by rw [List.getD_eq_getElem?_getD, List.getElem?_eq_getElem (by omega)]; rfl
    have h0 : ∀ j (hj : j < 10), d[j]'(by omega) = 0 := fun j hj => by have := h.1 j hj; rw [List.getElem?_eq_getElem (by omega)] at this; simpa using this
    have h10 : d[10]'(by omega) = 255 := by have := h.2.1; rw [List.getElem?_eq_getElem (by omega)] at this; simpa using this
    have h11 : d[11]'(by omega) = 255 := by have := h.2.2; rw [List.getElem?_eq_getElem (by omega)] at this; simpa using this
    simp only [gb, zs, hg 12 (by omega), hg 13 (by omega), hg 14 (by omega), hg 15 (by omega)]
    have hcases : i < 10 ∨ i = 10 ∨ i = 11 ∨ i = 12 ∨ i = 13 ∨ i = 14 ∨ i = 15 := by omega
    rcases hcases with h1 | rfl | rfl | rfl | rfl | rfl | rfl
    · rw [h0 i h1]
      clear hi
      match i, h1 with
      | 0, _ | 1, _ | 2, _ | 3, _ | 4, _ | 5, _ | 6, _ | 7, _ | 8, _ | 9, _ => rfl
      | n + 10, h => omega
    · rw [h10]; rfl
    · rw [h11]; rfl
    all_goals rfl
  · rw [List.getElem?_eq_none (by omega), List.getElem?_eq_none (by simp [gb, zs]; omega)]
theorem start_of {d s : List UInt8} (hd : d.length = 16) (h : Txt6 d s) : Start6 d s := by
  rcases h with ⟨a, b, hr, rfl⟩ | ⟨hv, rfl⟩
  · exact start_txt6 hd hr
  · exact start_v4 hd hv
end Go.Proofs.YthpcfnegfdcbjaaGreatDoor
