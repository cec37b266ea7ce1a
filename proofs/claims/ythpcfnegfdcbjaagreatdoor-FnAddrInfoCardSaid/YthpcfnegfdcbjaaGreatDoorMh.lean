/- zzParse6: an IPv6 address is read off its text. No condition. -/
import Derived.Test.YthpcfnegfdcbjaaGreatDoorMg
import Derived.Laws.Tables
import Derived.Deep.Cut
namespace Go.Proofs.YthpcfnegfdcbjaaGreatDoor
open Go.RowKit
attribute [local go_sem ↓] Go.wp_at_zero Go.wp_at_succ
theorem hv_lt (xs : List Nat) (h : ∀ x ∈ xs, x < 16) (hl : xs.length ≤ 4) : hv xs < 65536 := by
  rcases xs with _ | ⟨a, _ | ⟨b, _ | ⟨c, _ | ⟨d, _ | ⟨e, xs⟩⟩⟩⟩⟩
  · simp [hv]
  · have := h a (by simp); simp [hv] <;> omega
  · have := h a (by simp); have := h b (by simp); simp [hv] <;> omega
  · have := h a (by simp); have := h b (by simp); have := h c (by simp); simp [hv] <;> omega
  · have := h a (by simp); have := h b (by simp); have := h c (by simp); have := h d (by simp); simp [hv] <;> omega
  · simp at hl
theorem P6.form {T D : List UInt8} {ell : Option Nat} {s : List UInt8} (h : P6 T D ell s) : D.length + 2 ≤ 16 ∧ ∃ (xs : List Nat) (R : List UInt8), s = xs.map hexd ++ R ∧ 0 < xs.length ∧ xs.length ≤ 4 ∧ (∀ x ∈ xs, x < 16) ∧
    ((R = [] ∧ hv xs < 65536 ∧ Fin6 T (D ++ gb (hv xs)) ell) ∨ (∃ c s', R = 58 :: c :: s' ∧ c ≠ 58 ∧ hv xs < 65536 ∧ P6 T (D ++ gb (hv xs)) ell (c :: s')) ∨ (∃ c s', R = 58 :: 58 :: c :: s' ∧ hv xs < 65536 ∧ ell = none ∧ P6 T (D ++ gb (hv xs)) (some (D.length + 2)) (c :: s')) ∨
     (R = [58, 58] ∧ hv xs < 65536 ∧ ell = none ∧ Fin6 T (D ++ gb (hv xs)) (some (D.length + 2))) ∨ (∃ b0 b1 b2 b3 e R', R = 46 :: R' ∧ hv xs < 65536 ∧ s = dotted b0 b1 b2 b3 ∧ ell = some e ∧ D.length + 4 ≤ 16 ∧ Fin6 T (D ++ [b0, b1, b2, b3]) (some e))) := by
  cases h with
  | lastG h1 h2 h3 =>
    rename_i n
    refine ⟨h2, hexL n, [], by rw [hexT_map, List.append_nil], by rw [hexL_length]; exact hexT_pos n, by rw [hexL_length]; exact hexT_le n h1, hexL_lt n, .inl ⟨rfl, by rw [hexL_val]; exact h1, by rw [hexL_val]; exact h3⟩⟩
  | more h1 h2 h3 =>
    rename_i n s'
    obtain ⟨c, r, rfl, hc⟩ := h3.head
    refine ⟨h2, hexL n, 58 :: c :: r, by rw [hexT_map], by rw [hexL_length]; exact hexT_pos n, by rw [hexL_length]; exact hexT_le n h1, hexL_lt n, .inr (.inl ⟨c, r, rfl, hc, by rw [hexL_val]; exact h1, by rw [hexL_val]; exact h3⟩)⟩
  | ellMid h1 h2 h3 =>
    rename_i n s'
    obtain ⟨c, r, rfl, hc⟩ := h3.head
    refine ⟨h2, hexL n, 58 :: 58 :: c :: r, by rw [hexT_map], by rw [hexL_length]; exact hexT_pos n, by rw [hexL_length]; exact hexT_le n h1, hexL_lt n, .inr (.inr (.inl ⟨c, r, rfl, by rw [hexL_val]; exact h1, rfl, by rw [hexL_val]; exact h3⟩))⟩
  | ellEnd h1 h2 h3 =>
    rename_i n
    refine ⟨h2, hexL n, [58, 58], by rw [hexT_map], by rw [hexL_length]; exact hexT_pos n, by rw [hexL_length]; exact hexT_le n h1, hexL_lt n, .inr (.inr (.inr (.inl ⟨rfl, by rw [hexL_val]; exact h1, rfl, by rw [hexL_val]; exact h3⟩)))⟩
  | quad h1 h2 =>
    rename_i e b0 b1 b2 b3
    obtain ⟨xs, e1, e2, e3⟩ := dec_map b0.toNat
    have hn : 0 < xs.length ∧ xs.length ≤ 3 := by rw [e3]; have := nDigits_of b0; split at this <;> (try split at this) <;> omega
    refine ⟨by omega, xs, 46 :: (Lib.decDigits b1.toNat ++ restT [b2, b3]), by rw [dotted_rest, e1]; rfl, hn.1, by omega, e2, .inr (.inr (.inr (.inr ⟨b0, b1, b2, b3, e, _, rfl, ?_, rfl, rfl, h1, h2⟩)))⟩
    exact hv_lt xs e2 (by omega)
/-- What is read so far, zeros behind. -/
def pad (D : List UInt8) : List UInt8 := D ++ zs (16 - D.length)
theorem pad_length (D : List UInt8) (h : D.length ≤ 16) : (pad D).length = 16 := by simp [pad, zs]; omega
theorem bv_setm (L : List UInt8) (i : Nat) (x : UInt8) : (bv L).toArray.setIfInBounds i (.int .u8 x.toNat) = (bv (L.set i x)).toArray := by
  rw [List.setIfInBounds_toArray]
  unfold bv
  rw [List.map_set]
theorem pad_one (D : List UInt8) (x : UInt8) (h : D.length < 16) : (pad D).set D.length x = pad (D ++ [x]) := by
  unfold pad zs
  rw [List.set_append_right _ _ (by omega), Nat.sub_self, show 16 - D.length = (16 - (D ++ [x]).length) + 1 by simp; omega, List.replicate_succ, List.set_cons_zero]
  simp
theorem setL_pad : ∀ (l D : List UInt8), D.length + l.length ≤ 16 → setL (bv (pad D)).toArray D.length l = (bv (pad (D ++ l))).toArray
  | [], D, _ => by simp [setL]
  | x :: l, D, h => by
    simp only [List.length_cons] at h
    show setL ((bv (pad D)).toArray.setIfInBounds D.length (.int .u8 x.toNat)) (D.length + 1) l = _
    rw [bv_setm, pad_one D x (by omega), show D.length + 1 = (D ++ [x]).length by simp, setL_pad l (D ++ [x]) (by simp; omega)]
    simp
theorem pad_full {T : List UInt8} (h : T.length = 16) : pad T = T := by simp [pad, h, zs]
/-- The end of D moved up, from place m on. -/
def shf (D : List UInt8) (m : Nat) : List UInt8 := (pad D).take (m + (16 - D.length)) ++ D.drop m
theorem shf_length {D : List UInt8} (h : D.length ≤ 16) {m : Nat} (hm : m ≤ D.length) : (shf D m).length = 16 := by simp [shf, pad_length D h]; omega
theorem shf_top {D : List UInt8} (h : D.length ≤ 16) : shf D D.length = pad D := by
  unfold shf
  rw [List.drop_of_length_le (Nat.le_refl _), List.append_nil, List.take_of_length_le (by rw [pad_length D h]; omega)]
theorem shf_get {D : List UInt8} (h : D.length ≤ 16) {m k : Nat} (hm : m ≤ D.length) (hk : k < m) : (shf D m)[k]? = some (D[k]'(by omega)) := by
  unfold shf
  rw [List.getElem?_append_left (by simp [pad_length D h]; omega), List.getElem?_take_of_lt (by omega)]
  unfold pad
  rw [List.getElem?_append_left (by omega), List.getElem?_eq_getElem (by omega)]
theorem set_mid (A B : List UInt8) (y x : UInt8) : (A ++ y :: B).set A.length x = A ++ x :: B := by
  rw [List.set_append_right _ _ (Nat.le_refl _), Nat.sub_self, List.set_cons_zero]
theorem shf_step {D : List UInt8} (h : D.length ≤ 16) {m : Nat} (hm : m < D.length) : (shf D (m + 1)).set (m + (16 - D.length)) (D[m]) = shf D m := by
  unfold shf
  have hl := pad_length D h
  have e : (pad D).take (m + 1 + (16 - D.length)) = (pad D).take (m + (16 - D.length)) ++ [(pad D)[m + (16 - D.length)]'(by omega)] := by
    rw [show m + 1 + (16 - D.length) = (m + (16 - D.length)) + 1 by omega, List.take_succ_eq_append_getElem (by omega)]
  have hl2 : ((pad D).take (m + (16 - D.length))).length = m + (16 - D.length) := by simp [hl]; omega
  rw [e, List.append_assoc, List.singleton_append]
  have := set_mid ((pad D).take (m + (16 - D.length))) (D.drop (m + 1)) ((pad D)[m + (16 - D.length)]'(by omega)) (D[m])
  rw [hl2] at this
  rw [this, List.drop_eq_getElem_cons hm]
/-- .. and zeros from place e on. -/
def zer (D : List UInt8) (e q : Nat) : List UInt8 := D.take e ++ (zs q ++ (((pad D).take (e + (16 - D.length))).drop (e + q) ++ D.drop e))
theorem zer_bot {D : List UInt8} (_h : D.length ≤ 16) {e : Nat} (he : e ≤ D.length) : zer D e 0 = shf D e := by
  unfold zer shf
  have h1 : D.take e = ((pad D).take (e + (16 - D.length))).take e := by
    rw [List.take_take, Nat.min_eq_left (by omega)]
    unfold pad
    rw [List.take_append_of_le_length he]
  rw [Nat.add_zero, show zs 0 = [] from rfl, List.nil_append, ← List.append_assoc, h1, List.take_append_drop]
theorem zer_step {D : List UInt8} (h : D.length ≤ 16) {e q : Nat} (he : e ≤ D.length) (hq : q < 16 - D.length) : (zer D e q).set (e + q) 0 = zer D e (q + 1) := by
  unfold zer
  have hl : ((pad D).take (e + (16 - D.length))).length = e + (16 - D.length) := by simp [pad_length D h]; omega
  rw [List.drop_eq_getElem_cons (by rw [hl]; omega)]
  have hl2 : (D.take e ++ zs q).length = e + q := by simp [zs]; omega
  have := set_mid (D.take e ++ zs q) (((pad D).take (e + (16 - D.length))).drop (e + q + 1) ++ D.drop e) (((pad D).take (e + (16 - D.length)))[e + q]'(by rw [hl]; omega)) 0
  rw [hl2] at this
  simp only [List.cons_append, List.append_assoc] at this ⊢
  rw [this]
  simp [zs, List.replicate_succ', Nat.add_assoc]
theorem zer_top {D : List UInt8} (h : D.length ≤ 16) {e : Nat} : zer D e (16 - D.length) = D.take e ++ zs (16 - D.length) ++ D.drop e := by
  unfold zer
  rw [List.drop_of_length_le (by simp; omega), List.nil_append, List.append_assoc]
theorem zer_length {D : List UInt8} (h : D.length ≤ 16) {e q : Nat} (he : e ≤ D.length) (hq : q ≤ 16 - D.length) : (zer D e q).length = 16 := by
  unfold zer
  simp [zs, pad_length D h]; omega
def ellI : Option Nat → Int
  | none => -1
  | some e => e
theorem size16 (L : List UInt8) (h : L.length = 16) : (Tryz.prog.info? 228).map (·.size) = some (bv L).toArray.size := by
  have : (Tryz.prog.info? 228).map (·.size) = some 16 := by kernel_rfl
  rw [this, List.size_toArray, bv_length, h]
theorem slice16 (B i : Nat) (hi : i + 4 ≤ 16) (W : World) : (Instr.sliceAt 228 (.pointer (some ⟨B, 0, none⟩)) (some (.int .i64 (i : Int))) (some (.int .i64 ((i : Int) + 4))) none).run Tryz.prog W = .ok (.slice (some ⟨B, i, none⟩) 4 (16 - i)) W := by
  have hal : Tryz.prog.arrayLen 228 = 16 := by kernel_rfl
  rw [run_sliceAt_array_lh W 228 ⟨B, 0, none⟩ (by kernel_rfl) .i64 .i64 (i : Int) ((i : Int) + 4) (by omega) (by omega) (by rw [hal]; omega)]
  rw [hal]
  go_simp
  have h1 : ¬ 16 = i := by omega
  have h2 : ((i : Int) + 4).toNat - i = 4 := by omega
  simp [h1, h2]
def OutP6 (T : List UInt8) (w : World) (e : Ending) (w' : World) : Prop := e = .returned (.tuple #[.agg (bv T).toArray, .bool true]) ∧ Below w.heap.size w w'
theorem bv_at {L : List UInt8} {k : Nat} {x : UInt8} (h : L[k]? = some x) : (bv L).toArray[k]? = some (.int .u8 x.toNat) := by simp [bv, h]
theorem one_bv (L : List UInt8) : (bv L).toArray.all (·.oneCell') = true := by simp [bv, Value.oneCell']
theorem blk_pack {w : World} {g : Nat} {D : List UInt8} {V : Nat} {ty : TypeId} (h : Blk w g ty (bv (pad D)).toArray) (hD : D.length + 2 ≤ 16) (hV : V < 65536) : Blk ((w.setCell ⟨g, D.length, none⟩ (.int .u8 ((V : Int) / 256))).setCell ⟨g, D.length + 1, none⟩ (.int .u8 ((V : Int) % 256))) g ty (bv (pad (D ++ gb V))).toArray := by
  have e := setL_pad (gb V) D (by simp [gb]; omega)
  rw [← e]
  have e1 : (UInt8.ofNat (V / 256)).toNat = V / 256 := by simp; omega
  have e2 : (UInt8.ofNat (V % 256)).toNat = V % 256 := by simp
  show Blk _ g ty (((bv (pad D)).toArray.setIfInBounds D.length (.int .u8 (UInt8.ofNat (V / 256)).toNat)).setIfInBounds (D.length + 1) (.int .u8 (UInt8.ofNat (V % 256)).toNat))
  rw [e1, e2, show ((V / 256 : Nat) : Int) = (V : Int) / 256 by omega, show ((V % 256 : Nat) : Int) = (V : Int) % 256 by omega]
  exact (h.set_ _ _).set_ _ _
set_option maxHeartbeats 8000000 in
set_option maxRecDepth 100000 in
theorem parse6_x (T s : List UInt8) (w : World) (hT : T.length = 16) (h : Start6 T s) (hs : s.length ≤ 100) : Calls Tryz.prog 305 #[.string ⟨s.toArray⟩] w (OutP6 T w) := by
  obtain ⟨W0, hW0⟩ : ∃ W0, W0 = (w.alloc (.cells #[.int .u8 0, .int .u8 0, .int .u8 0, .int .u8 0, .int .u8 0, .int .u8 0, .int .u8 0, .int .u8 0, .int .u8 0, .int .u8 0, .int .u8 0, .int .u8 0, .int .u8 0, .int .u8 0, .int .u8 0, .int .u8 0] 228)).alloc (.cells #[.int .u8 0, .int .u8 0, .int .u8 0, .int .u8 0, .int .u8 0, .int .u8 0, .int .u8 0, .int .u8 0, .int .u8 0, .int .u8 0, .int .u8 0, .int .u8 0, .int .u8 0, .int .u8 0, .int .u8 0, .int .u8 0] 228) := ⟨_, rfl⟩
  have hz : (#[.int .u8 0, .int .u8 0, .int .u8 0, .int .u8 0, .int .u8 0, .int .u8 0, .int .u8 0, .int .u8 0, .int .u8 0, .int .u8 0, .int .u8 0, .int .u8 0, .int .u8 0, .int .u8 0, .int .u8 0, .int .u8 0] : Array Value) = (bv (pad [])).toArray := rfl
  have HKR0 := Lib.hid (show Blk W0 w.heap.size 228 (bv (zs 16)).toArray by rw [hW0]; exact (Blk.new w _ _).alloc _)
  have HKG0 := Lib.hid (show Blk W0 (w.heap.size + 1) 228 (bv (pad [])).toArray by rw [hW0]; exact Blk.new_ (by simp) _ _)
  have HBW0 := Lib.hid (show Below w.heap.size w W0 by rw [hW0]; exact ((Below.refl _ w).alloc (Nat.le_refl _) _).alloc (by simp) _)
  have HW0 := Lib.hid hW0
  clear hW0 hz
  have h4 : (P6 T [] none s ∧ 2 ≤ s.length) ∨ (P6 T [] none s ∧ s.length < 2) ∨ (∃ s', s = 58 :: 58 :: s' ∧ P6 T [] (some 0) s') ∨ (s = [58, 58] ∧ T = zs 16) := by
    rcases h with h | ⟨s', e, h | ⟨e2, h⟩⟩
    · rcases Nat.lt_or_ge s.length 2 with h2 | h2
      · exact .inr (.inl ⟨h, h2⟩)
      · exact .inl ⟨h, h2⟩
    · exact .inr (.inr (.inl ⟨s', e, h⟩))
    · exact .inr (.inr (.inr ⟨by rw [e, e2], h⟩))
  clear h
  have H4 := Lib.hid h4
  clear h4
  go_enter Tryz.func305, Tryz.ntmps305
  go_upto_region 3 with fail
  rw [← HW0.out]
  go_cut [24] from 12 (fun v24 wc => ∃ b : Bool, v24 = .bool b ∧ wc = W0 ∧ ((b = false ∧ P6 T [] none s) ∨ (b = true ∧ ((∃ s', s = 58 :: 58 :: s' ∧ P6 T [] (some 0) s') ∨ (s = [58, 58] ∧ T = zs 16)))))
  case first =>
    rcases H4.out with ⟨h, h2l⟩ | ⟨h, h2l⟩ | ⟨s', hse, h⟩ | ⟨hse, hT0⟩
    · obtain ⟨c, r, hc0, hc⟩ := h.head
      have hx0 := ba_get s 0 c (by rw [hc0]; rfl)
      have hcn : ((c.toNat : Int) == 58) = false := by
        have : c.toNat ≠ 58 := fun e => hc (UInt8.toNat_inj.1 e)
        simp; omega
      have hsz := size_toArray s
      have hs1 : 0 < s.length := by rw [hc0]; simp
      have HP := Lib.hid h
      have hs0 := hs
      clear h hc0 H4
      have hd2 : decide ((2 : Int) ≤ (s.length : Int)) = true := decide_eq_true (by omega)
      go_wp2_with fail
      go_meet
      exact ⟨false, rfl, rfl, .inl ⟨rfl, HP.out⟩⟩
    · obtain ⟨c, r, hc0, hc⟩ := h.head
      have hx0 := ba_get s 0 c (by rw [hc0]; rfl)
      have hcn : ((c.toNat : Int) == 58) = false := by
        have : c.toNat ≠ 58 := fun e => hc (UInt8.toNat_inj.1 e)
        simp; omega
      have hsz := size_toArray s
      have hs1 : 0 < s.length := by rw [hc0]; simp
      have HP := Lib.hid h
      have hs0 := hs
      clear h hc0 H4
      have hd2 : decide ((2 : Int) ≤ (s.length : Int)) = false := decide_eq_false (by omega)
      go_wp2_with fail
      go_meet
      exact ⟨false, rfl, rfl, .inl ⟨rfl, HP.out⟩⟩
    · have hx0 := ba_get s 0 58 (by rw [hse]; rfl)
      have hx1 := ba_get s 1 58 (by rw [hse]; rfl)
      have hsz := size_toArray s
      have hl2 : 2 ≤ s.length := by rw [hse]; simp
      have hd2 : decide ((2 : Int) ≤ (s.length : Int)) = true := decide_eq_true (by omega)
      have HP := Lib.hid h
      have HS := Lib.hid hse
      clear h hse H4
      go_wp2_with fail
      go_meet
      exact ⟨true, rfl, rfl, .inr ⟨rfl, .inl ⟨s', HS.out, HP.out⟩⟩⟩
    · have hx0 := ba_get s 0 58 (by rw [hse]; rfl)
      have hx1 := ba_get s 1 58 (by rw [hse]; rfl)
      have hsz := size_toArray s
      have hl2 : 2 ≤ s.length := by rw [hse]; simp
      have hd2 : decide ((2 : Int) ≤ (s.length : Int)) = true := decide_eq_true (by omega)
      have HT0 := Lib.hid hT0
      have HS := Lib.hid hse
      clear hT0 hse H4
      go_wp2_with fail
      go_meet
      exact ⟨true, rfl, rfl, .inr ⟨rfl, .inr ⟨HS.out, HT0.out⟩⟩⟩
  case' rest =>
    obtain ⟨b, rfl, hwc, hb⟩ := hcut
    rw [hwc]
    clear hwc H4
    have H4 := Lib.hid hb
    clear hb
    go_upto_if 24 with fail
    go_cut [0, 5] from 12 (fun v0 v5 wc => ∃ (ell : Option Nat) (t : List UInt8), v0 = .string ⟨t.toArray⟩ ∧ v5 = .int .i64 (ellI ell) ∧ (ell = none ∨ ell = some 0) ∧ t.length ≤ 100 ∧ P6 T [] ell t ∧ wc = W0)
    case first =>
      rcases H4.out with ⟨rfl, h⟩ | ⟨rfl, ⟨s', hse, h⟩ | ⟨hse, hT0⟩⟩
      · have HP := Lib.hid h
        clear h H4
        go_wp2_with fail
        go_meet
        exact ⟨none, s, rfl, rfl, .inl rfl, hs, HP.out, rfl⟩
      · have hsz := size_toArray s
        have kx := extract_drop s 2
        obtain ⟨c, r, hc0, hc⟩ := h.head
        have hs0 : s'.length ≤ 100 := by rw [hse] at hs; simp at hs; omega
        have hq29 : ((s'.length : Int) == 0) = false := by rw [hc0, beq_eq_false_iff_ne]; simp <;> omega
        rw [show s.drop 2 = s' by rw [hse]; rfl] at kx
        have hl2 : 2 ≤ s.length := by rw [hse]; simp
        have hszt := size_toArray s'
        have HP := Lib.hid h
        clear h hc0 H4 hse
        go_wp2_with fail
        go_meet
        exact ⟨some 0, s', rfl, rfl, .inr rfl, hs0, HP.out, rfl⟩
      · have hsz := size_toArray s
        have kx := extract_drop s 2
        rw [show s.drop 2 = [] by rw [hse]; rfl] at kx
        have hl2 : 2 ≤ s.length := by rw [hse]; simp
        have HA := Lib.hid (show Blk W0 (w.heap.size + 1) 228 (bv T).toArray by
          have := HKG0.out
          rw [show pad [] = zs 16 from rfl, ← hT0] at this
          exact this)
        have HR := HKR0
        have HBE := HBW0
        clear hse H4 hT0
        go_upto_region 7 with fail
        refine wp_region_lit ?_
        refine wpList_load_row rfl 228 (.tmp 4) rfl (w.heap.size + 1) ?j0 228 _ _ _ HA.out Tryz.underlying228 rfl (size16 T hT) ?_
        case j0 => rfl
        refine wpList_store_row rfl 228 (.tmp 2) (.tmp 30) rfl w.heap.size (bv T).toArray ?i0 ?i1 228 _ HR.out (size16 T hT) ?i3 (one_bv T) ?_
        case i0 => rfl
        case i1 => rfl
        case i3 => rw [List.size_toArray, List.size_toArray, bv_length, bv_length, hT]; rfl
        go_wp2_with fail
        exact bodyPost_ret (results_cell_tmp rfl _ _ w.heap.size 228 (bv T).toArray (0, 0) _ rfl (HR.out.row _) Tryz.underlying228 rfl (size16 T hT)) rfl ⟨rfl, below_setRow HBE.out (Nat.le_refl _) _⟩
  case rest =>
    obtain ⟨ell0, t0, rfl, rfl, hell0, ht0, hp0, hwc⟩ := hcut
    rw [hwc]
    clear hwc
    have HP := Lib.hid hp0
    have HELL := Lib.hid hell0
    clear hp0 hell0 H4
    go_upto_region 8 with fail
    go_wp2_with fail
    go_loopw [0, 5, 6] (fun v0 v5 v6 wr => ∃ (D : List UInt8) (ell : Option Nat) (t : List UInt8), v0 = .string ⟨t.toArray⟩ ∧ v5 = .int .i64 (ellI ell) ∧ v6 = .int .i64 (D.length : Nat) ∧ t.length ≤ 100 ∧ P6 T D ell t ∧ (∀ e, ell = some e → e ≤ D.length) ∧ Blk wr w.heap.size 228 (bv (zs 16)).toArray ∧ Blk wr (w.heap.size + 1) 228 (bv (pad D)).toArray ∧ Below w.heap.size w wr) (fun _ _ v6 _ => 20 - (intOf v6).toNat)
    case atStart => exact ⟨[], ell0, t0, rfl, rfl, rfl, ht0, HP.out, fun e he => (by rcases HELL.out with h | h <;> rw [h] at he <;> cases he <;> exact Nat.zero_le _), HKR0.out, HKG0.out, HBW0.out⟩
    case round =>
      obtain ⟨D, ell, t, rfl, rfl, rfl, ht100, hp, hel, hkr, hkg, hb⟩ := hrel
      obtain ⟨hD, xs, R, htx, hx1', hx4, hx16, hcl⟩ := hp.form
      have HKR := Lib.hid hkr
      have HKG := Lib.hid hkg
      have HB := Lib.hid hb
      have HCL := Lib.hid hcl
      have HX16 := Lib.hid hx16
      have HEL := Lib.hid hel
      have hszt := size_toArray t
      have htl : t.length = xs.length + R.length := by rw [htx]; simp
      have HTX := Lib.hid htx
      obtain ⟨E, hE⟩ : ∃ E, E = ellI ell := ⟨_, rfl⟩
      obtain ⟨i, hi⟩ : ∃ i, i = D.length := ⟨_, rfl⟩
      rw [← hE, ← hi]
      have HE := Lib.hid hE
      have HI := Lib.hid hi
      rw [← hi] at hD
      have hi16 : decide ((i : Int) < 16) = true := decide_eq_true (by omega)
      clear hp hkr hkg hb hcl hx16 hel htx hE hi
      go_wp2_with fail
      go_loopw [7, 8] (fun v7 v8 wq => ∃ j : Nat, j ≤ xs.length ∧ v7 = .int .i64 j ∧ v8 = .int .i64 (hv (xs.take j) : Nat) ∧ wq = wr) (fun v7 _ _ => 10 - (intOf v7).toNat)
      case atStart => exact ⟨0, by omega, rfl, rfl, rfl⟩
      case round =>
        obtain ⟨j, hj, rfl, rfl, rfl⟩ := hrel
        by_cases hlt : j < xs.length
        · have hjt : j < t.length := by omega
          have hx0j := ba_get t j (hexd xs[j]) (by rw [HTX.out, List.getElem?_append_left (by simpa using hlt)]; simp [hlt])
          have hx := HX16.out _ (List.getElem_mem hlt)
          have htk : hv (xs.take (j + 1)) = hv (xs.take j) * 16 + xs[j] := by rw [List.take_succ_eq_append_getElem hlt, hv_snoc]
          have hvb : hv (xs.take j) < 65536 := hv_lt _ (fun y hy => HX16.out y (List.mem_of_mem_take hy)) (by simp; omega)
          have hvb2 : hv (xs.take (j + 1)) < 65536 := hv_lt _ (fun y hy => HX16.out y (List.mem_of_mem_take hy)) (by simp; omega)
          generalize xs[j] = x at *
          have HD := Lib.hid (fun W => digit_x x hx W)
          generalize hexd x = c at *
          obtain ⟨a, ha⟩ : ∃ a, a = hv (xs.take j) := ⟨_, rfl⟩
          rw [← ha] at htk hvb
          rw [← ha]
          rw [htk] at hvb2
          have HTK := Lib.hid htk
          have hj3 : j ≤ 3 := by omega
          clear ha htk
          go_wp2_with fail
          refine (HD.out _).mono ?_
          rintro e w3 ⟨rfl, rfl⟩
          go_wp2_with fail
          refine (HD.out _).mono ?_
          rintro e w3 ⟨rfl, rfl⟩
          go_wp2_with fail
          go_roundw
          case rel => exact ⟨j + 1, by omega, by go_num, by rw [HTK.out]; go_num, trivial⟩
          case measure => simp [intOf] <;> omega
        · obtain rfl : j = xs.length := by omega
          rw [List.take_length]
          obtain ⟨J, hJ⟩ : ∃ J, J = xs.length := ⟨_, rfl⟩
          obtain ⟨V, hV⟩ : ∃ V, V = hv xs := ⟨_, rfl⟩
          rw [← hJ, ← hV]
          rw [← hJ] at htl hx1' hx4
          have HJ := Lib.hid hJ
          have hJ0 : ((J : Int) == 0) = false := by rw [beq_eq_false_iff_ne]; omega
          have htJ : J ≤ t.length := by omega
          have kx := extract_drop t J
          rw [show t.drop J = R by rw [HTX.out, List.drop_left' (by simp [hJ])]] at kx
          have hcl := HCL.out
          rw [← hV] at hcl
          have hV16 : V < 65536 := by
            rcases hcl with ⟨_, h, _⟩ | ⟨_, _, _, _, h, _⟩ | ⟨_, _, _, h, _⟩ | ⟨_, h, _⟩ | ⟨_, _, _, _, _, _, _, h, _⟩ <;> exact h
          have hz1 : IntKind.u8.wrap ((V : Int) / 256) = (V : Int) / 256 := by rw [IntKind.wrap_u8]; omega
          have hz2 : IntKind.u8.wrap (V : Int) = (V : Int) % 256 := by rw [IntKind.wrap_u8]
          have hf0 : wr.frozen? ⟨w.heap.size + 1, i, none⟩ = false := HKG.out.frozen i
          have hf1 : wr.frozen? ⟨w.heap.size + 1, i + 1, none⟩ = false := HKG.out.frozen (i + 1)
          obtain ⟨y0, hy0⟩ : ∃ y, wr.cell? ⟨w.heap.size + 1, i, none⟩ = some y := ⟨_, (HKG.out.cell i).trans (Array.getElem?_eq_getElem (by rw [List.size_toArray, bv_length, pad_length _ (by rw [← HI.out]; omega)]; omega))⟩
          obtain ⟨y1, hy1⟩ : ∃ y, wr.cell? ⟨w.heap.size + 1, i + 1, none⟩ = some y := ⟨_, (HKG.out.cell (i + 1)).trans (Array.getElem?_eq_getElem (by rw [List.size_toArray, bv_length, pad_length _ (by rw [← HI.out]; omega)]; omega))⟩
          have HPK := Lib.hid (show Blk ((wr.setCell ⟨w.heap.size + 1, i, none⟩ (.int .u8 ((V : Int) / 256))).setCell ⟨w.heap.size + 1, i + 1, none⟩ (.int .u8 ((V : Int) % 256))) (w.heap.size + 1) 228 (bv (pad (D ++ gb V))).toArray by rw [HI.out]; exact blk_pack HKG.out (by rw [← HI.out]; omega) hV16)
          have HBP := Lib.hid (show Below w.heap.size w ((wr.setCell ⟨w.heap.size + 1, i, none⟩ (.int .u8 ((V : Int) / 256))).setCell ⟨w.heap.size + 1, i + 1, none⟩ (.int .u8 ((V : Int) % 256))) from (HB.out.setCell (p := ⟨w.heap.size + 1, i, none⟩) (by simp) _).setCell (p := ⟨w.heap.size + 1, i + 1, none⟩) (by simp) _)
          have HKP := Lib.hid (show Blk ((wr.setCell ⟨w.heap.size + 1, i, none⟩ (.int .u8 ((V : Int) / 256))).setCell ⟨w.heap.size + 1, i + 1, none⟩ (.int .u8 ((V : Int) % 256))) w.heap.size 228 (bv (zs 16)).toArray from (HKR.out.far (by simp) _).far (by simp) _)
          clear HCL hV hJ
          rcases hcl with ⟨rfl, _, hF⟩ | ⟨c, s', hR, hc, _, hP⟩ | ⟨c, s', hR, _, hen, hP⟩ | ⟨hR, _, hen, hF⟩ | ⟨b0, b1, b2, b3, e, R', hR, _, hq, hee, hDl4, hF⟩
          · have htJ2 : t.length = J := by simpa using htl
            have hdJ : decide ((J : Int) < (t.length : Int)) = false := decide_eq_false (by omega)
            clear htl
            rcases ell with _ | e
            · obtain rfl : E = -1 := HE.out
              obtain ⟨hl, hTD⟩ := hF
              obtain rfl : i = 14 := by have := HI.out; simp [gb] at hl; omega
              have HA := HPK
              rw [← hTD, pad_full hT] at HA
              have HR := HKP
              have HBE := HBP
              clear hTD hl HPK HKP HBP
              go_upto_region 52 with fail
              refine wp_region_lit ?_
              refine wpList_load_row rfl 228 (.tmp 4) rfl (w.heap.size + 1) ?j0 228 _ _ _ HA.out Tryz.underlying228 rfl (size16 T hT) ?_
              case j0 => rfl
              refine wpList_store_row rfl 228 (.tmp 2) (.tmp 171) rfl w.heap.size (bv T).toArray ?i0 ?i1 228 _ HR.out (size16 T hT) ?i3 (one_bv T) ?_
              case i0 => rfl
              case i1 => rfl
              case i3 => rw [List.size_toArray, List.size_toArray, bv_length, bv_length, hT]; rfl
              go_wp2_with fail
              exact bodyPost_ret (results_cell_tmp rfl _ _ w.heap.size 228 (bv T).toArray (0, 0) _ rfl (HR.out.row _) Tryz.underlying228 rfl (size16 T hT)) rfl ⟨rfl, below_setRow HBE.out (Nat.le_refl _) _⟩
            · obtain rfl : E = (e : Int) := HE.out
              have HF := Lib.hid hF
              clear hF
              have hFF : i + 2 = (D ++ gb V).length := by rw [HI.out]; simp [gb]
              go_upto_region 36 with fail
              obtain ⟨F, hFi⟩ : ∃ F, F = i + 2 := ⟨_, rfl⟩
              rw [show (i : Int) + 2 = (F : Int) by omega]
              rw [← hFi] at hFF
              generalize D ++ gb V = D' at *
              generalize ((wr.setCell ⟨w.heap.size + 1, i, none⟩ (.int .u8 ((V : Int) / 256))).setCell ⟨w.heap.size + 1, i + 1, none⟩ (.int .u8 ((V : Int) % 256))) = W at *
              clear hFi
              obtain ⟨heF, hF16, hTF⟩ := HF.out
              have hFF2 := hFF
              rw [← hFF] at heF hF16 hTF
              have hd38 : decide ((F : Int) < 16) = true := decide_eq_true (by omega)
              have hd39 : decide ((e : Int) < 0) = false := decide_eq_false (by omega)
              obtain ⟨n, hn⟩ : ∃ n, F + n = 16 := ⟨16 - F, by omega⟩
              have hDn : 16 - D'.length = n := by omega
              have HTF := Lib.hid hTF
              have HFF := Lib.hid hFF
              clear hTF HF hFF hFF2
              go_wp2_with fail
              rw [show (16 : Int) - (F : Int) = (n : Int) by omega]
              have HDn := Lib.hid hDn
              clear hDn
              go_loopw [10] (fun v10 wq => ∃ m : Nat, e ≤ m ∧ m ≤ F ∧ v10 = .int .i64 ((m : Int) - 1) ∧ Blk wq (w.heap.size + 1) 228 (bv (shf D' m)).toArray ∧ Blk wq w.heap.size 228 (bv (zs 16)).toArray ∧ Below w.heap.size w wq) (fun v10 _ => (intOf v10 + 1).toNat)
              case atStart => exact ⟨F, heF, Nat.le_refl _, rfl, by rw [HFF.out, shf_top (by rw [← HFF.out]; omega)]; exact HPK.out, HKP.out, HBP.out⟩
              case round =>
                obtain ⟨m, hm1, hm2, rfl, hk, hr, hb⟩ := hrel
                have HK := Lib.hid hk
                have HR := Lib.hid hr
                have HBE := Lib.hid hb
                clear hk hr hb
                by_cases hlt : e < m
                · obtain ⟨k, rfl⟩ : ∃ k, m = k + 1 := ⟨m - 1, by omega⟩
                  rw [show (((k + 1 : Nat) : Int) - 1) = (k : Int) by omega]
                  have hD16 : D'.length ≤ 16 := by rw [← HFF.out]; omega
                  have hkD : k < D'.length := by rw [← HFF.out]; omega
                  have hg0 : wr.cell? ⟨w.heap.size + 1, k, none⟩ = some (.int .u8 (D'[k]).toNat) := (HK.out.cell k).trans (bv_at (shf_get hD16 hkD (Nat.lt_succ_self k)))
                  have hfz : wr.frozen? ⟨w.heap.size + 1, k + n, none⟩ = false := HK.out.frozen (k + n)
                  obtain ⟨y, hy⟩ : ∃ y, wr.cell? ⟨w.heap.size + 1, k + n, none⟩ = some y := ⟨_, (HK.out.cell (k + n)).trans (Array.getElem?_eq_getElem (by rw [List.size_toArray, bv_length, shf_length hD16 hkD]; omega))⟩
                  have hst := HK.out.set_ (k + n) (.int .u8 (D'[k]).toNat)
                  have e1 := shf_step hD16 hkD
                  rw [HDn.out] at e1
                  rw [bv_setm, e1] at hst
                  have HST := Lib.hid hst
                  generalize D'[k] = x at *
                  have hek : decide ((e : Int) ≤ (k : Int)) = true := decide_eq_true (by omega)
                  clear hst e1 hD16 hkD
                  go_wp2_with fail
                  go_roundw
                  case rel => exact ⟨k, by omega, by omega, by go_num, HST.out, HR.out.far (by simp) _, HBE.out.setCell (p := ⟨w.heap.size + 1, k + n, none⟩) (by simp) _⟩
                  case measure => simp [intOf] <;> omega
                · rw [show m = e by omega] at HK ⊢
                  have hek : decide ((e : Int) ≤ (e : Int) - 1) = false := decide_eq_false (by omega)
                  clear hlt hm1 hm2
                  go_wp2_with fail
                  go_loopw [11] (fun v11 wq => ∃ q : Nat, q ≤ n ∧ v11 = .int .i64 ((e + q : Nat) : Int) ∧ Blk wq (w.heap.size + 1) 228 (bv (zer D' e q)).toArray ∧ Blk wq w.heap.size 228 (bv (zs 16)).toArray ∧ Below w.heap.size w wq) (fun v11 _ => 40 - (intOf v11).toNat)
                  case atStart => exact ⟨0, by omega, rfl, by rw [zer_bot (by rw [← HFF.out]; omega) (by rw [← HFF.out]; omega)]; exact HK.out, HR.out, HBE.out⟩
                  case round =>
                    clear HK HR HBE
                    obtain ⟨q, hq, rfl, hk, hr, hb⟩ := hrel
                    have HK := Lib.hid hk
                    have HR := Lib.hid hr
                    have HBE := Lib.hid hb
                    clear hk hr hb
                    have hD16 : D'.length ≤ 16 := by rw [← HFF.out]; omega
                    have heD : e ≤ D'.length := by rw [← HFF.out]; omega
                    by_cases hlt : q < n
                    · have hfz : wr.frozen? ⟨w.heap.size + 1, e + q, none⟩ = false := HK.out.frozen (e + q)
                      obtain ⟨y, hy⟩ : ∃ y, wr.cell? ⟨w.heap.size + 1, e + q, none⟩ = some y := ⟨_, (HK.out.cell (e + q)).trans (Array.getElem?_eq_getElem (by rw [List.size_toArray, bv_length, zer_length hD16 heD (by rw [HDn.out]; exact hq)]; omega))⟩
                      have hst := HK.out.set_ (e + q) (.int .u8 (0 : UInt8).toNat)
                      rw [bv_setm, zer_step hD16 heD (by rw [HDn.out]; exact hlt)] at hst
                      have HST := Lib.hid hst
                      obtain ⟨p, hp⟩ : ∃ p, p = e + q := ⟨_, rfl⟩
                      rw [← hp] at hfz hy HST ⊢
                      have hpn : decide ((p : Int) < (e : Int) + (n : Int)) = true := decide_eq_true (by omega)
                      have hp16 : p < 16 := by omega
                      have HPQ := Lib.hid hp
                      clear hst hD16 heD hp
                      go_wp2_with fail
                      go_roundw
                      case rel => exact ⟨q + 1, by omega, by rw [← Nat.add_assoc, ← HPQ.out]; go_num, HST.out, HR.out.far (by simp) _, HBE.out.setCell (p := ⟨w.heap.size + 1, p, none⟩) (by simp) _⟩
                      case measure => simp [intOf] <;> omega
                    · rw [show q = n by omega] at HK ⊢
                      have HA := HK
                      rw [show bv (zer D' e n) = bv T by rw [← HDn.out, zer_top hD16, HTF.out, HDn.out, show 16 - F = n by omega]] at HA
                      have hpn : decide (((e + n : Nat) : Int) < (e : Int) + (n : Int)) = false := decide_eq_false (by omega)
                      clear hD16 heD HK HTF HDn HFF
                      go_upto_region 52 with fail
                      refine wp_region_lit ?_
                      refine wpList_load_row rfl 228 (.tmp 4) rfl (w.heap.size + 1) ?j0 228 _ _ _ HA.out Tryz.underlying228 rfl (size16 T hT) ?_
                      case j0 => rfl
                      refine wpList_store_row rfl 228 (.tmp 2) (.tmp 171) rfl w.heap.size (bv T).toArray ?i0 ?i1 228 _ HR.out (size16 T hT) ?i3 (one_bv T) ?_
                      case i0 => rfl
                      case i1 => rfl
                      case i3 => rw [List.size_toArray, List.size_toArray, bv_length, bv_length, hT]; rfl
                      go_wp2_with fail
                      exact bodyPost_ret (results_cell_tmp rfl _ _ w.heap.size 228 (bv T).toArray (0, 0) _ rfl (HR.out.row _) Tryz.underlying228 rfl (size16 T hT)) rfl ⟨rfl, below_setRow HBE.out (Nat.le_refl _) _⟩
          · -- another group follows
            have hxJ := ba_get t J 58 (by rw [HTX.out, List.getElem?_append_right (by simp [HJ.out]), hR]; simp [HJ.out])
            have hszR := size_toArray R
            have hr0 := ba_get R 0 58 (by rw [hR]; rfl)
            have kx1 := extract_drop R 1
            obtain ⟨R2, hR2⟩ : ∃ R2, R2 = R.drop 1 := ⟨_, rfl⟩
            rw [← hR2] at kx1
            have hszR2 := size_toArray R2
            have hdJ : decide ((J : Int) < (t.length : Int)) = true := decide_eq_true (by rw [htl, hR]; simp <;> omega)
            have hJt : J < t.length := by rw [htl, hR]; simp
            have hq26 : ((R.length : Int) == 0) = false := by rw [hR, beq_eq_false_iff_ne]; simp <;> omega
            have hq27 : ((R.length : Int) == 1) = false := by rw [hR, beq_eq_false_iff_ne]; simp <;> omega
            have hRl : 1 < R.length := by rw [hR]; simp
            have hDG := Lib.hid (fun W => digit_none 58 (.inl rfl) W)
            have hr20 := ba_get R2 0 c (by rw [hR2, hR]; rfl)
            have hcn2 : ((c.toNat : Int) == 58) = false := by
              have : c.toNat ≠ 58 := fun e => hc (UInt8.toNat_inj.1 e)
              rw [beq_eq_false_iff_ne]; omega
            have hR2l : 0 < R2.length := by rw [hR2, List.length_drop]; omega
            have HR2 := Lib.hid (show R2 = c :: s' by rw [hR2, hR]; rfl)
            have HRL := Lib.hid (show R2.length ≤ 100 by rw [hR2, List.length_drop]; omega)
            have HPN := Lib.hid hP
            clear htl hR hR2 hP
            go_wp2_with fail
            refine (hDG.out _).mono ?_
            rintro e w3 ⟨rfl, rfl⟩
            go_wp2_with fail
            go_roundw
            case rel => exact ⟨D ++ gb V, ell, R2, rfl, by rw [HE.out], by rw [HI.out]; simp [gb], HRL.out, by rw [HR2.out]; exact HPN.out, fun e he => Nat.le_trans (HEL.out e he) (by simp), HKP.out, HPK.out, HBP.out⟩
            case measure => simp [intOf] <;> omega
          · -- the zeros are left out here, a group follows
            have hxJ := ba_get t J 58 (by rw [HTX.out, List.getElem?_append_right (by simp [HJ.out]), hR]; simp [HJ.out])
            have hszR := size_toArray R
            have hr0 := ba_get R 0 58 (by rw [hR]; rfl)
            have kx1 := extract_drop R 1
            obtain ⟨R2, hR2⟩ : ∃ R2, R2 = R.drop 1 := ⟨_, rfl⟩
            rw [← hR2] at kx1
            have hszR2 := size_toArray R2
            have hdJ : decide ((J : Int) < (t.length : Int)) = true := decide_eq_true (by rw [htl, hR]; simp <;> omega)
            have hJt : J < t.length := by rw [htl, hR]; simp
            have hq26 : ((R.length : Int) == 0) = false := by rw [hR, beq_eq_false_iff_ne]; simp <;> omega
            have hq27 : ((R.length : Int) == 1) = false := by rw [hR, beq_eq_false_iff_ne]; simp <;> omega
            have hRl : 1 < R.length := by rw [hR]; simp
            have hDG := Lib.hid (fun W => digit_none 58 (.inl rfl) W)
            subst hen
            obtain rfl : E = -1 := HE.out
            have hr20 := ba_get R2 0 58 (by rw [hR2, hR]; rfl)
            have kx2 := extract_drop R2 1
            obtain ⟨R3, hR3⟩ : ∃ R3, R3 = R2.drop 1 := ⟨_, rfl⟩
            rw [← hR3] at kx2
            have hszR3 := size_toArray R3
            have hR3e : R3 = c :: s' := by rw [hR3, hR2, hR]; rfl
            have hR2l : 1 ≤ R2.length := by rw [hR2, hR]; simp
            have hq35 : ((R3.length : Int) == 0) = false := by rw [hR3e, beq_eq_false_iff_ne]; simp; omega
            have HR3 := Lib.hid hR3e
            have HRL := Lib.hid (show R3.length ≤ 100 by rw [hR3, List.length_drop, hR2, List.length_drop]; omega)
            have HPN := Lib.hid hP
            clear htl hR hR2 hP hR3 hR3e
            go_wp2_with fail
            refine (hDG.out _).mono ?_
            rintro e w3 ⟨rfl, rfl⟩
            go_wp2_with fail
            go_roundw
            case rel => exact ⟨D ++ gb V, some (D.length + 2), R3, rfl, by rw [HI.out]; simp [ellI], by rw [HI.out]; simp [gb], HRL.out, by rw [HR3.out]; exact HPN.out, fun e he => by injection he with he; rw [← he]; simp [gb], HKP.out, HPK.out, HBP.out⟩
            case measure => simp [intOf] <;> omega
          · -- the zeros are left out at the end
            have hxJ := ba_get t J 58 (by rw [HTX.out, List.getElem?_append_right (by simp [HJ.out]), hR]; simp [HJ.out])
            have hszR := size_toArray R
            have hr0 := ba_get R 0 58 (by rw [hR]; rfl)
            have kx1 := extract_drop R 1
            obtain ⟨R2, hR2⟩ : ∃ R2, R2 = R.drop 1 := ⟨_, rfl⟩
            rw [← hR2] at kx1
            have hszR2 := size_toArray R2
            have hdJ : decide ((J : Int) < (t.length : Int)) = true := decide_eq_true (by rw [htl, hR]; simp <;> omega)
            have hJt : J < t.length := by rw [htl, hR]; simp
            have hq26 : ((R.length : Int) == 0) = false := by rw [hR, beq_eq_false_iff_ne]; simp <;> omega
            have hq27 : ((R.length : Int) == 1) = false := by rw [hR, beq_eq_false_iff_ne]; simp <;> omega
            have hRl : 1 < R.length := by rw [hR]; simp
            have hDG := Lib.hid (fun W => digit_none 58 (.inl rfl) W)
            subst hen
            obtain rfl : E = -1 := HE.out
            have hr20 := ba_get R2 0 58 (by rw [hR2, hR]; rfl)
            have kx2 := extract_drop R2 1
            rw [show R2.drop 1 = [] by rw [hR2, hR]; rfl] at kx2
            have hR2l : 1 ≤ R2.length := by rw [hR2, hR]; simp
            have hFF : i + 2 = (D ++ gb V).length := by rw [HI.out]; simp [gb]
            rw [← HI.out] at hF
            have HF := Lib.hid hF
            clear htl hR hR2 hF
            go_upto_region 36 with fail
            refine (hDG.out _).mono ?_
            rintro e w3 ⟨rfl, rfl⟩
            go_upto_region 36 with fail
            obtain ⟨F, hFi⟩ : ∃ F, F = i + 2 := ⟨_, rfl⟩
            rw [show (i : Int) + 2 = (F : Int) by omega]
            rw [← hFi] at hFF HF
            clear hFi
            generalize D ++ gb V = D' at *
            generalize ((wr.setCell ⟨w.heap.size + 1, i, none⟩ (.int .u8 ((V : Int) / 256))).setCell ⟨w.heap.size + 1, i + 1, none⟩ (.int .u8 ((V : Int) % 256))) = W at *
            obtain ⟨heF, hF16, hTF⟩ := HF.out
            have hFF2 := hFF
            rw [← hFF] at heF hF16 hTF
            have hd38 : decide ((F : Int) < 16) = true := decide_eq_true (by omega)
            have hd39 : decide ((F : Int) < 0) = false := decide_eq_false (by omega)
            obtain ⟨n, hn⟩ : ∃ n, F + n = 16 := ⟨16 - F, by omega⟩
            have hDn : 16 - D'.length = n := by omega
            have HTF := Lib.hid hTF
            have HFF := Lib.hid hFF
            clear hTF HF hFF hFF2
            go_wp2_with fail
            rw [show (16 : Int) - (F : Int) = (n : Int) by omega]
            have HDn := Lib.hid hDn
            clear hDn
            go_loopw [10] (fun v10 wq => ∃ m : Nat, F ≤ m ∧ m ≤ F ∧ v10 = .int .i64 ((m : Int) - 1) ∧ Blk wq (w.heap.size + 1) 228 (bv (shf D' m)).toArray ∧ Blk wq w.heap.size 228 (bv (zs 16)).toArray ∧ Below w.heap.size w wq) (fun v10 _ => (intOf v10 + 1).toNat)
            case atStart => exact ⟨F, heF, Nat.le_refl _, rfl, by rw [HFF.out, shf_top (by rw [← HFF.out]; omega)]; exact HPK.out, HKP.out, HBP.out⟩
            case round =>
              obtain ⟨m, hm1, hm2, rfl, hk, hr, hb⟩ := hrel
              have HK := Lib.hid hk
              have HR := Lib.hid hr
              have HBE := Lib.hid hb
              clear hk hr hb
              by_cases hlt : F < m
              · exfalso; omega
              · rw [show m = F by omega] at HK ⊢
                have hek : decide ((F : Int) ≤ (F : Int) - 1) = false := decide_eq_false (by omega)
                clear hlt hm1 hm2
                go_wp2_with fail
                go_loopw [11] (fun v11 wq => ∃ q : Nat, q ≤ n ∧ v11 = .int .i64 ((F + q : Nat) : Int) ∧ Blk wq (w.heap.size + 1) 228 (bv (zer D' F q)).toArray ∧ Blk wq w.heap.size 228 (bv (zs 16)).toArray ∧ Below w.heap.size w wq) (fun v11 _ => 40 - (intOf v11).toNat)
                case atStart => exact ⟨0, by omega, rfl, by rw [zer_bot (by rw [← HFF.out]; omega) (by rw [← HFF.out]; omega)]; exact HK.out, HR.out, HBE.out⟩
                case round =>
                  clear HK HR HBE
                  obtain ⟨q, hq, rfl, hk, hr, hb⟩ := hrel
                  have HK := Lib.hid hk
                  have HR := Lib.hid hr
                  have HBE := Lib.hid hb
                  clear hk hr hb
                  have hD16 : D'.length ≤ 16 := by rw [← HFF.out]; omega
                  have heD : F ≤ D'.length := by rw [← HFF.out]; omega
                  by_cases hlt : q < n
                  · have hfz : wr.frozen? ⟨w.heap.size + 1, F + q, none⟩ = false := HK.out.frozen (F + q)
                    obtain ⟨y, hy⟩ : ∃ y, wr.cell? ⟨w.heap.size + 1, F + q, none⟩ = some y := ⟨_, (HK.out.cell (F + q)).trans (Array.getElem?_eq_getElem (by rw [List.size_toArray, bv_length, zer_length hD16 heD (by rw [HDn.out]; exact hq)]; omega))⟩
                    have hst := HK.out.set_ (F + q) (.int .u8 (0 : UInt8).toNat)
                    rw [bv_setm, zer_step hD16 heD (by rw [HDn.out]; exact hlt)] at hst
                    have HST := Lib.hid hst
                    obtain ⟨p, hp⟩ : ∃ p, p = F + q := ⟨_, rfl⟩
                    rw [← hp] at hfz hy HST ⊢
                    have hpn : decide ((p : Int) < (F : Int) + (n : Int)) = true := decide_eq_true (by omega)
                    have hp16 : p < 16 := by omega
                    have HPQ := Lib.hid hp
                    clear hst hD16 heD hp
                    go_wp2_with fail
                    go_roundw
                    case rel => exact ⟨q + 1, by omega, by rw [← Nat.add_assoc, ← HPQ.out]; go_num, HST.out, HR.out.far (by simp) _, HBE.out.setCell (p := ⟨w.heap.size + 1, p, none⟩) (by simp) _⟩
                    case measure => simp [intOf] <;> omega
                  · rw [show q = n by omega] at HK ⊢
                    have HA := HK
                    rw [show bv (zer D' F n) = bv T by rw [← HDn.out, zer_top hD16, HTF.out, HDn.out, show 16 - F = n by omega]] at HA
                    have hpn : decide (((F + n : Nat) : Int) < (F : Int) + (n : Int)) = false := decide_eq_false (by omega)
                    clear hD16 heD HK HTF HDn HFF
                    go_upto_region 52 with fail
                    refine wp_region_lit ?_
                    refine wpList_load_row rfl 228 (.tmp 4) rfl (w.heap.size + 1) ?j0 228 _ _ _ HA.out Tryz.underlying228 rfl (size16 T hT) ?_
                    case j0 => rfl
                    refine wpList_store_row rfl 228 (.tmp 2) (.tmp 171) rfl w.heap.size (bv T).toArray ?i0 ?i1 228 _ HR.out (size16 T hT) ?i3 (one_bv T) ?_
                    case i0 => rfl
                    case i1 => rfl
                    case i3 => rw [List.size_toArray, List.size_toArray, bv_length, bv_length, hT]; rfl
                    go_wp2_with fail
                    exact bodyPost_ret (results_cell_tmp rfl _ _ w.heap.size 228 (bv T).toArray (0, 0) _ rfl (HR.out.row _) Tryz.underlying228 rfl (size16 T hT)) rfl ⟨rfl, below_setRow HBE.out (Nat.le_refl _) _⟩
          · -- four numbers
            subst hee
            obtain rfl : E = (e : Int) := HE.out
            have hxJ := ba_get t J 46 (by rw [HTX.out, List.getElem?_append_right (by simp [HJ.out]), hR]; simp [HJ.out])
            have hdJ : decide ((J : Int) < (t.length : Int)) = true := decide_eq_true (by rw [htl, hR]; simp <;> omega)
            have hJt : J < t.length := by rw [htl, hR]; simp
            have hDG := Lib.hid (fun W => digit_none 46 (.inr rfl) W)
            have hF16 : i + 4 ≤ 16 := by rw [HI.out]; exact hDl4
            have hd16 : decide (16 < (i : Int) + 4) = false := decide_eq_false (by omega)
            have hd19 : decide ((e : Int) < 0) = false := decide_eq_false (by omega)
            have hFF : i + 4 = (D ++ [b0, b1, b2, b3]).length := by rw [HI.out]; simp
            have hC := fields4_x b0 b1 b2 b3 (w.heap.size + 1) i 4 (16 - i) (w.heap.size + 1) 228 (bv (pad D)).toArray wr HKG.out (by rw [List.size_toArray, bv_length, pad_length _ (by rw [← HI.out]; omega)]; exact hF16) (Nat.le_refl _) (by omega) (by omega) (by omega) (Nat.le_of_lt HKG.out.lt)
            have hsl := slice16 (w.heap.size + 1) i hF16
            rw [← hq, HI.out, setL_pad _ _ (by simpa using hDl4), ← HI.out] at hC
            have HC := Lib.hid hC
            have HF := Lib.hid hF
            clear htl hR hF hC hq hDl4
            go_upto_region 36 with fail
            refine (hDG.out _).mono ?_
            rintro e2 w3 ⟨rfl, rfl⟩
            go_upto_region 36 with fail
            refine HC.out.mono ?_
            rintro e2 W ⟨rfl, hk2, hb2⟩
            clear HPK HKP HBP
            have HPK := Lib.hid hk2
            have HKP := Lib.hid (HKR.out.below hb2 (Nat.lt_succ_self _))
            have HBP := Lib.hid (HB.out.trans (hb2.mono (Nat.le_succ _)))
            clear hk2 hb2
            go_upto_region 36 with fail
            obtain ⟨F, hFi⟩ : ∃ F, F = i + 4 := ⟨_, rfl⟩
            rw [show (i : Int) + 4 = (F : Int) by omega]
            rw [← hFi] at hFF
            generalize D ++ [b0, b1, b2, b3] = D' at *
            clear hFi
            obtain ⟨heF, hF16, hTF⟩ := HF.out
            have hFF2 := hFF
            rw [← hFF] at heF hF16 hTF
            have hd38 : decide ((F : Int) < 16) = true := decide_eq_true (by omega)
            have hd39 : decide ((e : Int) < 0) = false := decide_eq_false (by omega)
            obtain ⟨n, hn⟩ : ∃ n, F + n = 16 := ⟨16 - F, by omega⟩
            have hDn : 16 - D'.length = n := by omega
            have HTF := Lib.hid hTF
            have HFF := Lib.hid hFF
            clear hTF HF hFF hFF2
            go_wp2_with fail
            rw [show (16 : Int) - (F : Int) = (n : Int) by omega]
            have HDn := Lib.hid hDn
            clear hDn
            go_loopw [10] (fun v10 wq => ∃ m : Nat, e ≤ m ∧ m ≤ F ∧ v10 = .int .i64 ((m : Int) - 1) ∧ Blk wq (w.heap.size + 1) 228 (bv (shf D' m)).toArray ∧ Blk wq w.heap.size 228 (bv (zs 16)).toArray ∧ Below w.heap.size w wq) (fun v10 _ => (intOf v10 + 1).toNat)
            case atStart => exact ⟨F, heF, Nat.le_refl _, rfl, by rw [HFF.out, shf_top (by rw [← HFF.out]; omega)]; exact HPK.out, HKP.out, HBP.out⟩
            case round =>
              obtain ⟨m, hm1, hm2, rfl, hk, hr, hb⟩ := hrel
              have HK := Lib.hid hk
              have HR := Lib.hid hr
              have HBE := Lib.hid hb
              clear hk hr hb
              by_cases hlt : e < m
              · obtain ⟨k, rfl⟩ : ∃ k, m = k + 1 := ⟨m - 1, by omega⟩
                rw [show (((k + 1 : Nat) : Int) - 1) = (k : Int) by omega]
                have hD16 : D'.length ≤ 16 := by rw [← HFF.out]; omega
                have hkD : k < D'.length := by rw [← HFF.out]; omega
                have hg0 : wr.cell? ⟨w.heap.size + 1, k, none⟩ = some (.int .u8 (D'[k]).toNat) := (HK.out.cell k).trans (bv_at (shf_get hD16 hkD (Nat.lt_succ_self k)))
                have hfz : wr.frozen? ⟨w.heap.size + 1, k + n, none⟩ = false := HK.out.frozen (k + n)
                obtain ⟨y, hy⟩ : ∃ y, wr.cell? ⟨w.heap.size + 1, k + n, none⟩ = some y := ⟨_, (HK.out.cell (k + n)).trans (Array.getElem?_eq_getElem (by rw [List.size_toArray, bv_length, shf_length hD16 hkD]; omega))⟩
                have hst := HK.out.set_ (k + n) (.int .u8 (D'[k]).toNat)
                have e1 := shf_step hD16 hkD
                rw [HDn.out] at e1
                rw [bv_setm, e1] at hst
                have HST := Lib.hid hst
                generalize D'[k] = x at *
                have hek : decide ((e : Int) ≤ (k : Int)) = true := decide_eq_true (by omega)
                clear hst e1 hD16 hkD
                go_wp2_with fail
                go_roundw
                case rel => exact ⟨k, by omega, by omega, by go_num, HST.out, HR.out.far (by simp) _, HBE.out.setCell (p := ⟨w.heap.size + 1, k + n, none⟩) (by simp) _⟩
                case measure => simp [intOf] <;> omega
              · rw [show m = e by omega] at HK ⊢
                have hek : decide ((e : Int) ≤ (e : Int) - 1) = false := decide_eq_false (by omega)
                clear hlt hm1 hm2
                go_wp2_with fail
                go_loopw [11] (fun v11 wq => ∃ q : Nat, q ≤ n ∧ v11 = .int .i64 ((e + q : Nat) : Int) ∧ Blk wq (w.heap.size + 1) 228 (bv (zer D' e q)).toArray ∧ Blk wq w.heap.size 228 (bv (zs 16)).toArray ∧ Below w.heap.size w wq) (fun v11 _ => 40 - (intOf v11).toNat)
                case atStart => exact ⟨0, by omega, rfl, by rw [zer_bot (by rw [← HFF.out]; omega) (by rw [← HFF.out]; omega)]; exact HK.out, HR.out, HBE.out⟩
                case round =>
                  clear HK HR HBE
                  obtain ⟨q, hq, rfl, hk, hr, hb⟩ := hrel
                  have HK := Lib.hid hk
                  have HR := Lib.hid hr
                  have HBE := Lib.hid hb
                  clear hk hr hb
                  have hD16 : D'.length ≤ 16 := by rw [← HFF.out]; omega
                  have heD : e ≤ D'.length := by rw [← HFF.out]; omega
                  by_cases hlt : q < n
                  · have hfz : wr.frozen? ⟨w.heap.size + 1, e + q, none⟩ = false := HK.out.frozen (e + q)
                    obtain ⟨y, hy⟩ : ∃ y, wr.cell? ⟨w.heap.size + 1, e + q, none⟩ = some y := ⟨_, (HK.out.cell (e + q)).trans (Array.getElem?_eq_getElem (by rw [List.size_toArray, bv_length, zer_length hD16 heD (by rw [HDn.out]; exact hq)]; omega))⟩
                    have hst := HK.out.set_ (e + q) (.int .u8 (0 : UInt8).toNat)
                    rw [bv_setm, zer_step hD16 heD (by rw [HDn.out]; exact hlt)] at hst
                    have HST := Lib.hid hst
                    obtain ⟨p, hp⟩ : ∃ p, p = e + q := ⟨_, rfl⟩
                    rw [← hp] at hfz hy HST ⊢
                    have hpn : decide ((p : Int) < (e : Int) + (n : Int)) = true := decide_eq_true (by omega)
                    have hp16 : p < 16 := by omega
                    have HPQ := Lib.hid hp
                    clear hst hD16 heD hp
                    go_wp2_with fail
                    go_roundw
                    case rel => exact ⟨q + 1, by omega, by rw [← Nat.add_assoc, ← HPQ.out]; go_num, HST.out, HR.out.far (by simp) _, HBE.out.setCell (p := ⟨w.heap.size + 1, p, none⟩) (by simp) _⟩
                    case measure => simp [intOf] <;> omega
                  · rw [show q = n by omega] at HK ⊢
                    have HA := HK
                    rw [show bv (zer D' e n) = bv T by rw [← HDn.out, zer_top hD16, HTF.out, HDn.out, show 16 - F = n by omega]] at HA
                    have hpn : decide (((e + n : Nat) : Int) < (e : Int) + (n : Int)) = false := decide_eq_false (by omega)
                    clear hD16 heD HK HTF HDn HFF
                    go_upto_region 52 with fail
                    refine wp_region_lit ?_
                    refine wpList_load_row rfl 228 (.tmp 4) rfl (w.heap.size + 1) ?j0 228 _ _ _ HA.out Tryz.underlying228 rfl (size16 T hT) ?_
                    case j0 => rfl
                    refine wpList_store_row rfl 228 (.tmp 2) (.tmp 171) rfl w.heap.size (bv T).toArray ?i0 ?i1 228 _ HR.out (size16 T hT) ?i3 (one_bv T) ?_
                    case i0 => rfl
                    case i1 => rfl
                    case i3 => rw [List.size_toArray, List.size_toArray, bv_length, bv_length, hT]; rfl
                    go_wp2_with fail
                    exact bodyPost_ret (results_cell_tmp rfl _ _ w.heap.size 228 (bv T).toArray (0, 0) _ rfl (HR.out.row _) Tryz.underlying228 rfl (size16 T hT)) rfl ⟨rfl, below_setRow HBE.out (Nat.le_refl _) _⟩
end Go.Proofs.YthpcfnegfdcbjaaGreatDoor
