/- Base58: what the encoder gives the decoder gives back; the first letters of the text of an ID. No condition. -/
import Derived.Test.YthpcfnegfdcbjaaGreatDoorBd
import Derived.Test.YthpcfnegfdcbjaaGreatDoorPr
import Derived.Test.YthpcfnegfdcbjaaGreatDoorMk
import Derived.Test.YthpcfnegfdcbjaaGreatDoorMp
import Derived.Test.YthpcfnegfdcbjaaGreatDoorMg
import Derived.Test.YthpcfnegfdcbjaaGreatDoorMl
namespace Go.Proofs.YthpcfnegfdcbjaaGreatDoor
open Go.RowKit
theorem dval_lt {D : Nat → Nat} (h : ∀ t, D t < 58) (m : Nat) : dval D m < 58 ^ m := by
  induction m with
  | zero => exact Nat.one_pos
  | succ m ih =>
    have h2 : (D m + 1) * 58 ^ m ≤ 58 * 58 ^ m := Nat.mul_le_mul_right _ (h m)
    rw [Nat.add_mul, Nat.one_mul] at h2
    rw [dval, Nat.pow_succ, Nat.mul_comm (58 ^ m)]
    omega
theorem dval_at {D : Nat → Nat} (h : ∀ t, D t < 58) (m i : Nat) (hi : i < m) : dval D m / 58 ^ i % 58 = D i := by
  induction m with
  | zero => omega
  | succ m ih =>
    rw [dval]
    by_cases e : i = m
    · subst e
      rw [Nat.add_mul_div_right _ _ (Nat.pow_pos (by decide)), Nat.div_eq_of_lt (dval_lt h i), Nat.zero_add]
      exact Nat.mod_eq_of_lt (h i)
    · obtain ⟨q, hq⟩ : ∃ q, m = i + 1 + q := ⟨m - (i + 1), by omega⟩
      have h2 : D m * 58 ^ m = (D m * 58 ^ q * 58) * 58 ^ i := by
        rw [hq, Nat.pow_add, Nat.pow_succ]
        simp only [Nat.mul_assoc, Nat.mul_comm, Nat.mul_left_comm]
      rw [h2, Nat.add_mul_div_right _ _ (Nat.pow_pos (by decide)), Nat.add_mul_mod_self_right]
      exact ih (by omega)
theorem dval_ge {D : Nat → Nat} (m : Nat) (h : D m ≠ 0) : 58 ^ m ≤ dval D (m + 1) := by
  have h1 : 1 * 58 ^ m ≤ D m * 58 ^ m := Nat.mul_le_mul_right _ (by omega)
  rw [dval]
  omega
theorem bnum_byte_take (l : List UInt8) (q : Nat) : q ≤ l.length → ∀ i (_ : i < q) (hl : i < l.length), bnum (l.take q) / 256 ^ (q - 1 - i) % 256 = (l[i]).toNat := by
  induction q with
  | zero => intro _ i h; omega
  | succ q ih =>
    intro hq i h hl
    have hql : q < l.length := by omega
    rw [List.take_succ_eq_append_getElem hql, bnum_app]
    by_cases e : i = q
    · subst e
      rw [show i + 1 - 1 - i = 0 by omega, Nat.pow_zero, Nat.div_one]
      have := (l[i]).toNat_lt
      omega
    · rw [show q + 1 - 1 - i = (q - 1 - i) + 1 by omega, Nat.pow_succ, Nat.mul_comm (256 ^ _) 256, ← Nat.div_div_eq_div_mul]
      have hb := (l[q]).toNat_lt
      rw [show (bnum (l.take q) * 256 + (l[q]).toNat) / 256 = bnum (l.take q) by omega]
      exact ih (by omega) i (by omega) hl
/-- A byte out of the number. -/
theorem bnum_byte (l : List UInt8) (i : Nat) (h : i < l.length) : bnum l / 256 ^ (l.length - 1 - i) % 256 = (l[i]).toNat := by
  have := bnum_byte_take l l.length (Nat.le_refl _) i h h
  rwa [List.take_length] at this
theorem bnum_zeros (k : Nat) : ∀ l : List UInt8, (∀ t, t < k → l[t]? = some 0) → bnum l = bnum (l.drop k) := by
  induction k with
  | zero => intro l _; rfl
  | succ k ih =>
    intro l h
    have h0 := h 0 (by omega)
    rcases l with _ | ⟨b, l⟩
    · simp at h0
    · have hb : b = 0 := by simpa using h0
      subst hb
      rw [List.drop_succ_cons, ← ih l (fun t ht => by have := h (t + 1) (by omega); simpa using this)]
      simp [bnum]
/-- What the decoder gives is what the encoder took. -/
theorem dec_enc {d : List UInt8} {k J : Nat} {D : Nat → Nat} (hk : k ≤ d.length) (hz : ∀ t, t < k → d[t]? = some 0) (hnz : ∀ h : k < d.length, d[k] ≠ 0) (hD : ∀ t, D t < 58) (hv : dval D J = bnum (d.drop k)) (hJ : J = 0 ∨ D (J - 1) ≠ 0) {R : List UInt8} (hR : DecR (dval D J) (k + J) k R) : R = d := by
  rcases Nat.lt_or_ge k d.length with hkl | hkl
  · have hV : dval D J = bnum d := by rw [hv, bnum_zeros k d hz]
    obtain ⟨m, hm⟩ : ∃ m, d.length = k + m + 1 := ⟨d.length - k - 1, by omega⟩
    have hVlt : bnum d < 256 ^ (m + 1) := by rw [bnum_zeros k d hz]; exact bnum_lt _ _ (by rw [List.length_drop]; omega)
    have htop : bnum d / 256 ^ m % 256 ≠ 0 := by
      have h1 := bnum_byte d k hkl
      rw [show d.length - 1 - k = m by omega] at h1
      rw [h1]
      exact fun e => hnz hkl (UInt8.toNat_inj.1 (e.trans rfl))
    have hge : 256 ^ m ≤ bnum d := by
      rcases Nat.lt_or_ge (bnum d) (256 ^ m) with h1 | h1
      · rw [Nat.div_eq_of_lt h1] at htop
        exact absurd rfl htop
      · exact h1
    have hmJ : m < J := by
      rcases Nat.lt_or_ge m J with h1 | h1
      · exact h1
      · have h2 := dval_lt hD J
        have h3 : 58 ^ J ≤ 58 ^ m := Nat.pow_le_pow_right (by decide) h1
        have h4 : 58 ^ m ≤ 256 ^ m := Nat.pow_le_pow_left (by decide) m
        omega
    rw [hV] at hR
    have hp : byteAt (bnum d) (k + J) (k + J - (m + 1)) ≠ 0 := by
      unfold byteAt
      rw [show k + J - 1 - (k + J - (m + 1)) = m by omega]
      exact htop
    have hlo : ∀ q, q < k + J - (m + 1) → byteAt (bnum d) (k + J) q = 0 := fun q hq => by
      unfold byteAt
      have h1 : 256 ^ (m + 1) ≤ 256 ^ (k + J - 1 - q) := Nat.pow_le_pow_right (by decide) (by omega)
      rw [Nat.div_eq_of_lt (Nat.lt_of_lt_of_le hVlt h1)]
    rcases hR with ⟨_, h0⟩ | ⟨n0, hn0, h0, h1, rfl⟩
    · exact absurd (h0 _ (by omega)) hp
    · obtain rfl : n0 = k + J - (m + 1) := by
        rcases Nat.lt_trichotomy n0 (k + J - (m + 1)) with h2 | h2 | h2
        · exact absurd (hlo _ h2) h1
        · exact h2
        · exact absurd (h0 _ h2) hp
      apply List.ext_getElem
      · rw [List.length_drop, beL_length]
        omega
      · intro i h2 h3
        have h4 := bnum_byte d i h3
        apply UInt8.toNat_inj.1
        rw [List.getElem_drop]
        simp only [beL, List.getElem_map, List.getElem_range, UInt8.toNat_ofNat']
        unfold byteAt
        rw [show k + J - 1 - (k + J - (m + 1) - k + i) = d.length - 1 - i by omega, h4]
        exact Nat.mod_eq_of_lt (d[i]).toNat_lt
  · have hV0 : bnum (d.drop k) = 0 := by rw [List.drop_eq_nil_of_le hkl]; rfl
    have hJ0 : J = 0 := by
      rcases hJ with h | h
      · exact h
      · rcases J with _ | J
        · rfl
        · have h1 := dval_ge J (by simpa using h)
          have h2 : 0 < 58 ^ J := Nat.pow_pos (by decide)
          omega
    subst hJ0
    rw [hv, hV0] at hR
    rcases hR with ⟨rfl, _⟩ | ⟨n0, _, _, h1, _⟩
    · apply List.ext_getElem
      · rw [beL_length]
        omega
      · intro i h2 h3
        have h4 := hz i (by rw [beL_length] at h2; omega)
        rw [List.getElem?_eq_getElem h3] at h4
        injection h4 with h4
        rw [h4]
        simp [beL, byteAt]
    · exact absurd (by simp [byteAt]) h1
theorem enc_pos {d : List UInt8} {k J : Nat} {D : Nat → Nat} (h0 : 0 < d.length) (hnz : ∀ h : k < d.length, d[k] ≠ 0) (hv : dval D J = bnum (d.drop k)) : 0 < k + J := by
  rcases Nat.eq_zero_or_pos (k + J) with h | h
  · obtain rfl : k = 0 := by omega
    obtain rfl : J = 0 := by omega
    have h1 := bnum_byte d 0 h0
    have h2 : bnum d = 0 := by
      rw [List.drop_zero] at hv
      exact hv.symm
    rw [h2, Nat.zero_div] at h1
    exact absurd (UInt8.toNat_inj.1 (h1.symm.trans rfl)) (hnz h0)
  · exact h
theorem bnum_acc_ge (l : List UInt8) : ∀ a, a * 256 ^ l.length ≤ l.foldl (fun a b => a * 256 + b.toNat) a := by
  induction l with
  | nil => intro a; simp
  | cons b l ih =>
    intro a
    have h1 := ih (a * 256 + b.toNat)
    have h2 : (a * 256) * 256 ^ l.length ≤ (a * 256 + b.toNat) * 256 ^ l.length := Nat.mul_le_mul_right _ (by omega)
    rw [List.foldl_cons, List.length_cons, Nat.pow_succ, Nat.mul_comm (256 ^ l.length) 256, ← Nat.mul_assoc]
    exact Nat.le_trans h2 h1
theorem qm_num (r : List UInt8) (hr : r.length = 32) : bnum (18 :: 32 :: r) / 58 ^ 44 = 1378 := by
  have e : bnum (18 :: 32 :: r) = r.foldl (fun a b => a * 256 + b.toNat) 4640 := by simp [bnum]
  have h1 := bnum_acc_ge r 4640
  have h2 := bnum_acc r 4640
  rw [← e, hr] at h1 h2
  have h3 : 1378 * 58 ^ 44 ≤ 4640 * 256 ^ 32 := by decide
  have h4 : (4640 + 1) * 256 ^ 32 ≤ (1378 + 1) * 58 ^ 44 := by decide
  exact Nat.div_eq_of_lt_le (Nat.le_trans h3 h1) (Nat.lt_of_lt_of_le h2 h4)
theorem qm_digits {D : Nat → Nat} {J V : Nat} (hD : ∀ t, D t < 58) (hV : V / 58 ^ 44 = 1378) (hv : dval D J = V) (hJ : J = 0 ∨ D (J - 1) ≠ 0) : J = 46 ∧ D 45 = 23 ∧ D 44 = 44 := by
  have h45 : V / 58 ^ 45 = 23 := by rw [Nat.pow_succ, ← Nat.div_div_eq_div_mul, hV]
  have hJ46 : J = 46 := by
    rcases Nat.lt_trichotomy J 46 with h | h | h
    · have h1 := dval_lt hD J
      have h2 : 58 ^ J ≤ 58 ^ 45 := Nat.pow_le_pow_right (by decide) (by omega)
      rw [hv] at h1
      rw [Nat.div_eq_of_lt (Nat.lt_of_lt_of_le h1 h2)] at h45
      exact absurd h45 (by decide)
    · exact h
    · rcases hJ with h0 | h0
      · omega
      · obtain ⟨j, rfl⟩ : ∃ j, J = j + 1 := ⟨J - 1, by omega⟩
        have h1 := dval_ge j (by simpa using h0)
        have h2 : 58 ^ 46 ≤ 58 ^ j := Nat.pow_le_pow_right (by decide) (by omega)
        have h3 : V / 58 ^ 46 = 0 := by rw [Nat.pow_succ, ← Nat.div_div_eq_div_mul, h45]
        have h4 : V < 58 ^ 46 := (Nat.div_eq_zero_iff_lt (Nat.pow_pos (by decide))).1 h3
        exact absurd h1 (by rw [hv]; exact Nat.not_le.2 (Nat.lt_of_lt_of_le h4 h2))
  subst hJ46
  refine ⟨rfl, ?_, ?_⟩
  · rw [← dval_at hD 46 45 (by decide), hv, h45]
  · rw [← dval_at hD 46 44 (by decide), hv, hV]
theorem txt_two (J : Nat) (D : Nat → Nat) : ∃ r, txt 0 (J + 2) D = letter (D (J + 1)) :: letter (D J) :: r :=
  ⟨((List.range J).map Nat.succ |>.map Nat.succ).map (fun t => letter (D (J + 2 - 1 - t))), by
    unfold txt
    rw [List.range_succ_eq_map, List.range_succ_eq_map]
    simp⟩
theorem txt_one (k J : Nat) (D : Nat → Nat) : ∃ r, txt (k + 1) J D = letter 0 :: r := ⟨_, by unfold txt; rw [List.replicate_succ, List.cons_append]⟩
/-- The first letters of the text of an ID. -/
theorem id_head (l : List UInt8) (k J : Nat) (D : Nat → Nat) (hz : ∀ t, t < k → (idOf l)[t]? = some 0) (hnz : ∀ h : k < (idOf l).length, (idOf l)[k] ≠ 0) (hD : ∀ t, D t < 58) (hv : dval D J = bnum ((idOf l).drop k)) (hJ : J = 0 ∨ D (J - 1) ≠ 0) :
    (∃ r, txt k J D = 81 :: 109 :: r) ∨ ∃ r, txt k J D = 49 :: r := by
  obtain ⟨x, y, v, d, hid, hx, hy, _, hvd⟩ := id_form l
  rcases hvd with hv0 | ⟨hv18, hd⟩
  · have hx0 : x = 0 := UInt8.toNat_inj.1 (by rw [hx, hv0]; rfl)
    rcases k with _ | k
    · exact absurd (by simp [hid, hx0]) (hnz (by simp [hid]))
    · obtain ⟨r, hr⟩ := txt_one k J D
      exact Or.inr ⟨r, hr.trans (by rw [show letter 0 = 49 by decide])⟩
  · have hx18 : x = 18 := UInt8.toNat_inj.1 (by rw [hx, hv18]; rfl)
    have hy32 : y = 32 := UInt8.toNat_inj.1 (by rw [hy, hd]; rfl)
    rcases k with _ | k
    · rw [List.drop_zero, hid, hx18, hy32] at hv
      obtain ⟨rfl, h1, h2⟩ := qm_digits hD (qm_num d hd) hv hJ
      obtain ⟨r, hr⟩ := txt_two 44 D
      exact Or.inl ⟨r, hr.trans (by rw [h1, h2, show letter 23 = 81 by decide, show letter 44 = 109 by decide])⟩
    · have h0 := hz 0 (by omega)
      rw [hid, hx18] at h0
      simp at h0
end Go.Proofs.YthpcfnegfdcbjaaGreatDoor

/- The text of an ID, and back: base58 through all its doors, the prefixes, peer.Decode, peer.IDFromBytes. -/
namespace Go.Proofs.YthpcfnegfdcbjaaGreatDoor
open Go.RowKit
attribute [local go_sem ↓] Go.wp_at_zero Go.wp_at_succ
/-- Bytes in new memory, and no error. -/
def OutBN (d : List UInt8) (w : World) (e : Ending) (w' : World) : Prop :=
  ∃ A c, e = .returned (.tuple #[.slice A d.length c, .nilIface]) ∧ RB w' w'.heap.size A d.length c d ∧ Below w.heap.size w w'
/-- Bytes in memory that is new, and no error. -/
def OutBF (d : List UInt8) (w : World) (e : Ending) (w' : World) : Prop :=
  ∃ g o c : Nat, e = .returned (.tuple #[.slice (some ⟨g, o, none⟩) d.length c, .nilIface]) ∧ w.heap.size ≤ g ∧ RB w' w'.heap.size (some ⟨g, o, none⟩) d.length c d ∧ Below w.heap.size w w'
theorem OutBF.bn {d : List UInt8} {w w' : World} {e : Ending} (h : OutBF d w e w') : OutBN d w e w' := by
  obtain ⟨g, o, c, h1, _, h2, h3⟩ := h
  exact ⟨_, c, h1, h2, h3⟩
/-- A text that is the one of bytes. -/
def OutSX (d : List UInt8) (w : World) (e : Ending) (w' : World) : Prop :=
  ∃ s, e = .returned (.string s) ∧ Enc58 d s ∧ Below w.heap.size w w'
/-- Bytes in new memory, and true. -/
def OutBT (d : List UInt8) (w : World) (e : Ending) (w' : World) : Prop :=
  ∃ A c, e = .returned (.tuple #[.slice A d.length c, .bool true]) ∧ RB w' w'.heap.size A d.length c d ∧ Below w.heap.size w w'
theorem dec_x (d : List UInt8) (s : ByteArray) (hs : Enc58 d s) (h0 : 0 < d.length) (hd : d.length ≤ 44) (w : World) (p : Nat) (xs : Array Value) (hp : Blk w p 337 xs) (ha : AlpX xs 58) :
    Calls Tryz.prog 332 #[.string s, .pointer (some ⟨p, 0, none⟩)] w (OutBF d w) := by
  obtain ⟨k, J, D, rfl, hk, hz, hnz, hD, hv, hJ, hJ61⟩ := hs
  refine (dec58_x (txt k J D) (dgOf k J D) (k + J) k w p xs hp ha (txt_length k J D) (enc_pos h0 hnz hv) (by omega) (fun q h => txt_get k J D q (by rwa [txt_length] at h)) (dgOf_lt k J D hD) (Nat.le_add_right _ _) (fun q hq => by unfold dgOf; rw [if_pos hq]) (fun h => by
    unfold dgOf
    rw [if_neg (by omega), Nat.sub_self, Nat.sub_zero]
    rcases hJ with h1 | h1
    · omega
    · exact h1)).mono ?_
  rintro e w' ⟨g, o, c, R, rfl, hf, hR, hrb, hb⟩
  rw [nv_all] at hR
  obtain rfl : R = d := dec_enc hk hz hnz hD hv hJ hR
  exact ⟨g, o, c, rfl, hf, hrb, hb⟩
set_option maxHeartbeats 2000000 in
set_option maxRecDepth 100000 in
theorem fastdec_x (d : List UInt8) (s : ByteArray) (hs : Enc58 d s) (h0 : 0 < d.length) (hd : d.length ≤ 44) (w : World) : Calls Tryz.prog 351 #[.string s] w (OutBF d w) := by
  have HB := Lib.hid (btc_x w)
  have HS := Lib.hid (fun w1 p xs hb ha => dec_x d s hs h0 hd w1 p xs hb ha)
  clear hs h0
  go_enter Tryz.func351, Tryz.ntmps351
  go_wp2_with fail
  refine HB.out.mono ?_
  rintro e w1 ⟨xs, rfl, hb, ha, hbe⟩
  have HE := Lib.hid (HS.out w1 _ xs hb ha)
  have HBE := Lib.hid hbe
  clear hb ha hbe
  go_wp2_with fail
  refine HE.out.mono ?_
  rintro e w2 ⟨g2, o2, c2, rfl, hf, hr, hb2⟩
  have HR := Lib.hid hr
  have HF := Lib.hid (Nat.le_trans HBE.out.size hf)
  have HB2 := Lib.hid (HBE.out.trans (hb2.mono HBE.out.size))
  clear hr hb2 hf
  go_wp2_with fail
  go_ret2
  exact ⟨g2, o2, c2, rfl, HF.out, HR.out, HB2.out⟩
set_option maxHeartbeats 2000000 in
set_option maxRecDepth 100000 in
theorem decode_x (d : List UInt8) (s : ByteArray) (hs : Enc58 d s) (h0 : 0 < d.length) (hd : d.length ≤ 44) (w : World) : Calls Tryz.prog 297 #[.string s] w (OutBF d w) := by
  have HE := Lib.hid (fastdec_x d s hs h0 hd w)
  clear hs h0
  go_enter Tryz.func297, Tryz.ntmps297
  go_wp2_with fail
  refine HE.out.mono ?_
  rintro e w2 ⟨g2, o2, c2, rfl, hf, hr, hb2⟩
  have HR := Lib.hid hr
  have HF := Lib.hid hf
  have HB2 := Lib.hid hb2
  clear hr hb2 hf
  go_wp2_with fail
  go_ret2
  exact ⟨g2, o2, c2, rfl, HF.out, HR.out, HB2.out⟩
theorem cast_id (l : List UInt8) (A : Option Addr) (c : Nat) (w : World) (h : RB w w.heap.size A (idOf l).length c (idOf l)) :
    Calls Tryz.prog 239 #[.slice A (idOf l).length c] w fun e w' => e = .returned (.tuple #[.slice A (idOf l).length c, .nilIface]) ∧ Below w.heap.size w w' := by
  obtain ⟨x, y, v, r, hid, hx, hy, hr, hv⟩ := id_form l
  rw [hid] at h ⊢
  exact cast_any A c x y v r w h hx (by omega) hy (by omega)
theorem idOf_pos (l : List UInt8) : 0 < (idOf l).length := by
  obtain ⟨x, y, v, r, hid, _⟩ := id_form l
  rw [hid]
  exact Nat.succ_pos _
set_option maxHeartbeats 2000000 in
set_option maxRecDepth 100000 in
theorem fromb58_f (l : List UInt8) (s : ByteArray) (hs : Enc58 (idOf l) s) (w : World) : Calls Tryz.prog 235 #[.string s] w (OutBF (idOf l) w) := by
  have q0 : ∀ w : World, (binOp .neq 56 .nilIface .nilIface).run Tryz.prog w = .ok (.bool false) w := fun _ => by kernel_rfl
  have HE := Lib.hid (decode_x (idOf l) s hs (idOf_pos l) (idOf_le l) w)
  have HC := Lib.hid (cast_id l)
  obtain ⟨I, hI⟩ : ∃ I, I = idOf l := ⟨_, rfl⟩
  rw [← hI] at HE HC ⊢
  clear hs hI
  go_enter Tryz.func235, Tryz.ntmps235
  go_wp2_with fail
  refine HE.out.mono ?_
  rintro e w2 ⟨g2, o2, c2, rfl, hf, hr, hb2⟩
  have HR := Lib.hid hr
  have HF := Lib.hid hf
  have HB2 := Lib.hid hb2
  clear hr hb2 hf
  go_wp2_with fail
  refine (HC.out _ c2 _ HR.out).mono ?_
  rintro e w3 ⟨rfl, hb3⟩
  have HR3 := Lib.hid (HR.out.next hb3)
  have HB3 := Lib.hid (HB2.out.trans (hb3.mono HB2.out.size))
  clear hb3
  go_wp2_with fail
  go_ret2
  exact ⟨g2, o2, c2, rfl, HF.out, HR3.out, HB3.out⟩
theorem fromb58_x (l : List UInt8) (s : ByteArray) (hs : Enc58 (idOf l) s) (w : World) : Calls Tryz.prog 235 #[.string s] w (OutBN (idOf l) w) := (fromb58_f l s hs w).mono fun _ _ h => h.bn
set_option maxHeartbeats 2000000 in
set_option maxRecDepth 100000 in
theorem fast_x (A : Option Addr) (n c : Nat) (d : List UInt8) (w : World) (hd : d.length ≤ 44) (h : RB w w.heap.size A n c d) : Calls Tryz.prog 354 #[.slice A n c] w (OutSX d w) := by
  have HB := Lib.hid (btc_x w)
  have H := Lib.hid h
  clear h
  go_enter Tryz.func354, Tryz.ntmps354
  go_wp2_with fail
  refine HB.out.mono ?_
  rintro e w1 ⟨xs, rfl, hb, ha, hbe⟩
  have HE := Lib.hid (enc58_x A n c d w1 _ xs hd (H.out.next hbe) hb ha)
  have HBE := Lib.hid hbe
  clear hb ha hbe
  go_wp2_with fail
  refine HE.out.mono ?_
  rintro e w2 ⟨s, rfl, hs, hb2⟩
  have HS := Lib.hid hs
  have HB2 := Lib.hid (HBE.out.trans (hb2.mono HBE.out.size))
  clear hb2 hs
  go_wp2_with fail
  go_ret
  exact ⟨s, rfl, HS.out, HB2.out⟩
set_option maxHeartbeats 2000000 in
set_option maxRecDepth 100000 in
theorem encode_x (A : Option Addr) (n c : Nat) (d : List UInt8) (w : World) (hd : d.length ≤ 44) (h : RB w w.heap.size A n c d) : Calls Tryz.prog 303 #[.slice A n c] w (OutSX d w) := by
  have HE := Lib.hid (fast_x A n c d w hd h)
  clear h
  go_enter Tryz.func303, Tryz.ntmps303
  go_wp2_with fail
  refine HE.out.mono ?_
  rintro e w2 ⟨s, rfl, hs, hb2⟩
  have HS := Lib.hid hs
  have HB2 := Lib.hid hb2
  clear hb2 hs
  go_wp2_with fail
  go_ret
  exact ⟨s, rfl, HS.out, HB2.out⟩
end Go.Proofs.YthpcfnegfdcbjaaGreatDoor

/- A part's value as a text, kind by kind. Nothing beyond HopOk is asked. -/
namespace Go.Proofs.YthpcfnegfdcbjaaGreatDoor
open Go.RowKit
variable {K : Nat}
attribute [local go_sem ↓] Go.wp_at_zero Go.wp_at_succ
set_option maxHeartbeats 2000000 in
set_option maxRecDepth 100000 in
theorem b58str_x (A : Option Addr) (n c : Nat) (d : List UInt8) (w : World) (hd : d.length ≤ 44) (h : RB w w.heap.size A n c d) : Calls Tryz.prog 240 #[.slice A n c] w (OutSX d w) := by
  have HE := Lib.hid (encode_x A n c d w hd h)
  clear h
  go_enter Tryz.func240, Tryz.ntmps240
  go_wp2_with fail
  refine HE.out.mono ?_
  rintro e w2 ⟨s, rfl, hs, hb2⟩
  have HB2 := Lib.hid hb2
  have HS := Lib.hid hs
  clear hb2 hs
  go_wp2_with fail
  go_ret
  exact ⟨s, rfl, HS.out, HB2.out⟩
set_option maxHeartbeats 4000000 in
set_option maxRecDepth 100000 in
theorem p2pbts_x (g c : Nat) (b b2 : UInt8) (v : Nat) (l : List UInt8) (w : World) (h : RB w w.heap.size (some ⟨g, 0, none⟩) (l.length + 2) c (b :: b2 :: l)) (hv : b.toNat = v) (hb : v < 128) (hv2 : b2.toNat = l.length) (hb2 : l.length ≤ 42) :
    Calls Tryz.prog 201 #[.slice (some ⟨g, 0, none⟩) (l.length + 2) c] w (OutG (Enc58 (b :: b2 :: l)) w) := by
  have HC := Lib.hid (cast_any _ c b b2 v l w h hv hb hv2 (by omega))
  have HB := Lib.hid h
  clear h hv hv2
  go_enter Tryz.func201, Tryz.ntmps201
  go_wp2_with fail
  refine HC.out.mono ?_
  rintro e w1 ⟨rfl, hb1⟩
  have HB1 := Lib.hid hb1
  clear hb1
  go_wp2_with fail
  refine (b58str_x _ _ c (b :: b2 :: l) w1 (by simp; omega) (HB.out.next HB1.out)).mono ?_
  rintro e w2 ⟨s, rfl, hs, hb2⟩
  have HB2 := Lib.hid (HB1.out.trans (hb2.mono HB1.out.size))
  have HS := Lib.hid hs
  clear hb2 hs
  go_wp2_with fail
  go_ret2
  exact ⟨s, rfl, HS.out, HB2.out⟩
/-- What text stands for a part's value. -/
def ValTxt (kd : Nat) (l s : List UInt8) : Prop :=
  (kd % 8 = 0 ∧ ∃ b0 b1 b2 b3, filled l 4 = [b0, b1, b2, b3] ∧ s = dotted b0 b1 b2 b3) ∨ ((kd % 8 = 1 ∨ kd % 8 = 2) ∧ ∃ b0 b1, filled l 2 = [b0, b1] ∧ s = Lib.decDigits (b0.toNat * 256 + b1.toNat)) ∨
  ((kd % 8 = 3 ∨ kd % 8 = 4 ∨ kd % 8 = 5) ∧ s = []) ∨ (kd % 8 = 6 ∧ Enc58 (idOf l) ⟨s.toArray⟩) ∨ (kd % 8 = 7 ∧ Txt6 (filled l 16) s)
def ValTx (kd : Nat) (l : List UInt8) (s : ByteArray) : Prop := ∃ t : List UInt8, s = ⟨t.toArray⟩ ∧ ValTxt kd l t
theorem OutTxE.g {G : ByteArray → Prop} {s : ByteArray} {w w' : World} {e : Ending} (h : OutTxE s w e w') (hg : G s) : OutG G w e w' := ⟨s, h.1, hg, h.2⟩
theorem len4 {d : List UInt8} (h : d.length = 4) : ∃ b0 b1 b2 b3, d = [b0, b1, b2, b3] := by
  match d, h with
  | [b0, b1, b2, b3], _ => exact ⟨b0, b1, b2, b3, rfl⟩
theorem len2 {d : List UInt8} (h : d.length = 2) : ∃ b0 b1, d = [b0, b1] := by
  match d, h with
  | [b0, b1], _ => exact ⟨b0, b1, rfl⟩
theorem beNat2 (b0 b1 : UInt8) : Lib.beNat [b0, b1] = b0.toNat * 256 + b1.toNat := by simp [Lib.beNat, Lib.beFrom]
set_option maxHeartbeats 2000000 in
theorem value_hop (kd : Nat) (l : List UInt8) (q p g : Nat) (w : World) (ht : Tab K w) (hok : HopOk K kd l) (h : Blk w q 91 (ccells (hopBytes kd l) p (vsOf kd))) (hp : Blk w p 99 (pcells (codeOf kd) g)) :
    Calls Tryz.prog 83 #[.pointer (some ⟨q, 0, none⟩)] w (OutG (ValTx kd l) w) := by
  have h8 : kd % 8 < 8 := Nat.mod_lt _ (by omega)
  rcases (by omega : kd % 8 = 0 ∨ kd % 8 = 1 ∨ kd % 8 = 2 ∨ kd % 8 = 3 ∨ kd % 8 = 4 ∨ kd % 8 = 5 ∨ kd % 8 = 6 ∨ kd % 8 = 7) with e | e | e | e | e | e | e | e
  · have hb : hopBytes kd l = [4] ++ filled l 4 := by simp [hopBytes, e]
    have hc : codeOf kd = 4 := by simp [codeOf, e]
    have hv : vsOf kd = 1 := by simp [vsOf, e]
    obtain ⟨b0, b1, b2, b3, hd⟩ := len4 (filled_length l 4)
    have hk := hok.ip e
    rw [hb, hv] at h
    rw [hc] at hp
    rw [hd] at h hk
    refine value_someg (ValTx kd l) q _ p 1 g 4 167 168 .nilFunc (Or.inl rfl) rfl ent_ip4 w ht h hp (by simp) (by simp) fun L hL w2 g2 c2 ht2 hr2 => ?_
    have hLd : L = [b0, b1, b2, b3] := by rw [hL]; rfl
    subst hLd
    exact (ip4_x g2 c2 b0 b1 b2 b3 w2 hr2 (hk b0 (by simp)) (hk b1 (by simp)) (hk b2 (by simp)) (hk b3 (by simp)) ht2).mono fun _ _ h => h.g ⟨_, rfl, .inl ⟨e, b0, b1, b2, b3, hd, rfl⟩⟩
  · have hb : hopBytes kd l = [6] ++ filled l 2 := by simp [hopBytes, e]
    have hc : codeOf kd = 6 := by simp [codeOf, e]
    have hv : vsOf kd = 1 := by simp [vsOf, e]
    obtain ⟨b0, b1, hd⟩ := len2 (filled_length l 2)
    have hk := hok.port (.inl e)
    rw [hb, hv] at h
    rw [hc] at hp
    rw [hd] at h hk
    refine value_someg (ValTx kd l) q _ p 1 g 6 169 170 .nilFunc (Or.inl rfl) rfl ent_port w ht h hp (by simp) (by simp) fun L hL w2 g2 c2 ht2 hr2 => ?_
    have hLd : L = [b0, b1] := by rw [hL]; rfl
    subst hLd
    exact (port_x g2 c2 b0 b1 w2 hr2 hk ht2).mono fun _ _ h => h.g ⟨_, rfl, .inr (.inl ⟨.inl e, b0, b1, hd, by rw [beNat2]⟩)⟩
  · have hb : hopBytes kd l = [145, 2] ++ filled l 2 := by simp [hopBytes, e]
    have hc : codeOf kd = 273 := by simp [codeOf, e]
    have hv : vsOf kd = 2 := by simp [vsOf, e]
    obtain ⟨b0, b1, hd⟩ := len2 (filled_length l 2)
    have hk := hok.port (.inr e)
    rw [hb, hv] at h
    rw [hc] at hp
    rw [hd] at h hk
    refine value_someg (ValTx kd l) q _ p 2 g 273 169 170 .nilFunc (Or.inl rfl) rfl ent_port w ht h hp (by simp) (by simp) fun L hL w2 g2 c2 ht2 hr2 => ?_
    have hLd : L = [b0, b1] := by rw [hL]; rfl
    subst hLd
    exact (port_x g2 c2 b0 b1 w2 hr2 hk ht2).mono fun _ _ h => h.g ⟨_, rfl, .inr (.inl ⟨.inr e, b0, b1, hd, by rw [beNat2]⟩)⟩
  · have hb : hopBytes kd l = [205, 3] := by simp [hopBytes, e]
    have hc : codeOf kd = 461 := by simp [codeOf, e]
    have hv : vsOf kd = 2 := by simp [vsOf, e]
    rw [hb, hv] at h
    rw [hc] at hp
    exact value_noneg (ValTx kd l) ⟨[], rfl, .inr (.inr (.inl ⟨.inl e, rfl⟩))⟩ q _ p 2 g 461 rfl w h hp
  · have hb : hopBytes kd l = [221, 3] := by simp [hopBytes, e]
    have hc : codeOf kd = 477 := by simp [codeOf, e]
    have hv : vsOf kd = 2 := by simp [vsOf, e]
    rw [hb, hv] at h
    rw [hc] at hp
    exact value_noneg (ValTx kd l) ⟨[], rfl, .inr (.inr (.inl ⟨.inr (.inl e), rfl⟩))⟩ q _ p 2 g 477 rfl w h hp
  · have hb : hopBytes kd l = [162, 2] := by simp [hopBytes, e]
    have hc : codeOf kd = 290 := by simp [codeOf, e]
    have hv : vsOf kd = 2 := by simp [vsOf, e]
    rw [hb, hv] at h
    rw [hc] at hp
    exact value_noneg (ValTx kd l) ⟨[], rfl, .inr (.inr (.inl ⟨.inr (.inr e), rfl⟩))⟩ q _ p 2 g 290 rfl w h hp
  · have hb : hopBytes kd l = [165, 3] ++ [UInt8.ofNat (idOf l).length] ++ idOf l := by simp [hopBytes, e]
    have hc : codeOf kd = 421 := by simp [codeOf, e]
    have hv : vsOf kd = 3 := by simp [vsOf, e]
    obtain ⟨x, y, v, d, hid, hx, hy, hd, hvv⟩ := id_form l
    rw [hb, hv] at h
    rw [hc] at hp
    refine value_someg (ValTx kd l) q _ p 3 g 421 200 201 (.func (Fn.func 202) #[] #[]) (Or.inr ⟨_, rfl⟩) rfl ent_p2p w ht h hp (by simp) (by rw [hid]; simp; omega) fun L hL w2 g2 c2 ht2 hr2 => ?_
    have hLd : L = x :: y :: d := by rw [hL, ← hid]; rfl
    subst hLd
    refine (p2pbts_x g2 c2 x y v d w2 hr2 hx (by omega) hy hd).mono ?_
    rintro e2 w3 ⟨s, h1, h2, h3⟩
    exact ⟨s, h1, ⟨s.data.toList, by simp, .inr (.inr (.inr (.inl ⟨e, by rw [hid]; simpa using h2⟩)))⟩, h3⟩
  · have hb : hopBytes kd l = [41] ++ filled l 16 := by simp [hopBytes, e]
    have hc : codeOf kd = 41 := by simp [codeOf, e]
    have hv : vsOf kd = 1 := by simp [vsOf, e]
    have hk := hok.six e
    have hl := filled_length l 16
    rw [hb, hv] at h
    rw [hc] at hp
    refine value_someg (ValTx kd l) q _ p 1 g 41 174 175 .nilFunc (Or.inl rfl) rfl ent_ip6 w ht h hp (by simp) (by simp [hl]) fun L hL w2 g2 c2 ht2 hr2 => ?_
    have hLd : L = filled l 16 := by rw [hL]; rfl
    subst hLd
    refine (ip6_x g2 c2 _ w2 hl hk hr2 ht2).mono ?_
    rintro e2 w3 ⟨s, h1, h2⟩
    exact h1.g ⟨s, rfl, .inr (.inr (.inr (.inr ⟨e, h2⟩)))⟩
end Go.Proofs.YthpcfnegfdcbjaaGreatDoor

/- The texts of values: how long they are, and that no '/' stands in them. -/
namespace Go.Proofs.YthpcfnegfdcbjaaGreatDoor
open Go.RowKit
/-- No '/' among these bytes. -/
def NoSl (s : List UInt8) : Prop := ∀ c ∈ s, c ≠ 47
theorem NoSl.app {a b : List UInt8} (h : NoSl a) (h2 : NoSl b) : NoSl (a ++ b) := fun c hc => (List.mem_append.1 hc).elim (h c) (h2 c)
theorem NoSl.cons {x : UInt8} {a : List UInt8} (hx : x ≠ 47) (h : NoSl a) : NoSl (x :: a) := fun c hc => by
  rcases List.mem_cons.1 hc with rfl | hc
  · exact hx
  · exact h c hc
theorem NoSl.nil : NoSl [] := fun _ hc => by simp at hc
theorem hexd_47 (x : Nat) (hx : x < 16) : hexd x ≠ 47 := fun e => by
  have := hexd_nat x hx
  rw [e] at this; simp at this; split at this <;> omega
theorem nosl_map (xs : List Nat) (h : ∀ x ∈ xs, x < 16) : NoSl (xs.map hexd) := fun c hc => by
  obtain ⟨x, hx, rfl⟩ := List.mem_map.1 hc
  exact hexd_47 x (h x hx)
theorem nosl_hex (n : Nat) : NoSl (hexT n) := by
  rw [hexT_map]
  exact nosl_map _ (hexL_lt n)
theorem nosl_dec (n : Nat) : NoSl (Lib.decDigits n) := by
  obtain ⟨xs, e1, e2, _⟩ := dec_map n
  rw [e1]
  exact nosl_map _ e2
theorem nosl_one {x : UInt8} (hx : x ≠ 47) : NoSl [x] := NoSl.nil.cons hx
theorem nosl_dotted (b0 b1 b2 b3 : UInt8) : NoSl (dotted b0 b1 b2 b3) := by
  unfold dotted
  exact ((((((nosl_dec _).app (nosl_one (by decide))).app (nosl_dec _)).app (nosl_one (by decide))).app (nosl_dec _)).app (nosl_one (by decide))).app (nosl_dec _)
theorem nosl_join : ∀ gs : List Nat, NoSl (joinC gs)
  | [] => NoSl.nil
  | [g] => nosl_hex g
  | g :: g2 :: r => (nosl_hex g).app ((nosl_join (g2 :: r)).cons (by decide))
theorem letter_47 (k : Nat) (hk : k < 58) : letter k ≠ 47 := by
  have h : ∀ k : Fin 58, letter k.val ≠ 47 := by decide
  exact h ⟨k, hk⟩
theorem nosl_txt (k J : Nat) (D : Nat → Nat) (h : ∀ t, D t < 58) : NoSl (txt k J D) := by
  unfold txt
  refine NoSl.app (fun c hc => ?_) (fun c hc => ?_)
  · rw [(List.mem_replicate.1 hc).2]
    exact letter_47 0 (by omega)
  · obtain ⟨t, _, rfl⟩ := List.mem_map.1 hc
    exact letter_47 _ (h _)
theorem txt6_text {d s : List UInt8} (h : Txt6 d s) : NoSl s ∧ s.length ≤ 100 ∧ 0 < s.length := by
  rcases h with ⟨a, b, hr, rfl⟩ | ⟨_, rfl⟩
  · unfold txt6
    have hg : ∀ i j, ∀ g ∈ grps d i j, g < 65536 := fun i j g hg => by
      obtain ⟨x, _, rfl⟩ := List.mem_map.1 hg
      exact grpN_lt d x
    have hl : ∀ i j, j ≤ 8 → (joinC (grps d i j)).length ≤ 40 := fun i j hj => by
      have h1 := joinC_le (grps d i j) (hg i j)
      have h2 : (grps d i j).length ≤ 8 := by simp [grps]; omega
      omega
    rcases hr with ⟨rfl, rfl⟩ | ⟨h1, h2, _⟩
    · rw [if_pos rfl]
      refine ⟨nosl_join _, by have := hl 0 8 (by omega); omega, ?_⟩
      have : joinC (grps d 0 8) = hexT (grpN d 0) ++ 58 :: joinC (grps d 1 8) := joinC_cons d 0 8 (by omega)
      rw [this]; simp; omega
    · rw [if_neg (by omega)]
      refine ⟨(nosl_join _).app (((nosl_join _).cons (by decide)).cons (by decide)), ?_, by simp; omega⟩
      have h3 := hl 0 a (by omega)
      have h4 := hl b 8 (by omega)
      simp; omega
  · refine ⟨NoSl.app (fun c hc => by simp at hc; rcases hc with rfl | rfl | rfl <;> decide) (nosl_dotted _ _ _ _), ?_, by simp⟩
    have := dotted_length (d.getD 12 0) (d.getD 13 0) (d.getD 14 0) (d.getD 15 0)
    simp only [List.length_append]
    simp at *; omega
theorem ValTxt.text {kd : Nat} {l s : List UInt8} (h : ValTxt kd l s) : NoSl s ∧ s.length ≤ 200 := by
  rcases h with ⟨_, b0, b1, b2, b3, _, rfl⟩ | ⟨_, b0, b1, _, rfl⟩ | ⟨_, rfl⟩ | ⟨_, h⟩ | ⟨_, h⟩
  · exact ⟨nosl_dotted _ _ _ _, by have := dotted_length b0 b1 b2 b3; omega⟩
  · refine ⟨nosl_dec _, ?_⟩
    rw [Lib.decDigits_length]
    have := b0.toNat_lt
    have := b1.toNat_lt
    rcases Nat.eq_zero_or_pos (b0.toNat * 256 + b1.toNat) with h | h
    · rw [h, Lib.nDigits_small (by omega)]; omega
    · have := Lib.numDigits_eq (b0.toNat * 256 + b1.toNat) h (by omega); split at this <;> omega
  · exact ⟨NoSl.nil, by simp⟩
  · obtain ⟨k, J, D, hs, hk, hz, hnz, hD, hv, hJ, hJ61⟩ := h
    have e : s = txt k J D := by
      have := congrArg (fun b : ByteArray => b.data.toList) hs
      simpa using this
    rw [e]
    refine ⟨nosl_txt k J D hD, ?_⟩
    rw [txt_length]
    have := idOf_length l
    omega
  · have := txt6_text h
    exact ⟨this.1, by omega⟩
theorem ValTxt.len {kd : Nat} {l s : List UInt8} (h : ValTxt kd l s) : s.length ≤ 200 := h.text.2
end Go.Proofs.YthpcfnegfdcbjaaGreatDoor

/- The prefixes of texts; peer.Decode and peer.IDFromBytes of an ID; impl.PeerOf, impl.PeerDecode. -/
namespace Go.Proofs.YthpcfnegfdcbjaaGreatDoor
open Go.RowKit
attribute [local go_sem ↓] Go.wp_at_zero Go.wp_at_succ
set_option maxHeartbeats 2000000 in
set_option maxRecDepth 100000 in
theorem slpre_x (S P : ByteArray) (b : Bool) (hb : (decide (P.size ≤ S.size) && (S.extract 0 P.size).toList == P.toList) = b) (_hS : S.size ≤ 1000) (_hP : P.size ≤ 1000) (w : World) : Calls Tryz.prog 296 #[.string S, .string P] w fun e w' => e = .returned (.bool b) ∧ w' = w := by
  go_enter Tryz.func296, Tryz.ntmps296
  by_cases hl : P.size ≤ S.size
  · have hd : decide ((P.size : Int) ≤ (S.size : Int)) = true := by simp; omega
    rw [decide_eq_true hl, Bool.true_and] at hb
    go_wp2_with fail
    go_ret
    exact ⟨by rw [← hb]; rfl, rfl⟩
  · have hd : decide ((P.size : Int) ≤ (S.size : Int)) = false := by simp; omega
    rw [decide_eq_false hl, Bool.false_and] at hb
    subst hb
    go_wp2_with fail
    go_ret
    exact ⟨rfl, rfl⟩
set_option maxHeartbeats 2000000 in
set_option maxRecDepth 100000 in
theorem pre_x (S P : ByteArray) (b : Bool) (hb : (decide (P.size ≤ S.size) && (S.extract 0 P.size).toList == P.toList) = b) (hS : S.size ≤ 1000) (hP : P.size ≤ 1000) (w : World) : Calls Tryz.prog 234 #[.string S, .string P] w fun e w' => e = .returned (.bool b) ∧ w' = w := by
  have H := Lib.hid (slpre_x S P b hb hS hP w)
  clear hb
  go_enter Tryz.func234, Tryz.ntmps234
  go_wp2_with fail
  refine H.out.mono ?_
  rintro e w1 ⟨rfl, rfl⟩
  go_wp2_with fail
  go_ret
  exact ⟨rfl, rfl⟩
theorem pre_bool (l p : List UInt8) : (decide ((⟨p.toArray⟩ : ByteArray).size ≤ (⟨l.toArray⟩ : ByteArray).size) && ((⟨l.toArray⟩ : ByteArray).extract 0 (⟨p.toArray⟩ : ByteArray).size).toList == (⟨p.toArray⟩ : ByteArray).toList) = (decide (p.length ≤ l.length) && l.take p.length == p) := by
  rw [size_toArray, size_toArray, extract_take, ByteArray.toList_eq, ByteArray.toList_eq]
end Go.Proofs.YthpcfnegfdcbjaaGreatDoor

/- Numbers from 2 to 44 as varints: their sizes. No condition beyond. -/
namespace Go.Proofs.YthpcfnegfdcbjaaGreatDoor
open Go.RowKit
attribute [local go_sem ↓] Go.wp_at_zero Go.wp_at_succ
set_option maxRecDepth 100000 in
set_option maxHeartbeats 4000000 in
theorem len64_id (n : Nat) (h2 : 2 ≤ n) (h44 : n ≤ 44) (w : World) : Calls Tryz.prog 71 #[.int .u64 n] w fun e w' => (∃ k : Nat, e = .returned (.int .i64 k) ∧ 1 ≤ k ∧ k ≤ 6) ∧ w = w' := by
  have hcs : n = 2 ∨ n = 3 ∨ n = 4 ∨ n = 5 ∨ n = 6 ∨ n = 7 ∨ n = 8 ∨ n = 9 ∨ n = 10 ∨ n = 11 ∨ n = 12 ∨ n = 13 ∨ n = 14 ∨ n = 15 ∨ n = 16 ∨ n = 17 ∨ n = 18 ∨ n = 19 ∨ n = 20 ∨ n = 21 ∨ n = 22 ∨ n = 23 ∨ n = 24 ∨ n = 25 ∨ n = 26 ∨ n = 27 ∨ n = 28 ∨ n = 29 ∨ n = 30 ∨ n = 31 ∨ n = 32 ∨ n = 33 ∨ n = 34 ∨ n = 35 ∨ n = 36 ∨ n = 37 ∨ n = 38 ∨ n = 39 ∨ n = 40 ∨ n = 41 ∨ n = 42 ∨ n = 43 ∨ n = 44 := by omega
  rcases hcs with rfl | rfl | rfl | rfl | rfl | rfl | rfl | rfl | rfl | rfl | rfl | rfl | rfl | rfl | rfl | rfl | rfl | rfl | rfl | rfl | rfl | rfl | rfl | rfl | rfl | rfl | rfl | rfl | rfl | rfl | rfl | rfl | rfl | rfl | rfl | rfl | rfl | rfl | rfl | rfl | rfl | rfl | rfl
  · go_enter Tryz.func71, Tryz.ntmps71
    go_wp2_with fail
    go_ret
    exact ⟨⟨2, by simp; try kernel_rfl, by decide, by decide⟩, rfl⟩
  · go_enter Tryz.func71, Tryz.ntmps71
    go_wp2_with fail
    go_ret
    exact ⟨⟨2, by simp; try kernel_rfl, by decide, by decide⟩, rfl⟩
  · go_enter Tryz.func71, Tryz.ntmps71
    go_wp2_with fail
    go_ret
    exact ⟨⟨3, by simp; try kernel_rfl, by decide, by decide⟩, rfl⟩
  · go_enter Tryz.func71, Tryz.ntmps71
    go_wp2_with fail
    go_ret
    exact ⟨⟨3, by simp; try kernel_rfl, by decide, by decide⟩, rfl⟩
  · go_enter Tryz.func71, Tryz.ntmps71
    go_wp2_with fail
    go_ret
    exact ⟨⟨3, by simp; try kernel_rfl, by decide, by decide⟩, rfl⟩
  · go_enter Tryz.func71, Tryz.ntmps71
    go_wp2_with fail
    go_ret
    exact ⟨⟨3, by simp; try kernel_rfl, by decide, by decide⟩, rfl⟩
  · go_enter Tryz.func71, Tryz.ntmps71
    go_wp2_with fail
    go_ret
    exact ⟨⟨4, by simp; try kernel_rfl, by decide, by decide⟩, rfl⟩
  · go_enter Tryz.func71, Tryz.ntmps71
    go_wp2_with fail
    go_ret
    exact ⟨⟨4, by simp; try kernel_rfl, by decide, by decide⟩, rfl⟩
  · go_enter Tryz.func71, Tryz.ntmps71
    go_wp2_with fail
    go_ret
    exact ⟨⟨4, by simp; try kernel_rfl, by decide, by decide⟩, rfl⟩
  · go_enter Tryz.func71, Tryz.ntmps71
    go_wp2_with fail
    go_ret
    exact ⟨⟨4, by simp; try kernel_rfl, by decide, by decide⟩, rfl⟩
  · go_enter Tryz.func71, Tryz.ntmps71
    go_wp2_with fail
    go_ret
    exact ⟨⟨4, by simp; try kernel_rfl, by decide, by decide⟩, rfl⟩
  · go_enter Tryz.func71, Tryz.ntmps71
    go_wp2_with fail
    go_ret
    exact ⟨⟨4, by simp; try kernel_rfl, by decide, by decide⟩, rfl⟩
  · go_enter Tryz.func71, Tryz.ntmps71
    go_wp2_with fail
    go_ret
    exact ⟨⟨4, by simp; try kernel_rfl, by decide, by decide⟩, rfl⟩
  · go_enter Tryz.func71, Tryz.ntmps71
    go_wp2_with fail
    go_ret
    exact ⟨⟨4, by simp; try kernel_rfl, by decide, by decide⟩, rfl⟩
  · go_enter Tryz.func71, Tryz.ntmps71
    go_wp2_with fail
    go_ret
    exact ⟨⟨5, by simp; try kernel_rfl, by decide, by decide⟩, rfl⟩
  · go_enter Tryz.func71, Tryz.ntmps71
    go_wp2_with fail
    go_ret
    exact ⟨⟨5, by simp; try kernel_rfl, by decide, by decide⟩, rfl⟩
  · go_enter Tryz.func71, Tryz.ntmps71
    go_wp2_with fail
    go_ret
    exact ⟨⟨5, by simp; try kernel_rfl, by decide, by decide⟩, rfl⟩
  · go_enter Tryz.func71, Tryz.ntmps71
    go_wp2_with fail
    go_ret
    exact ⟨⟨5, by simp; try kernel_rfl, by decide, by decide⟩, rfl⟩
  · go_enter Tryz.func71, Tryz.ntmps71
    go_wp2_with fail
    go_ret
    exact ⟨⟨5, by simp; try kernel_rfl, by decide, by decide⟩, rfl⟩
  · go_enter Tryz.func71, Tryz.ntmps71
    go_wp2_with fail
    go_ret
    exact ⟨⟨5, by simp; try kernel_rfl, by decide, by decide⟩, rfl⟩
  · go_enter Tryz.func71, Tryz.ntmps71
    go_wp2_with fail
    go_ret
    exact ⟨⟨5, by simp; try kernel_rfl, by decide, by decide⟩, rfl⟩
  · go_enter Tryz.func71, Tryz.ntmps71
    go_wp2_with fail
    go_ret
    exact ⟨⟨5, by simp; try kernel_rfl, by decide, by decide⟩, rfl⟩
  · go_enter Tryz.func71, Tryz.ntmps71
    go_wp2_with fail
    go_ret
    exact ⟨⟨5, by simp; try kernel_rfl, by decide, by decide⟩, rfl⟩
  · go_enter Tryz.func71, Tryz.ntmps71
    go_wp2_with fail
    go_ret
    exact ⟨⟨5, by simp; try kernel_rfl, by decide, by decide⟩, rfl⟩
  · go_enter Tryz.func71, Tryz.ntmps71
    go_wp2_with fail
    go_ret
    exact ⟨⟨5, by simp; try kernel_rfl, by decide, by decide⟩, rfl⟩
  · go_enter Tryz.func71, Tryz.ntmps71
    go_wp2_with fail
    go_ret
    exact ⟨⟨5, by simp; try kernel_rfl, by decide, by decide⟩, rfl⟩
  · go_enter Tryz.func71, Tryz.ntmps71
    go_wp2_with fail
    go_ret
    exact ⟨⟨5, by simp; try kernel_rfl, by decide, by decide⟩, rfl⟩
  · go_enter Tryz.func71, Tryz.ntmps71
    go_wp2_with fail
    go_ret
    exact ⟨⟨5, by simp; try kernel_rfl, by decide, by decide⟩, rfl⟩
  · go_enter Tryz.func71, Tryz.ntmps71
    go_wp2_with fail
    go_ret
    exact ⟨⟨5, by simp; try kernel_rfl, by decide, by decide⟩, rfl⟩
  · go_enter Tryz.func71, Tryz.ntmps71
    go_wp2_with fail
    go_ret
    exact ⟨⟨5, by simp; try kernel_rfl, by decide, by decide⟩, rfl⟩
  · go_enter Tryz.func71, Tryz.ntmps71
    go_wp2_with fail
    go_ret
    exact ⟨⟨6, by simp; try kernel_rfl, by decide, by decide⟩, rfl⟩
  · go_enter Tryz.func71, Tryz.ntmps71
    go_wp2_with fail
    go_ret
    exact ⟨⟨6, by simp; try kernel_rfl, by decide, by decide⟩, rfl⟩
  · go_enter Tryz.func71, Tryz.ntmps71
    go_wp2_with fail
    go_ret
    exact ⟨⟨6, by simp; try kernel_rfl, by decide, by decide⟩, rfl⟩
  · go_enter Tryz.func71, Tryz.ntmps71
    go_wp2_with fail
    go_ret
    exact ⟨⟨6, by simp; try kernel_rfl, by decide, by decide⟩, rfl⟩
  · go_enter Tryz.func71, Tryz.ntmps71
    go_wp2_with fail
    go_ret
    exact ⟨⟨6, by simp; try kernel_rfl, by decide, by decide⟩, rfl⟩
  · go_enter Tryz.func71, Tryz.ntmps71
    go_wp2_with fail
    go_ret
    exact ⟨⟨6, by simp; try kernel_rfl, by decide, by decide⟩, rfl⟩
  · go_enter Tryz.func71, Tryz.ntmps71
    go_wp2_with fail
    go_ret
    exact ⟨⟨6, by simp; try kernel_rfl, by decide, by decide⟩, rfl⟩
  · go_enter Tryz.func71, Tryz.ntmps71
    go_wp2_with fail
    go_ret
    exact ⟨⟨6, by simp; try kernel_rfl, by decide, by decide⟩, rfl⟩
  · go_enter Tryz.func71, Tryz.ntmps71
    go_wp2_with fail
    go_ret
    exact ⟨⟨6, by simp; try kernel_rfl, by decide, by decide⟩, rfl⟩
  · go_enter Tryz.func71, Tryz.ntmps71
    go_wp2_with fail
    go_ret
    exact ⟨⟨6, by simp; try kernel_rfl, by decide, by decide⟩, rfl⟩
  · go_enter Tryz.func71, Tryz.ntmps71
    go_wp2_with fail
    go_ret
    exact ⟨⟨6, by simp; try kernel_rfl, by decide, by decide⟩, rfl⟩
  · go_enter Tryz.func71, Tryz.ntmps71
    go_wp2_with fail
    go_ret
    exact ⟨⟨6, by simp; try kernel_rfl, by decide, by decide⟩, rfl⟩
  · go_enter Tryz.func71, Tryz.ntmps71
    go_wp2_with fail
    go_ret
    exact ⟨⟨6, by simp; try kernel_rfl, by decide, by decide⟩, rfl⟩
set_option maxRecDepth 100000 in
set_option maxHeartbeats 1000000 in
theorem usize_id (n : Nat) (h2 : 2 ≤ n) (h44 : n ≤ 44) (w : World) : Calls Tryz.prog 100 #[.int .u64 n] w fun e w' => e = .returned (.int .i64 1) ∧ w = w' := by
  have HL := Lib.hid (len64_id n h2 h44)
  go_enter Tryz.func100, Tryz.ntmps100
  go_wp2_with fail
  refine (HL.out _).mono ?_
  rintro e w' ⟨⟨k, rfl, h1, h6⟩, rfl⟩
  have hk : k = 1 ∨ k = 2 ∨ k = 3 ∨ k = 4 ∨ k = 5 ∨ k = 6 := by omega
  rcases hk with rfl | rfl | rfl | rfl | rfl | rfl
  all_goals
    go_wp2_with fail
    go_ret
    exact ⟨rfl, rfl⟩
end Go.Proofs.YthpcfnegfdcbjaaGreatDoor

/- The protocol of IDs by its name; an ID out of its text, through the transcoder. No condition beyond. -/
namespace Go.Proofs.YthpcfnegfdcbjaaGreatDoor
open Go.RowKit
attribute [local go_sem ↓] Go.wp_at_zero Go.wp_at_succ
set_option maxRecDepth 100000 in
set_option maxHeartbeats 2000000 in
theorem named_p2p (w : World) : Calls Tryz.prog 96 #[.string ⟨#[112, 50, 112]⟩] w (OutP 421 w) := by
  go_enter Tryz.func96, Tryz.ntmps96
  go_wp2_with (go_at_call 132; refine (proto_421 _).mono ?_; rintro e w1 ⟨g, rfl, hg, hr, hb⟩; have hk := Lib.hid ((Blk.new w 99 pzero).below hb (by simp)); have Hb := Lib.hid hb; have Hr := Lib.hid hr; have hgg := Lib.hid (show w.heap.size + 1 ≤ g by simpa using hg); clear hr hb hg)
  rw [run_storeCells_row _ w.heap.size 99 pzero (pcells 421 g) hk.out rfl (pcells_one _ _)]
  go_wp2_with fail
  have hbb := ((Below.refl _ w).alloc (Nat.le_refl _) (.cells pzero 99)).trans (Hb.out.mono (by simp))
  exact bodyPost_ret (results_cell_row rfl _ _ w.heap.size 99 (pcells 421 g) (0, 0) _ rfl (hk.out.row _) Tryz.underlying99 rfl (proto_size.trans rfl)) rfl
    ⟨g, rfl, Nat.le_of_succ_le hgg.out, Hr.out.rowFar (by have := hgg.out; omega) _, below_setRow hbb (Nat.le_refl _) _⟩
set_option maxRecDepth 100000 in
set_option maxHeartbeats 2000000 in
theorem pname_p2p (w : World) : Calls Tryz.prog 77 #[.string ⟨#[112, 50, 112]⟩] w (OutP 421 w) := by
  go_enter Tryz.func77, Tryz.ntmps77
  go_wp2_with (go_at_call 96; refine (named_p2p _).mono ?_; rintro e w1 ⟨g, rfl, hg, hr, hb⟩; have hk := Lib.hid ((Blk.new w 99 pzero).below hb (by simp)); have Hb := Lib.hid hb; have Hr := Lib.hid hr; have hgg := Lib.hid (show w.heap.size + 1 ≤ g by simpa using hg); clear hr hb hg)
  rw [run_storeCells_row _ w.heap.size 99 pzero (pcells 421 g) hk.out rfl (pcells_one _ _)]
  go_wp2_with fail
  have hbb := ((Below.refl _ w).alloc (Nat.le_refl _) (.cells pzero 99)).trans (Hb.out.mono (by simp))
  exact bodyPost_ret (results_cell_row rfl _ _ w.heap.size 99 (pcells 421 g) (0, 0) _ rfl (hk.out.row _) Tryz.underlying99 rfl (proto_size.trans rfl)) rfl
    ⟨g, rfl, Nat.le_of_succ_le hgg.out, Hr.out.rowFar (by have := hgg.out; omega) _, below_setRow hbb (Nat.le_refl _) _⟩
theorem pval_id (l : List UInt8) (A : Option Addr) (c : Nat) (w : World) (h : RB w w.heap.size A (idOf l).length c (idOf l)) :
    Calls Tryz.prog 202 #[.slice A (idOf l).length c] w (OutN w) := by
  obtain ⟨x, y, v, d, hid, hx, hy, hd, hv⟩ := id_form l
  rw [hid] at h ⊢
  rcases hv with rfl | ⟨rfl, h32⟩
  · exact pval_0 A c x y d w h hx hy (by omega)
  · exact pval_18 A c x y d w h hx hy (by omega) h32
set_option maxHeartbeats 4000000 in
set_option maxRecDepth 100000 in
theorem p2pstb_f (l : List UInt8) (s : ByteArray) (hs : Enc58 (idOf l) s) (w : World) : Calls Tryz.prog 200 #[.string s] w (OutBF (idOf l) w) := by
  have q0 : ∀ w : World, (binOp .neq 56 .nilIface .nilIface).run Tryz.prog w = .ok (.bool false) w := fun _ => by kernel_rfl
  have HF := Lib.hid (fromb58_f l s hs)
  have HV := Lib.hid (pval_id l)
  have hh : ∃ L : List UInt8, s = ⟨L.toArray⟩ ∧ L.length ≤ 105 ∧ ((∃ r, L = 81 :: 109 :: r) ∨ ∃ r, L = 49 :: r) := by
    obtain ⟨k, J, D, rfl, hk, hz, hnz, hD, hv, hJ, hJ61⟩ := hs
    exact ⟨_, rfl, by rw [txt_length]; have := idOf_le l; omega, id_head l k J D hz hnz hD hv hJ⟩
  obtain ⟨L, hL, hLl, hpre⟩ := hh
  have hsz : s.size ≤ 1000 := by rw [hL, size_toArray]; omega
  have HQ := Lib.hid (fun (p : List UInt8) (b : Bool) (hp : p.length ≤ 1000) (hb : (decide (p.length ≤ L.length) && L.take p.length == p) = b) => pre_x s ⟨p.toArray⟩ b (by rw [hL, pre_bool]; exact hb) hsz (by rw [size_toArray]; exact hp))
  obtain ⟨I, hI⟩ : ∃ I, I = idOf l := ⟨_, rfl⟩
  rw [← hI] at HF HV ⊢
  have HPRE := Lib.hid hpre
  clear hs hI hL hpre
  go_enter Tryz.func200, Tryz.ntmps200
  go_wp2_with fail
  rcases HPRE.out with ⟨r, rfl⟩ | ⟨r, rfl⟩
  · refine (HQ.out [81, 109] true (by decide) (by simp) _).mono ?_
    rintro e w1 ⟨rfl, rfl⟩
    go_wp2_with fail
    refine (HF.out _).mono ?_
    rintro e w2 ⟨g2, o2, c2, rfl, hf, hr, hb2⟩
    have HB2 := Lib.hid hb2
    have HR2 := Lib.hid hr
    have HF2 := Lib.hid hf
    clear hr hb2 hf
    go_wp2_with fail
    refine (HV.out _ c2 _ HR2.out).mono ?_
    rintro e w3 ⟨rfl, hb3⟩
    have HR3 := Lib.hid (HR2.out.next hb3)
    have HB3 := Lib.hid (HB2.out.trans (hb3.mono HB2.out.size))
    clear hb3
    go_wp2_with fail
    go_ret2
    exact ⟨g2, o2, c2, rfl, HF2.out, HR3.out, HB3.out⟩
  · refine (HQ.out [81, 109] false (by decide) (by simp) _).mono ?_
    rintro e w1 ⟨rfl, rfl⟩
    go_wp2_with fail
    refine (HQ.out [49] true (by decide) (by simp) _).mono ?_
    rintro e w1 ⟨rfl, rfl⟩
    go_wp2_with fail
    refine (HF.out _).mono ?_
    rintro e w2 ⟨g2, o2, c2, rfl, hf, hr, hb2⟩
    have HB2 := Lib.hid hb2
    have HR2 := Lib.hid hr
    have HF2 := Lib.hid hf
    clear hr hb2 hf
    go_wp2_with fail
    refine (HV.out _ c2 _ HR2.out).mono ?_
    rintro e w3 ⟨rfl, hb3⟩
    have HR3 := Lib.hid (HR2.out.next hb3)
    have HB3 := Lib.hid (HB2.out.trans (hb3.mono HB2.out.size))
    clear hb3
    go_wp2_with fail
    go_ret2
    exact ⟨g2, o2, c2, rfl, HF2.out, HR3.out, HB3.out⟩
theorem p2pstb_x (l : List UInt8) (s : ByteArray) (hs : Enc58 (idOf l) s) (w : World) : Calls Tryz.prog 200 #[.string s] w (OutBN (idOf l) w) := (p2pstb_f l s hs w).mono fun _ _ h => h.bn
theorem ent_p2ps : ∀ args w, (callFunc 200 args).run Tryz.prog w = .ok (.enter 200 args) w := fun _ _ => by kernel_rfl
set_option maxHeartbeats 2000000 in
set_option maxRecDepth 100000 in
theorem twrp_stb (a b v : Nat) (l : List UInt8) (s : ByteArray) (w : World) (he : ∀ args w, (callFunc a args).run Tryz.prog w = .ok (.enter a args) w)
    (hf : ∀ w1, Below w.heap.size w w1 → Calls Tryz.prog a #[.string s] w1 (OutBN l w1)) :
    Calls Tryz.prog 398 #[.agg #[.func (Fn.func a) #[] #[], .func (Fn.func b) #[] #[], .func (Fn.func v) #[] #[]], .string s] w (OutBN l w) := by
  have HB := Lib.hid ((Below.refl _ w).alloc (Nat.le_refl _) (.cells #[.func (Fn.func a) #[] #[], .func (Fn.func b) #[] #[], .func (Fn.func v) #[] #[]] 185))
  have HF := Lib.hid (hf _ HB.out)
  clear hf
  go_enter Tryz.func398, Tryz.ntmps398
  go_wp2_with fail
  go_at_fn a
  refine HF.out.mono ?_
  rintro e w2 ⟨A2, c2, rfl, hr, hb⟩
  have HB2 := Lib.hid (HB.out.trans (hb.mono (by simp)))
  have HR := Lib.hid hr
  clear hb hr
  go_wp2_with fail
  go_ret2
  exact ⟨A2, c2, rfl, HR.out, HB2.out⟩
set_option maxHeartbeats 2000000 in
set_option maxRecDepth 100000 in
theorem twrp_stbf (a b v : Nat) (l : List UInt8) (s : ByteArray) (w : World) (he : ∀ args w, (callFunc a args).run Tryz.prog w = .ok (.enter a args) w)
    (hf : ∀ w1, Below w.heap.size w w1 → Calls Tryz.prog a #[.string s] w1 (OutBF l w1)) :
    Calls Tryz.prog 398 #[.agg #[.func (Fn.func a) #[] #[], .func (Fn.func b) #[] #[], .func (Fn.func v) #[] #[]], .string s] w (OutBF l w) := by
  have HB := Lib.hid ((Below.refl _ w).alloc (Nat.le_refl _) (.cells #[.func (Fn.func a) #[] #[], .func (Fn.func b) #[] #[], .func (Fn.func v) #[] #[]] 185))
  have HF := Lib.hid (hf _ HB.out)
  clear hf
  go_enter Tryz.func398, Tryz.ntmps398
  go_wp2_with fail
  go_at_fn a
  refine HF.out.mono ?_
  rintro e w2 ⟨g2, o2, c2, rfl, hf, hr, hb⟩
  have HG := Lib.hid (show w.heap.size ≤ g2 from Nat.le_trans (by simp) hf)
  have HB2 := Lib.hid (HB.out.trans (hb.mono (by simp)))
  have HR := Lib.hid hr
  clear hb hr hf
  go_wp2_with fail
  go_ret2
  exact ⟨g2, o2, c2, rfl, HG.out, HR.out, HB2.out⟩
theorem method_stb (a b : Nat) (v : Value) (n : Nat) (w : World) : (method (n + 1) 185 (.agg #[.func (Fn.func a) #[] #[], .func (Fn.func b) #[] #[], v]) "StringToBytes").run Tryz.prog w = .ok (398, .agg #[.func (Fn.func a) #[] #[], .func (Fn.func b) #[] #[], v]) w := by kernel_rfl
end Go.Proofs.YthpcfnegfdcbjaaGreatDoor

/- A value's text back to its bytes, through the transcoder. -/
namespace Go.Proofs.YthpcfnegfdcbjaaGreatDoor
open Go.RowKit
attribute [local go_sem ↓] Go.wp_at_zero Go.wp_at_succ
theorem OutVB.bn {l : List UInt8} {w w' : World} {e : Ending} (h : OutVB l w e w') : OutBN l w e w' := by
  obtain ⟨g, o, c, h1, h2, h3⟩ := h
  exact ⟨_, c, h1, h2, h3⟩
set_option maxHeartbeats 2000000 in
set_option maxRecDepth 100000 in
theorem twrp_stbn (a b : Nat) (l : List UInt8) (s : ByteArray) (w : World) (he : ∀ args w, (callFunc a args).run Tryz.prog w = .ok (.enter a args) w)
    (hf : ∀ w1, Below w.heap.size w w1 → Calls Tryz.prog a #[.string s] w1 (OutBN l w1)) :
    Calls Tryz.prog 398 #[.agg #[.func (Fn.func a) #[] #[], .func (Fn.func b) #[] #[], .nilFunc], .string s] w (OutBN l w) := by
  have HB := Lib.hid ((Below.refl _ w).alloc (Nat.le_refl _) (.cells #[.func (Fn.func a) #[] #[], .func (Fn.func b) #[] #[], .nilFunc] 185))
  have HF := Lib.hid (hf _ HB.out)
  clear hf
  go_enter Tryz.func398, Tryz.ntmps398
  go_wp2_with fail
  go_at_fn a
  refine HF.out.mono ?_
  rintro e w2 ⟨A2, c2, rfl, hr, hb⟩
  have HB2 := Lib.hid (HB.out.trans (hb.mono (by simp)))
  have HR := Lib.hid hr
  clear hr hb
  go_wp2_with fail
  go_ret2
  exact ⟨A2, c2, rfl, HR.out, HB2.out⟩
theorem ent_ip4s : ∀ args w, (callFunc 167 args).run Tryz.prog w = .ok (.enter 167 args) w := fun _ _ => by kernel_rfl
theorem ent_ip6s : ∀ args w, (callFunc 174 args).run Tryz.prog w = .ok (.enter 174 args) w := fun _ _ => by kernel_rfl
theorem ent_ports : ∀ args w, (callFunc 169 args).run Tryz.prog w = .ok (.enter 169 args) w := fun _ _ => by kernel_rfl
/-- A value's bytes. -/
def valB (kd : Nat) (l : List UInt8) : List UInt8 := if kd % 8 = 0 then filled l 4 else if kd % 8 = 1 ∨ kd % 8 = 2 then filled l 2 else if kd % 8 = 6 then idOf l else if kd % 8 = 7 then filled l 16 else []
set_option maxHeartbeats 2000000 in
theorem stb_hop (kd : Nat) (l s : List UInt8) (h : ValTxt kd l s) (hs : s ≠ []) : ∃ (a b : Nat) (v : Value), (v = .nilFunc ∨ kd % 8 = 6 ∧ v = .func (Fn.func 202) #[] #[]) ∧
    (protoOf (codeOf kd)).tc = .iface 185 (.agg #[.func (Fn.func a) #[] #[], .func (Fn.func b) #[] #[], v]) ∧
    ∀ w, Calls Tryz.prog 398 #[.agg #[.func (Fn.func a) #[] #[], .func (Fn.func b) #[] #[], v], .string ⟨s.toArray⟩] w (OutBN (valB kd l) w) := by
  rcases h with ⟨e, b0, b1, b2, b3, hd, rfl⟩ | ⟨e, b0, b1, hd, rfl⟩ | ⟨_, rfl⟩ | ⟨e, h⟩ | ⟨e, h⟩
  · have hv : valB kd l = [b0, b1, b2, b3] := by simp [valB, e, hd]
    have hc : codeOf kd = 4 := by simp [codeOf, e]
    rw [hv, hc]
    exact ⟨167, 168, .nilFunc, .inl rfl, rfl, fun w => twrp_stbn _ _ _ _ w ent_ip4s fun w1 _ => (ip4sb_x b0 b1 b2 b3 w1).mono fun _ _ h => h.bn⟩
  · have hv : valB kd l = [b0, b1] := by rcases e with e | e <;> simp [valB, e, hd]
    rw [hv]
    rcases e with e | e
    · have hc : codeOf kd = 6 := by simp [codeOf, e]
      rw [hc]
      exact ⟨169, 170, .nilFunc, .inl rfl, rfl, fun w => twrp_stbn _ _ _ _ w ent_ports fun w1 _ => (portsb_x b0 b1 w1).mono fun _ _ h => h.bn⟩
    · have hc : codeOf kd = 273 := by simp [codeOf, e]
      rw [hc]
      exact ⟨169, 170, .nilFunc, .inl rfl, rfl, fun w => twrp_stbn _ _ _ _ w ent_ports fun w1 _ => (portsb_x b0 b1 w1).mono fun _ _ h => h.bn⟩
  · exact absurd rfl hs
  · have hv : valB kd l = idOf l := by simp [valB, e]
    have hc : codeOf kd = 421 := by simp [codeOf, e]
    rw [hv, hc]
    exact ⟨200, 201, .func (Fn.func 202) #[] #[], .inr ⟨e, rfl⟩, rfl, fun w => twrp_stb _ _ _ _ _ w ent_p2ps fun w1 _ => p2pstb_x l _ h w1⟩
  · have hv : valB kd l = filled l 16 := by simp [valB, e]
    have hc : codeOf kd = 41 := by simp [codeOf, e]
    have hl := filled_length l 16
    rw [hv, hc]
    exact ⟨174, 175, .nilFunc, .inl rfl, rfl, fun w => twrp_stbn _ _ _ _ w ent_ip6s fun w1 _ => (ip6sb_x (filled l 16) s w1 hl (start_of hl h) (txt6_text h).2.1).mono fun _ _ h => h.bn⟩
end Go.Proofs.YthpcfnegfdcbjaaGreatDoor
