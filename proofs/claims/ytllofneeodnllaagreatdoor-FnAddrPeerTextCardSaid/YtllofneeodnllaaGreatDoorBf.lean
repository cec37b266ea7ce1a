/- Base58: what the encoder gives the decoder gives back; the first letters of the text of an ID. No condition. -/
import Derived.Test.YtllofneeodnllaaGreatDoorBd
import Derived.Test.YtllofneeodnllaaGreatDoorPn
import Derived.Test.YtllofneeodnllaaGreatDoorPs
namespace Go.Proofs.YtllofneeodnllaaGreatDoor
open Go.RowKit
theorem dval_lt {D : Nat → Nat} (h : ∀ t, D t < 58) (m : Nat) : dval D m < 58 ^ m := by
  induction m with
  | zero => exact Nat.one_pos
  | succ m ih =>
    have h2 : (D m + 1) * 58 ^ m ≤ 58 * 58 ^ m := Nat.mul_le_mul_right _ (h m)
    rw [Nat.add_mul, Nat.one_mul] at h2
    rw [dval, Nat.pow_succ, Nat.mul_comm (58 ^ m)]
    omega
theorem dval_at {D : Nat → Nat} (h : ∀ t, D t < 58) (m i : Nat) (hi : i < m) : dval D m / 58 ^ i % 58 = D i := by
  induction m with
  | zero => omega
  | succ m ih =>
    rw [dval]
    by_cases e : i = m
    · subst e
      rw [Nat.add_mul_div_right _ _ (Nat.pow_pos (by decide)), Nat.div_eq_of_lt (dval_lt h i), Nat.zero_add]
      exact Nat.mod_eq_of_lt (h i)
    · obtain ⟨q, hq⟩ : ∃ q, m = i + 1 + q := ⟨m - (i + 1), by omega⟩
      have h2 : D m * 58 ^ m = (D m * 58 ^ q * 58) * 58 ^ i := by
        rw [hq, Nat.pow_add, Nat.pow_succ]
        simp only [Nat.mul_assoc, Nat.mul_comm, Nat.mul_left_comm]
      rw [h2, Nat.add_mul_div_right _ _ (Nat.pow_pos (by decide)), Nat.add_mul_mod_self_right]
      exact ih (by omega)
theorem dval_ge {D : Nat → Nat} (m : Nat) (h : D m ≠ 0) : 58 ^ m ≤ dval D (m + 1) := by
  have h1 : 1 * 58 ^ m ≤ D m * 58 ^ m := Nat.mul_le_mul_right _ (by omega)
  rw [dval]
  omega
theorem bnum_byte_take (l : List UInt8) (q : Nat) : q ≤ l.length → ∀ i (_ : i < q) (hl : i < l.length), bnum (l.take q) / 256 ^ (q - 1 - i) % 256 = (l[i]).toNat := by
  induction q with
  | zero => intro _ i h; omega
  | succ q ih =>
    intro hq i h hl
    have hql : q < l.length := by omega
    rw [List.take_succ_eq_append_getElem hql, bnum_app]
    by_cases e : i = q
    · subst e
      rw [show i + 1 - 1 - i = 0 by omega, Nat.pow_zero, Nat.div_one]
      have := (l[i]).toNat_lt
      omega
    · rw [show q + 1 - 1 - i = (q - 1 - i) + 1 by omega, Nat.pow_succ, Nat.mul_comm (256 ^ _) 256, ← Nat.div_div_eq_div_mul]
      have hb := (l[q]).toNat_lt
      rw [show (bnum (l.take q) * 256 + (l[q]).toNat) / 256 = bnum (l.take q) by omega]
      exact ih (by omega) i (by omega) hl
/-- A byte out of the number. -/
theorem bnum_byte (l : List UInt8) (i : Nat) (h : i < l.length) : bnum l / 256 ^ (l.length - 1 - i) % 256 = (l[i]).toNat := by
  have := bnum_byte_take l l.length (Nat.le_refl _) i h h
  rwa [List.take_length] at this
theorem bnum_zeros (k : Nat) : ∀ l : List UInt8, (∀ t, t < k → l[t]? = some 0) → bnum l = bnum (l.drop k) := by
  induction k with
  | zero => intro l _; rfl
  | succ k ih =>
    intro l h
    have h0 := h 0 (by omega)
    rcases l with _ | ⟨b, l⟩
    · simp at h0
    · have hb : b = 0 := by simpa using h0
      subst hb
      rw [List.drop_succ_cons, ← ih l (fun t ht => by have := h (t + 1) (by omega); simpa using this)]
      simp [bnum]
/-- What the decoder gives is what the encoder took. -/
theorem dec_enc {d : List UInt8} {k J : Nat} {D : Nat → Nat} (hk : k ≤ d.length) (hz : ∀ t, t < k → d[t]? = some 0) (hnz : ∀ h : k < d.length, d[k] ≠ 0) (hD : ∀ t, D t < 58) (hv : dval D J = bnum (d.drop k)) (hJ : J = 0 ∨ D (J - 1) ≠ 0) {R : List UInt8} (hR : DecR (dval D J) (k + J) k R) : R = d := by
  rcases Nat.lt_or_ge k d.length with hkl | hkl
  · have hV : dval D J = bnum d := by rw [hv, bnum_zeros k d hz]
    obtain ⟨m, hm⟩ : ∃ m, d.length = k + m + 1 := ⟨d.length - k - 1, by omega⟩
    have hVlt : bnum d < 256 ^ (m + 1) := by rw [bnum_zeros k d hz]; exact bnum_lt _ _ (by rw [List.length_drop]; omega)
    have htop : bnum d / 256 ^ m % 256 ≠ 0 := by
      have h1 := bnum_byte d k hkl
      rw [show d.length - 1 - k = m by omega] at h1
      rw [h1]
      exact fun e => hnz hkl (UInt8.toNat_inj.1 (e.trans rfl))
    have hge : 256 ^ m ≤ bnum d := by
      rcases Nat.lt_or_ge (bnum d) (256 ^ m) with h1 | h1
      · rw [Nat.div_eq_of_lt h1] at htop
        exact absurd rfl htop
      · exact h1
    have hmJ : m < J := by
      rcases Nat.lt_or_ge m J with h1 | h1
      · exact h1
      · have h2 := dval_lt hD J
        have h3 : 58 ^ J ≤ 58 ^ m := Nat.pow_le_pow_right (by decide) h1
        have h4 : 58 ^ m ≤ 256 ^ m := Nat.pow_le_pow_left (by decide) m
        omega
    rw [hV] at hR
    have hp : byteAt (bnum d) (k + J) (k + J - (m + 1)) ≠ 0 := by
      unfold byteAt
      rw [show k + J - 1 - (k + J - (m + 1)) = m by omega]
      exact htop
    have hlo : ∀ q, q < k + J - (m + 1) → byteAt (bnum d) (k + J) q = 0 := fun q hq => by
      unfold byteAt
      have h1 : 256 ^ (m + 1) ≤ 256 ^ (k + J - 1 - q) := Nat.pow_le_pow_right (by decide) (by omega)
      rw [Nat.div_eq_of_lt (Nat.lt_of_lt_of_le hVlt h1)]
    rcases hR with ⟨_, h0⟩ | ⟨n0, hn0, h0, h1, rfl⟩
    · exact absurd (h0 _ (by omega)) hp
    · obtain rfl : n0 = k + J - (m + 1) := by
        rcases Nat.lt_trichotomy n0 (k + J - (m + 1)) with h2 | h2 | h2
        · exact absurd (hlo _ h2) h1
        · exact h2
        · exact absurd (h0 _ h2) hp
      apply List.ext_getElem
      · rw [List.length_drop, beL_length]
        omega
      · intro i h2 h3
        have h4 := bnum_byte d i h3
        apply UInt8.toNat_inj.1
        rw [List.getElem_drop]
        simp only [beL, List.getElem_map, List.getElem_range, UInt8.toNat_ofNat']
        unfold byteAt
        rw [show k + J - 1 - (k + J - (m + 1) - k + i) = d.length - 1 - i by omega, h4]
        exact Nat.mod_eq_of_lt (d[i]).toNat_lt
  · have hV0 : bnum (d.drop k) = 0 := by rw [List.drop_eq_nil_of_le hkl]; rfl
    have hJ0 : J = 0 := by
      rcases hJ with h | h
      · exact h
      · rcases J with _ | J
        · rfl
        · have h1 := dval_ge J (by simpa using h)
          have h2 : 0 < 58 ^ J := Nat.pow_pos (by decide)
          omega
    subst hJ0
    rw [hv, hV0] at hR
    rcases hR with ⟨rfl, _⟩ | ⟨n0, _, _, h1, _⟩
    · apply List.ext_getElem
      · rw [beL_length]
        omega
      · intro i h2 h3
        have h4 := hz i (by rw [beL_length] at h2; omega)
        rw [List.getElem?_eq_getElem h3] at h4
        injection h4 with h4
        rw [h4]
        simp [beL, byteAt]
    · exact absurd (by simp [byteAt]) h1
theorem enc_pos {d : List UInt8} {k J : Nat} {D : Nat → Nat} (h0 : 0 < d.length) (hnz : ∀ h : k < d.length, d[k] ≠ 0) (hv : dval D J = bnum (d.drop k)) : 0 < k + J := by
  rcases Nat.eq_zero_or_pos (k + J) with h | h
  · obtain rfl : k = 0 := by omega
    obtain rfl : J = 0 := by omega
    have h1 := bnum_byte d 0 h0
    have h2 : bnum d = 0 := by
      rw [List.drop_zero] at hv
      exact hv.symm
    rw [h2, Nat.zero_div] at h1
    exact absurd (UInt8.toNat_inj.1 (h1.symm.trans rfl)) (hnz h0)
  · exact h
theorem bnum_acc_ge (l : List UInt8) : ∀ a, a * 256 ^ l.length ≤ l.foldl (fun a b => a * 256 + b.toNat) a := by
  induction l with
  | nil => intro a; simp
  | cons b l ih =>
    intro a
    have h1 := ih (a * 256 + b.toNat)
    have h2 : (a * 256) * 256 ^ l.length ≤ (a * 256 + b.toNat) * 256 ^ l.length := Nat.mul_le_mul_right _ (by omega)
    rw [List.foldl_cons, List.length_cons, Nat.pow_succ, Nat.mul_comm (256 ^ l.length) 256, ← Nat.mul_assoc]
    exact Nat.le_trans h2 h1
theorem qm_num (r : List UInt8) (hr : r.length = 32) : bnum (18 :: 32 :: r) / 58 ^ 44 = 1378 := by
  have e : bnum (18 :: 32 :: r) = r.foldl (fun a b => a * 256 + b.toNat) 4640 := by simp [bnum]
  have h1 := bnum_acc_ge r 4640
  have h2 := bnum_acc r 4640
  rw [← e, hr] at h1 h2
  have h3 : 1378 * 58 ^ 44 ≤ 4640 * 256 ^ 32 := by decide
  have h4 : (4640 + 1) * 256 ^ 32 ≤ (1378 + 1) * 58 ^ 44 := by decide
  exact Nat.div_eq_of_lt_le (Nat.le_trans h3 h1) (Nat.lt_of_lt_of_le h2 h4)
theorem qm_digits {D : Nat → Nat} {J V : Nat} (hD : ∀ t, D t < 58) (hV : V / 58 ^ 44 = 1378) (hv : dval D J = V) (hJ : J = 0 ∨ D (J - 1) ≠ 0) : J = 46 ∧ D 45 = 23 ∧ D 44 = 44 := by
  have h45 : V / 58 ^ 45 = 23 := by rw [Nat.pow_succ, ← Nat.div_div_eq_div_mul, hV]
  have hJ46 : J = 46 := by
    rcases Nat.lt_trichotomy J 46 with h | h | h
    · have h1 := dval_lt hD J
      have h2 : 58 ^ J ≤ 58 ^ 45 := Nat.pow_le_pow_right (by decide) (by omega)
      rw [hv] at h1
      rw [Nat.div_eq_of_lt (Nat.lt_of_lt_of_le h1 h2)] at h45
      exact absurd h45 (by decide)
    · exact h
    · rcases hJ with h0 | h0
      · omega
      · obtain ⟨j, rfl⟩ : ∃ j, J = j + 1 := ⟨J - 1, by omega⟩
        have h1 := dval_ge j (by simpa using h0)
        have h2 : 58 ^ 46 ≤ 58 ^ j := Nat.pow_le_pow_right (by decide) (by omega)
        have h3 : V / 58 ^ 46 = 0 := by rw [Nat.pow_succ, ← Nat.div_div_eq_div_mul, h45]
        have h4 : V < 58 ^ 46 := (Nat.div_eq_zero_iff_lt (Nat.pow_pos (by decide))).1 h3
        exact absurd h1 (by rw [hv]; exact Nat.not_le.2 (Nat.lt_of_lt_of_le h4 h2))
  subst hJ46
  refine ⟨rfl, ?_, ?_⟩
  · rw [← dval_at hD 46 45 (by decide), hv, h45]
  · rw [← dval_at hD 46 44 (by decide), hv, hV]
theorem txt_two (J : Nat) (D : Nat → Nat) : ∃ r, txt 0 (J + 2) D = letter (D (J + 1)) :: letter (D J) :: r :=
  ⟨((List.range J).map Nat.succ |>.map Nat.succ).map (fun t => letter (D (J + 2 - 1 - t))), by
    unfold txt
    rw [List.range_succ_eq_map, List.range_succ_eq_map]
    simp⟩
theorem txt_one (k J : Nat) (D : Nat → Nat) : ∃ r, txt (k + 1) J D = letter 0 :: r := ⟨_, by unfold txt; rw [List.replicate_succ, List.cons_append]⟩
/-- The first letters of the text of an ID. -/
theorem id_head (l : List UInt8) (k J : Nat) (D : Nat → Nat) (hz : ∀ t, t < k → (idOf l)[t]? = some 0) (hnz : ∀ h : k < (idOf l).length, (idOf l)[k] ≠ 0) (hD : ∀ t, D t < 58) (hv : dval D J = bnum ((idOf l).drop k)) (hJ : J = 0 ∨ D (J - 1) ≠ 0) :
    (∃ r, txt k J D = 81 :: 109 :: r) ∨ ∃ r, txt k J D = 49 :: r := by
  obtain ⟨x, y, v, d, hid, hx, hy, _, hvd⟩ := id_form l
  rcases hvd with hv0 | ⟨hv18, hd⟩
  · have hx0 : x = 0 := UInt8.toNat_inj.1 (by rw [hx, hv0]; rfl)
    rcases k with _ | k
    · exact absurd (by simp [hid, hx0]) (hnz (by simp [hid]))
    · obtain ⟨r, hr⟩ := txt_one k J D
      exact Or.inr ⟨r, hr.trans (by rw [show letter 0 = 49 by decide])⟩
  · have hx18 : x = 18 := UInt8.toNat_inj.1 (by rw [hx, hv18]; rfl)
    have hy32 : y = 32 := UInt8.toNat_inj.1 (by rw [hy, hd]; rfl)
    rcases k with _ | k
    · rw [List.drop_zero, hid, hx18, hy32] at hv
      obtain ⟨rfl, h1, h2⟩ := qm_digits hD (qm_num d hd) hv hJ
      obtain ⟨r, hr⟩ := txt_two 44 D
      exact Or.inl ⟨r, hr.trans (by rw [h1, h2, show letter 23 = 81 by decide, show letter 44 = 109 by decide])⟩
    · have h0 := hz 0 (by omega)
      rw [hid, hx18] at h0
      simp at h0
end Go.Proofs.YtllofneeodnllaaGreatDoor

/- The text of an ID, and back: base58 through all its doors, the prefixes, peer.Decode, peer.IDFromBytes. -/
namespace Go.Proofs.YtllofneeodnllaaGreatDoor
open Go.RowKit
attribute [local go_sem ↓] Go.wp_at_zero Go.wp_at_succ
/-- Bytes in new memory, and no error. -/
def OutBN (d : List UInt8) (w : World) (e : Ending) (w' : World) : Prop :=
  ∃ A c, e = .returned (.tuple #[.slice A d.length c, .nilIface]) ∧ RB w' w'.heap.size A d.length c d ∧ Below w.heap.size w w'
/-- A text that is the one of bytes. -/
def OutSX (d : List UInt8) (w : World) (e : Ending) (w' : World) : Prop :=
  ∃ s, e = .returned (.string s) ∧ Enc58 d s ∧ Below w.heap.size w w'
/-- Bytes in new memory, and true. -/
def OutBT (d : List UInt8) (w : World) (e : Ending) (w' : World) : Prop :=
  ∃ A c, e = .returned (.tuple #[.slice A d.length c, .bool true]) ∧ RB w' w'.heap.size A d.length c d ∧ Below w.heap.size w w'
theorem dec_x (d : List UInt8) (s : ByteArray) (hs : Enc58 d s) (h0 : 0 < d.length) (hd : d.length ≤ 44) (w : World) (p : Nat) (xs : Array Value) (hp : Blk w p 201 xs) (ha : AlpX xs 58) :
    Calls Tryz.prog 105 #[.string s, .pointer (some ⟨p, 0, none⟩)] w (OutBN d w) := by
  obtain ⟨k, J, D, rfl, hk, hz, hnz, hD, hv, hJ, hJ61⟩ := hs
  refine (dec58_x (txt k J D) (dgOf k J D) (k + J) k w p xs hp ha (txt_length k J D) (enc_pos h0 hnz hv) (by omega) (fun q h => txt_get k J D q (by rwa [txt_length] at h)) (dgOf_lt k J D hD) (Nat.le_add_right _ _) (fun q hq => by unfold dgOf; rw [if_pos hq]) (fun h => by
    unfold dgOf
    rw [if_neg (by omega), Nat.sub_self, Nat.sub_zero]
    rcases hJ with h1 | h1
    · omega
    · exact h1)).mono ?_
  rintro e w' ⟨A, c, R, rfl, hR, hrb, hb⟩
  rw [nv_all] at hR
  obtain rfl : R = d := dec_enc hk hz hnz hD hv hJ hR
  exact ⟨A, c, rfl, hrb, hb⟩
set_option maxHeartbeats 2000000 in
set_option maxRecDepth 100000 in
theorem fastdec_x (d : List UInt8) (s : ByteArray) (hs : Enc58 d s) (h0 : 0 < d.length) (hd : d.length ≤ 44) (w : World) : Calls Tryz.prog 75 #[.string s] w (OutBN d w) := by
  have HB := Lib.hid (btc_x w)
  have HS := Lib.hid (fun w1 p xs hb ha => dec_x d s hs h0 hd w1 p xs hb ha)
  clear hs h0
  go_enter Tryz.func75, Tryz.ntmps75
  go_wp2_with fail
  refine HB.out.mono ?_
  rintro e w1 ⟨xs, rfl, hb, ha, hbe⟩
  have HE := Lib.hid (HS.out w1 _ xs hb ha)
  have HBE := Lib.hid hbe
  clear hb ha hbe
  go_wp2_with fail
  refine HE.out.mono ?_
  rintro e w2 ⟨A2, c2, rfl, hr, hb2⟩
  have HR := Lib.hid hr
  have HB2 := Lib.hid (HBE.out.trans (hb2.mono HBE.out.size))
  clear hr hb2
  go_wp2_with fail
  go_ret2
  exact ⟨A2, c2, rfl, HR.out, HB2.out⟩
set_option maxHeartbeats 2000000 in
set_option maxRecDepth 100000 in
theorem decode_x (d : List UInt8) (s : ByteArray) (hs : Enc58 d s) (h0 : 0 < d.length) (hd : d.length ≤ 44) (w : World) : Calls Tryz.prog 60 #[.string s] w (OutBN d w) := by
  have HE := Lib.hid (fastdec_x d s hs h0 hd w)
  clear hs h0
  go_enter Tryz.func60, Tryz.ntmps60
  go_wp2_with fail
  refine HE.out.mono ?_
  rintro e w2 ⟨A2, c2, rfl, hr, hb2⟩
  have HR := Lib.hid hr
  have HB2 := Lib.hid hb2
  clear hr hb2
  go_wp2_with fail
  go_ret2
  exact ⟨A2, c2, rfl, HR.out, HB2.out⟩
theorem cast_id (l : List UInt8) (A : Option Addr) (c : Nat) (w : World) (h : RB w w.heap.size A (idOf l).length c (idOf l)) :
    Calls Tryz.prog 43 #[.slice A (idOf l).length c] w fun e w' => e = .returned (.tuple #[.slice A (idOf l).length c, .nilIface]) ∧ Below w.heap.size w w' := by
  obtain ⟨x, y, v, r, hid, hx, hy, hr, hv⟩ := id_form l
  rw [hid] at h ⊢
  exact cast_any A c x y v r w h hx (by omega) hy (by omega)
theorem idOf_pos (l : List UInt8) : 0 < (idOf l).length := by
  obtain ⟨x, y, v, r, hid, _⟩ := id_form l
  rw [hid]
  exact Nat.succ_pos _
set_option maxHeartbeats 2000000 in
set_option maxRecDepth 100000 in
theorem fromb58_x (l : List UInt8) (s : ByteArray) (hs : Enc58 (idOf l) s) (w : World) : Calls Tryz.prog 45 #[.string s] w (OutBN (idOf l) w) := by
  have q0 : ∀ w : World, (binOp .neq 58 .nilIface .nilIface).run Tryz.prog w = .ok (.bool false) w := fun _ => by kernel_rfl
  have HE := Lib.hid (decode_x (idOf l) s hs (idOf_pos l) (idOf_le l) w)
  have HC := Lib.hid (cast_id l)
  obtain ⟨I, hI⟩ : ∃ I, I = idOf l := ⟨_, rfl⟩
  rw [← hI] at HE HC ⊢
  clear hs hI
  go_enter Tryz.func45, Tryz.ntmps45
  go_wp2_with fail
  refine HE.out.mono ?_
  rintro e w2 ⟨A2, c2, rfl, hr, hb2⟩
  have HR := Lib.hid hr
  have HB2 := Lib.hid hb2
  clear hr hb2
  go_wp2_with fail
  refine (HC.out A2 c2 _ HR.out).mono ?_
  rintro e w3 ⟨rfl, hb3⟩
  have HR3 := Lib.hid (HR.out.next hb3)
  have HB3 := Lib.hid (HB2.out.trans (hb3.mono HB2.out.size))
  clear hb3
  go_wp2_with fail
  go_ret2
  exact ⟨A2, c2, rfl, HR3.out, HB3.out⟩
set_option maxHeartbeats 2000000 in
set_option maxRecDepth 100000 in
theorem fast_x (A : Option Addr) (n c : Nat) (d : List UInt8) (w : World) (hd : d.length ≤ 44) (h : RB w w.heap.size A n c d) : Calls Tryz.prog 66 #[.slice A n c] w (OutSX d w) := by
  have HB := Lib.hid (btc_x w)
  have H := Lib.hid h
  clear h
  go_enter Tryz.func66, Tryz.ntmps66
  go_wp2_with fail
  refine HB.out.mono ?_
  rintro e w1 ⟨xs, rfl, hb, ha, hbe⟩
  have HE := Lib.hid (enc58_x A n c d w1 _ xs hd (H.out.next hbe) hb ha)
  have HBE := Lib.hid hbe
  clear hb ha hbe
  go_wp2_with fail
  refine HE.out.mono ?_
  rintro e w2 ⟨s, rfl, hs, hb2⟩
  have HS := Lib.hid hs
  have HB2 := Lib.hid (HBE.out.trans (hb2.mono HBE.out.size))
  clear hb2 hs
  go_wp2_with fail
  go_ret
  exact ⟨s, rfl, HS.out, HB2.out⟩
set_option maxHeartbeats 2000000 in
set_option maxRecDepth 100000 in
theorem encode_x (A : Option Addr) (n c : Nat) (d : List UInt8) (w : World) (hd : d.length ≤ 44) (h : RB w w.heap.size A n c d) : Calls Tryz.prog 49 #[.slice A n c] w (OutSX d w) := by
  have HE := Lib.hid (fast_x A n c d w hd h)
  clear h
  go_enter Tryz.func49, Tryz.ntmps49
  go_wp2_with fail
  refine HE.out.mono ?_
  rintro e w2 ⟨s, rfl, hs, hb2⟩
  have HS := Lib.hid hs
  have HB2 := Lib.hid hb2
  clear hb2 hs
  go_wp2_with fail
  go_ret
  exact ⟨s, rfl, HS.out, HB2.out⟩
set_option maxHeartbeats 2000000 in
set_option maxRecDepth 100000 in
theorem idstring_x (d : List UInt8) (w : World) (hd : d.length ≤ 44) : Calls Tryz.prog 29 #[.string ⟨d.toArray⟩] w (OutSX d w) := by
  obtain ⟨c1, w1, hcv, hr, hb, _⟩ := conv_id w d (by omega)
  have HE := Lib.hid (encode_x _ _ _ d w1 hd hr)
  have HB := Lib.hid hb
  clear hr hb
  go_enter Tryz.func29, Tryz.ntmps29
  go_wp2_with fail
  refine HE.out.mono ?_
  rintro e w2 ⟨s, rfl, hs, hb2⟩
  have HS := Lib.hid hs
  have HB2 := Lib.hid (HB.out.trans (hb2.mono HB.out.size))
  clear hb2 hs
  go_wp2_with fail
  go_ret
  exact ⟨s, rfl, HS.out, HB2.out⟩
set_option maxHeartbeats 2000000 in
set_option maxRecDepth 100000 in
theorem peertext_x (A : Option Addr) (n c : Nat) (d : List UInt8) (w : World) (hd : d.length ≤ 44) (h : RB w w.heap.size A n c d) : Calls Tryz.prog 14 #[.slice A n c] w (OutSX d w) := by
  have hcv := run_convert_RB h 23 5 Tryz.underlying23 Tryz.underlying5 56 Tryz.underlying56
  have HE := Lib.hid (idstring_x d w hd)
  clear h
  go_enter Tryz.func14, Tryz.ntmps14
  go_wp2_with fail
  refine HE.out.mono ?_
  rintro e w2 ⟨s, rfl, hs, hb2⟩
  have HS := Lib.hid hs
  have HB2 := Lib.hid hb2
  clear hb2 hs
  go_wp2_with fail
  go_ret
  exact ⟨s, rfl, HS.out, HB2.out⟩
end Go.Proofs.YtllofneeodnllaaGreatDoor
