/- Words of base58's decoder: runes of plain letters, numbers in words of 32 bits. No condition. -/
import Derived.Test.YthpcfnegfdcbjaaGreatDoorBb
import Derived.Laws.IdiomStrings
import Derived.Lib.DecodeN
import Derived.Lib.TrimUEq
import Derived.Laws.BitsLemmas
import Derived.IntWalk
namespace Go.Proofs.YthpcfnegfdcbjaaGreatDoor
open Go.RowKit
/-- Letters as runes. -/
def rv (l : List UInt8) : List Value := l.map fun b => Value.int .i32 b.toNat
theorem runes_ascii (l : List UInt8) (h : ∀ b ∈ l, b.toNat < 128) : ∀ (bound i : Nat) (acc : Array Value), l.length = i + bound → Conv.runesFrom ⟨l.toArray⟩ bound i acc = acc ++ (rv (l.drop i)).toArray := by
  intro bound
  induction bound with
  | zero =>
    intro i acc hl
    rw [List.drop_eq_nil_of_le (by omega)]
    simp [Conv.runesFrom, rv]
  | succ b ih =>
    intro i acc hl
    have hi : i < l.length := by omega
    have hs : (⟨l.toArray⟩ : ByteArray).size = l.length := by simp [ByteArray.size]
    have hg : ((⟨l.toArray⟩ : ByteArray).get! i) = l[i] := by
      show (l.toArray)[i]! = l[i]
      simp [hi]
    have hd : Utf8.decode ⟨l.toArray⟩ i = ((l[i]).toNat, 1) := by
      rw [Lib.decode_at, hg]
      exact Lib.decodeN_ascii _ _ _ _ _ (h _ (List.getElem_mem hi))
    unfold Conv.runesFrom
    rw [if_pos (by rw [hs]; exact hi), hd]
    simp only
    have e : rv (l.drop i) = .int .i32 (l[i]).toNat :: rv (l.drop (i + 1)) := by rw [List.drop_eq_getElem_cons hi]; rfl
    rw [ih (i + 1) _ (by omega), e]
    generalize rv (l.drop (i + 1)) = t
    apply Array.ext'
    simp
theorem rv_length (l : List UInt8) : (rv l).length = l.length := by simp [rv]
/-- '[]rune(s)' of plain letters. -/
theorem conv_runes (w : World) (l : List UInt8) (h : ∀ b ∈ l, b.toNat < 128) (hl : l.length ≤ 1000) : ∃ c w', (convert 9 333 (.string ⟨l.toArray⟩)).run Tryz.prog w = .ok (.slice (some ⟨w.heap.size, 0, none⟩) l.length c) w' ∧
    l.length ≤ c ∧ c ≤ maxLen ∧ (∃ ys, Blk w' w.heap.size 21 ys ∧ ∀ j, (hj : j < l.length) → ys[j]? = some (.int .i32 (l[j]).toNat)) ∧ Below w.heap.size w w' := by
  have hs : (⟨l.toArray⟩ : ByteArray).size = l.length := by simp [ByteArray.size]
  have hr : Conv.runesFrom ⟨l.toArray⟩ (⟨l.toArray⟩ : ByteArray).size 0 #[] = (rv l).toArray := by
    rw [runes_ascii l h _ 0 #[] (by rw [hs]; omega)]
    simp
  have hn : (rv l).toArray.size = l.length := by simp [rv]
  have hc := run_runes_of_string (P := Tryz.prog) w 9 333 21 ⟨l.toArray⟩ Tryz.underlying9 Tryz.underlying333 Tryz.underlying21 (by rw [hr, hn]; omega)
  rw [hr, hn] at hc
  refine ⟨_, _, hc, grownCap_ge _ _ _ _, grownCap_le_maxLen _ _ _ _ (by unfold maxLen; omega), ⟨_, Blk.new w.drew _ _, fun j hj => ?_⟩, ((Below.refl _ w).drew).alloc (Nat.le_refl _) _⟩
  rw [Array.getElem?_append_left (by rw [hn]; exact hj)]
  simp [rv, hj]
/-- The number that words stand for, the least one first. -/
def wval (W : Nat → Nat) : Nat → Nat
  | 0 => 0
  | m + 1 => wval W m + W m * 4294967296 ^ m
theorem wval_congr {D E : Nat → Nat} (m : Nat) (h : ∀ k, k < m → D k = E k) : wval D m = wval E m := by
  induction m with
  | zero => rfl
  | succ m ih => rw [wval, wval, ih (fun k hk => h k (by omega)), h m (by omega)]
theorem wval_lt {D : Nat → Nat} (m : Nat) (h : ∀ k, k < m → D k < 4294967296) : wval D m < 4294967296 ^ m := by
  induction m with
  | zero => exact Nat.one_pos
  | succ m ih =>
    have h1 := ih (fun k hk => h k (by omega))
    have h2 : (D m + 1) * 4294967296 ^ m ≤ 4294967296 * 4294967296 ^ m := Nat.mul_le_mul_right _ (h m (by omega))
    rw [Nat.add_mul, Nat.one_mul] at h2
    rw [wval, Nat.pow_succ, Nat.mul_comm (4294967296 ^ m)]
    omega
/-- A word out of the number. -/
theorem wval_at {D : Nat → Nat} (m : Nat) (h : ∀ k, k < m → D k < 4294967296) (i : Nat) (hi : i < m) : wval D m / 4294967296 ^ i % 4294967296 = D i := by
  induction m with
  | zero => omega
  | succ m ih =>
    rw [wval]
    by_cases e : i = m
    · subst e
      have h1 := wval_lt i (fun k hk => h k (by omega) : ∀ k, k < i → D k < 4294967296)
      rw [Nat.add_mul_div_right _ _ (Nat.pow_pos (by decide)), Nat.div_eq_of_lt h1, Nat.zero_add]
      exact Nat.mod_eq_of_lt (h i (by omega))
    · obtain ⟨q, hq⟩ : ∃ q, m = i + 1 + q := ⟨m - (i + 1), by omega⟩
      have h2 : D m * 4294967296 ^ m = (D m * 4294967296 ^ q * 4294967296) * 4294967296 ^ i := by
        rw [hq, Nat.pow_add, Nat.pow_succ]
        simp only [Nat.mul_assoc, Nat.mul_comm, Nat.mul_left_comm]
      rw [h2, Nat.add_mul_div_right _ _ (Nat.pow_pos (by decide)), Nat.add_mul_mod_self_right]
      exact ih (fun k hk => h k (by omega)) (by omega)
/-- One step of the inner loop. -/
theorem word_step (D0 D : Nat → Nat) (t c x : Nat) (h : wval D t + c * 4294967296 ^ t = x + 58 * wval D0 t) :
    wval (setD D t ((D0 t * 58 + c) % 4294967296)) (t + 1) + (D0 t * 58 + c) / 4294967296 * 4294967296 ^ (t + 1) = x + 58 * wval D0 (t + 1) := by
  have h1 : wval (setD D t ((D0 t * 58 + c) % 4294967296)) t = wval D t := wval_congr t (fun k hk => by unfold setD; rw [if_neg (by omega)])
  have h2 : setD D t ((D0 t * 58 + c) % 4294967296) t = (D0 t * 58 + c) % 4294967296 := by unfold setD; rw [if_pos rfl]
  rw [wval, wval, h1, h2]
  have e := Nat.div_add_mod (D0 t * 58 + c) 4294967296
  generalize hq : (D0 t * 58 + c) / 4294967296 = q at *
  generalize hr : (D0 t * 58 + c) % 4294967296 = r at *
  have hp : (4294967296 : Nat) ^ (t + 1) = 4294967296 * 4294967296 ^ t := by rw [Nat.pow_succ, Nat.mul_comm]
  rw [hp]
  generalize 4294967296 ^ t = p at *
  have e2 : r * p + q * (4294967296 * p) = (D0 t * 58 + c) * p := by
    rw [← e, Nat.add_mul, Nat.mul_assoc 4294967296 q p, Nat.mul_left_comm 4294967296 q p]
    omega
  have e3 : (D0 t * 58 + c) * p = c * p + 58 * (D0 t * p) := by rw [Nat.add_mul, Nat.mul_comm (D0 t) 58, Nat.mul_assoc, Nat.add_comm]
  rw [Nat.mul_add]
  omega
/-- The number that the first digits stand for, the greatest one first. -/
def nv (dg : Nat → Nat) : Nat → Nat
  | 0 => 0
  | r + 1 => nv dg r * 58 + dg r
theorem nv_lt (dg : Nat → Nat) (h : ∀ t, dg t < 58) (r : Nat) : nv dg r < 58 ^ r := by
  induction r with
  | zero => exact Nat.one_pos
  | succ r ih =>
    have := h r
    rw [nv, Nat.pow_succ]
    omega
theorem nv_zero (dg : Nat → Nat) (k : Nat) (h : ∀ t, t < k → dg t = 0) : nv dg k = 0 := by
  induction k with
  | zero => rfl
  | succ k ih => rw [nv, ih (fun t ht => h t (by omega)), h k (by omega)]
/-- The digits of a text. -/
def dgOf (k J : Nat) (D : Nat → Nat) (q : Nat) : Nat := if q < k then 0 else D (J - 1 - (q - k))
theorem nv_dgOf (k J : Nat) (D : Nat → Nat) : ∀ r, r ≤ J → nv (dgOf k J D) (k + r) * 58 ^ (J - r) + dval D (J - r) = dval D J := by
  intro r
  induction r with
  | zero =>
    intro _
    rw [Nat.add_zero, nv_zero _ k (fun t ht => by unfold dgOf; rw [if_pos ht])]
    simp
  | succ r ih =>
    intro hr
    have h1 := ih (by omega)
    have hd : dgOf k J D (k + r) = D (J - 1 - r) := by unfold dgOf; rw [if_neg (by omega), Nat.add_sub_cancel_left]
    obtain ⟨s, hs⟩ : ∃ s, J - r = s + 1 := ⟨J - r - 1, by omega⟩
    have e1 : J - (r + 1) = s := by omega
    have e2 : J - 1 - r = s := by omega
    rw [hs, dval, Nat.pow_succ] at h1
    rw [show k + (r + 1) = k + r + 1 by omega, nv, hd, e1, e2, Nat.add_mul, Nat.mul_assoc, Nat.mul_comm 58]
    omega
theorem nv_all (k J : Nat) (D : Nat → Nat) : nv (dgOf k J D) (k + J) = dval D J := by
  have := nv_dgOf k J D J (Nat.le_refl _)
  rw [Nat.sub_self] at this
  simpa [dval] using this
theorem txt_length (k J : Nat) (D : Nat → Nat) : (txt k J D).length = k + J := by simp [txt]
theorem txt_get (k J : Nat) (D : Nat → Nat) (q : Nat) (h : q < k + J) : (txt k J D)[q]'(by rw [txt_length]; exact h) = letter (dgOf k J D q) := by
  unfold txt dgOf
  by_cases hq : q < k
  · rw [List.getElem_append_left (by simpa using hq), if_pos hq]
    simp
  · rw [List.getElem_append_right (by simp; omega), if_neg hq]
    simp
theorem dgOf_lt (k J : Nat) (D : Nat → Nat) (h : ∀ t, D t < 58) (q : Nat) : dgOf k J D q < 58 := by
  unfold dgOf
  split
  · decide
  · exact h _
theorem txt_small (k J : Nat) (D : Nat → Nat) (h : ∀ t, D t < 58) : ∀ b ∈ txt k J D, b.toNat < 128 := by
  intro b hb
  obtain ⟨q, hq, rfl⟩ := List.getElem_of_mem hb
  rw [txt_length] at hq
  rw [txt_get k J D q hq]
  exact letter_small _ (dgOf_lt k J D h q)
theorem and_high (a c j : Nat) (ha : a < 2 ^ j) : a &&& (c * 2 ^ j) = 0 := by
  apply Nat.eq_of_testBit_eq
  intro i
  rw [Nat.testBit_and, Nat.zero_testBit]
  by_cases h : i < j
  · have : (c * 2 ^ j).testBit i = false := by
      rw [Nat.testBit_mul_two_pow]
      simp
      omega
    rw [this, Bool.and_false]
  · have : a.testBit i = false := Nat.testBit_lt_two_pow (Nat.lt_of_lt_of_le ha (Nat.pow_le_pow_right (by decide) (by omega)))
    rw [this, Bool.false_and]
theorem and_u32 (a b : Nat) (ha : a < 4294967296) (hb : b < 4294967296) : bits .and .u32 (a : Int) (b : Int) = ((a &&& b : Nat) : Int) :=
  (bits_nat .u32 32 (Nat.le_refl _) (fun n h0 h1 => IntWalk.u32_in n (by omega)) a b (by omega) (by omega)).1
theorem and_u64 (a b : Nat) (ha : a < 18446744073709551616) (hb : b < 18446744073709551616) : bits .and .u64 (a : Int) (b : Int) = ((a &&& b : Nat) : Int) :=
  (bits_nat .u64 64 (Nat.le_refl _) (fun n h0 h1 => IntWalk.u64_in n (by omega)) a b (by omega) (by omega)).1
theorem and_zero (x : Nat) (hx : x < 4294967296) : bits .and .u32 (x : Int) 0 = 0 := by
  have := and_u32 x 0 hx (by decide)
  simpa using this
theorem and_mask (b : Nat) (hb : b < 4) (x : Nat) (hx : x < 256 ^ b) : bits .and .u32 (x : Int) (4294967295 * 2 ^ (b * 8) % 4294967296) = 0 := by
  have h4 : b = 0 ∨ b = 1 ∨ b = 2 ∨ b = 3 := by omega
  rcases h4 with rfl | rfl | rfl | rfl
  · have := and_u32 x 4294967295 (by omega) (by decide)
    have hx0 : x = 0 := by omega
    subst hx0
    simpa using this
  · have h1 := and_u32 x (16777215 * 2 ^ 8) (by omega) (by decide)
    rw [and_high x 16777215 8 (by omega)] at h1
    exact h1
  · have h1 := and_u32 x (65535 * 2 ^ 16) (by omega) (by decide)
    rw [and_high x 65535 16 (by omega)] at h1
    exact h1
  · have h1 := and_u32 x (255 * 2 ^ 24) (by omega) (by decide)
    rw [and_high x 255 24 (by omega)] at h1
    exact h1
theorem and_63 (x : Nat) (hx : x < 58) : bits .and .u32 (x : Int) 63 = (x : Int) := by
  have h1 := and_u32 x 63 (by omega) (by decide)
  rw [show (63 : Nat) = 2 ^ 6 - 1 by decide, Nat.and_two_pow_sub_one_eq_mod, Nat.mod_eq_of_lt (by omega)] at h1
  exact h1
theorem and_low (x : Nat) (hx : x < 18446744073709551616) : bits .and .u64 (x : Int) 4294967295 = ((x % 4294967296 : Nat) : Int) := by
  have h1 := and_u64 x 4294967295 hx (by decide)
  rw [show (4294967295 : Nat) = 2 ^ 32 - 1 by decide, Nat.and_two_pow_sub_one_eq_mod] at h1
  exact h1
end Go.Proofs.YthpcfnegfdcbjaaGreatDoor
