/- The texts of numbers, of ports and of IPv4 addresses: which they are. -/
import Derived.Test.YthpcfnegfdcbjaaGreatDoorPg
import Derived.Lib.ItoaMem
import Derived.Test.YthpcfnegfdcbjaaGreatDoorPz1
namespace Go.Proofs.YthpcfnegfdcbjaaGreatDoor
open Go.RowKit Go.Sort
variable {K : Nat}
/-- This text; old memory as it was. -/
def OutTx (s : ByteArray) (w : World) (e : Ending) (w' : World) : Prop := e = .returned (.string s) ∧ Below w.heap.size w w'
/-- This text and no error; old memory as it was. -/
def OutTxE (s : ByteArray) (w : World) (e : Ending) (w' : World) : Prop := e = .returned (.tuple #[.string s, .nilIface]) ∧ Below w.heap.size w w'
theorem OutTxE.se {s : ByteArray} {w w' : World} {e : Ending} (h : OutTxE s w e w') : OutSE w e w' := ⟨s, h.1, h.2⟩
theorem ba_append (a b : List UInt8) : (⟨a.toArray⟩ : ByteArray) ++ ⟨b.toArray⟩ = ⟨(a ++ b).toArray⟩ := by
  apply ByteArray.ext
  rw [ByteArray.data_append]
  simp
theorem add_is {P : Program} (a b : ByteArray) (m n : Nat) (ha : a.size ≤ m) (hb : b.size ≤ n) (h : m + n ≤ 100000000) : ∃ t, (∀ w, (Op.stringOp .add a b).run P w = .ok (.string t) w) ∧ t.size ≤ m + n ∧ t = a ++ b :=
  ⟨a ++ b, fun w => run_string_add_sum w a b (by omega), by rw [ByteArray.size_append]; omega, rfl⟩
/-- Four numbers with dots between. -/
def dotted (b0 b1 b2 b3 : UInt8) : List UInt8 := Lib.decDigits b0.toNat ++ [46] ++ Lib.decDigits b1.toNat ++ [46] ++ Lib.decDigits b2.toNat ++ [46] ++ Lib.decDigits b3.toNat
theorem nDigits_byte (b : UInt8) : Lib.nDigits b.toNat ≤ 3 := by
  have h := b.toNat_lt
  by_cases h1 : b.toNat < 100
  · have := Lib.nDigits_lt _ h1; omega
  · rw [Lib.nDigits_big (by omega)]
    have := Lib.nDigits_lt (b.toNat / 10) (by omega)
    omega
theorem itoa_x (n : Nat) (hn : n < 1000000) (hK : n < K) (w : World) (ht : Tab K w) : Calls Tryz.prog 219 #[.int .i64 n] w (OutTx ⟨(Lib.decDigits n).toArray⟩ w) := by
  rcases Nat.lt_or_ge n 100 with h | h
  · refine (Tryz.strconv_Itoa_small n h w).mono ?_
    rintro e w' ⟨rfl, rfl⟩
    exact ⟨rfl, Below.refl _ _⟩
  · refine (Tryz.strconv_Itoa n (by omega) (by omega) w (ht.is (by omega))).mono ?_
    rintro e w' ⟨rfl, k, os, rfl⟩
    exact ⟨by rw [Lib.itoa_nonneg], Lib.below_grow _ _ (Nat.le_refl _) _ _⟩
set_option maxHeartbeats 2000000 in
set_option maxRecDepth 100000 in
theorem fuint_smallx (i : Nat) (hi : i < 100) (w : World) : Calls Tryz.prog 249 #[.int .u64 i, .int .i64 10] w (OutTx ⟨(Lib.decDigits i).toArray⟩ w) := by
  go_enter Tryz.func249, Tryz.ntmps249
  go_wp2_with (go_at_call 312; refine (Tryz.internal_strconv_small i hi _).mono ?_; rintro e w' ⟨rfl, rfl⟩)
  go_ret
  exact ⟨rfl, Below.refl _ _⟩
set_option maxHeartbeats 2000000 in
set_option maxRecDepth 100000 in
theorem fuint_bigx (u : Nat) (hu : 100 ≤ u) (hum : u < 1000000) (w : World) (ht : Lib.TabIs Tryz.prog w "internal/strconv.uint64pow10" .u64 Lib.pow10Tab) : Calls Tryz.prog 249 #[.int .u64 u, .int .i64 10] w (OutTx ⟨(Lib.decDigits u).toArray⟩ w) := by
  have hu1 : 1 ≤ u := by omega
  have hu64 : u < 18446744073709551616 := by omega
  have hnd20 : Lib.nDigits u ≤ 20 := by have := Lib.numDigits_eq u hu1 hu64; split at this <;> omega
  have hal : Tryz.prog.arrayLen 269 = 24 := by kernel_rfl
  have hsl1 : ∀ W, (Instr.sliceAt 269 (.pointer (some ⟨w.heap.size, 0, none⟩)) none (some (.int .i64 (Lib.nDigits u : Int))) none).run Tryz.prog W = .ok (.slice (some ⟨w.heap.size, 0, none⟩) (Lib.nDigits u) 24) W := fun W => by
    rw [run_sliceAt_array_h W 269 ⟨w.heap.size, 0, none⟩ (by kernel_rfl) .i64 (Lib.nDigits u : Int) (by omega) (by rw [hal]; omega)]
    go_simp
  have hH0 : Holds (fun (b : UInt8) => Value.int .u8 (b.toNat : Int)) (w.alloc (.cells Lib.zeros24 269)) w.heap.size 0 (Array.replicate (Lib.nDigits u) (0 : UInt8)) := fun j hj => by
    have hj' : j < Lib.nDigits u := by simpa using hj
    refine ⟨?_, World.frozen?_alloc_new _ _ _ _⟩
    rw [World.cell?_alloc_new, Nat.zero_add, Lib.zeros24_at _ (by omega), getElem!_pos _ j hj]
    simp
  have hfmt := Tryz.internal_strconv_formatBase10 w.heap.size 0 24 u (Array.replicate (Lib.nDigits u) 0) (w.alloc (.cells Lib.zeros24 269)) hH0 (by rw [Array.size_replicate]; exact Lib.lt_pow_nDigits u) hu64 (by rw [Array.size_replicate]; omega)
  rw [Array.size_replicate] at hfmt
  have HH0 := Lib.hid hH0
  clear hH0 hal
  go_enter Tryz.func249, Tryz.ntmps249
  go_wp2_with (first
    | (go_at_call 313; refine (Tryz.internal_strconv_numDigits u hu1 hu64 _ (Lib.tabIs_alloc ht _)).mono ?_; rintro e w' ⟨rfl, rfl⟩))
  go_at_call 314
  refine hfmt.mono ?_
  rintro e w' ⟨rfl, k, v', dk, rfl, hF⟩
  have hcv : (convert 26 9 (.slice (some ⟨w.heap.size, 0, none⟩) (Lib.nDigits u) 24)).run Tryz.prog ((putRow (fun (b : UInt8) => Value.int .u8 (b.toNat : Int)) (w.alloc (.cells Lib.zeros24 269)) w.heap.size 0 dk).drewN k) = .ok (.string ⟨(Lib.decDigits u).toArray⟩) ((putRow (fun (b : UInt8) => Value.int .u8 (b.toNat : Int)) (w.alloc (.cells Lib.zeros24 269)) w.heap.size 0 dk).drewN k) := by
    have h := run_convert_bytes_back (P := Tryz.prog) ((putRow (fun (b : UInt8) => Value.int .u8 (b.toNat : Int)) (w.alloc (.cells Lib.zeros24 269)) w.heap.size 0 dk).drewN k) 26 9 5 ⟨w.heap.size, 0, none⟩ 24 (Lib.decDigits u) Tryz.underlying26 Tryz.underlying5 Tryz.underlying9 (fun j hj => by
      rw [Lib.row_is_numeral hF j hj, Lib.add_plain, World.cell?_drewN]
      exact cell?_putRow (fun (b : UInt8) => Value.int .u8 (b.toNat : Int)) _ w.heap.size 0 _ dk HH0.out (by rw [hF.size, Array.size_replicate]) j (by rw [hF.size]; rw [Lib.decDigits_length] at hj; exact hj))
    rw [Lib.decDigits_length] at h
    exact h
  have hb : Below w.heap.size w ((putRow (fun (b : UInt8) => Value.int .u8 (b.toNat : Int)) (w.alloc (.cells Lib.zeros24 269)) w.heap.size 0 dk).drewN k) := by
    obtain ⟨os, eo⟩ := Lib.fin_at w (.cells Lib.zeros24 269) dk k 0
    rw [eo]
    exact Lib.below_grow _ _ (Nat.le_refl _) _ _
  have HB := Lib.hid hb
  clear hb
  go_wp2
  go_ret
  exact ⟨rfl, HB.out⟩
set_option maxHeartbeats 2000000 in
set_option maxRecDepth 100000 in
theorem sfuint_x (u : Nat) (hum : u < 1000000) (hK : u < K) (w : World) (ht : Tab K w) : Calls Tryz.prog 215 #[.int .u64 u, .int .i64 10] w (OutTx ⟨(Lib.decDigits u).toArray⟩ w) := by
  have hc : Calls Tryz.prog 249 #[.int .u64 u, .int .i64 10] w (OutTx ⟨(Lib.decDigits u).toArray⟩ w) := by
    rcases Nat.lt_or_ge u 100 with h | h
    · exact fuint_smallx u h w
    · exact fuint_bigx u h hum w (ht.is (by omega))
  have HC := Lib.hid hc
  clear hc
  generalize (⟨(Lib.decDigits u).toArray⟩ : ByteArray) = s at *
  go_enter Tryz.func215, Tryz.ntmps215
  go_wp2_with fail
  refine HC.out.mono ?_
  rintro e w1 ⟨rfl, hb⟩
  have HB := Lib.hid hb
  clear hb
  go_wp2_with fail
  go_ret
  exact ⟨rfl, HB.out⟩
set_option maxHeartbeats 2000000 in
set_option maxRecDepth 100000 in
theorem port_x (g c : Nat) (b0 b1 : UInt8) (w : World) (h : RB w w.heap.size (some ⟨g, 0, none⟩) 2 c [b0, b1]) (hK : Lib.beNat [b0, b1] < K) (ht : Tab K w) : Calls Tryz.prog 170 #[.slice (some ⟨g, 0, none⟩) 2 c] w (OutTxE ⟨(Lib.decDigits (Lib.beNat [b0, b1])).toArray⟩ w) := by
  have HC := Lib.hid (Tryz.binary_BE_Uint16 g 0 2 c b0 b1 w (by omega) (h.cellAt 0 b0 rfl) (h.cellAt 1 b1 rfl))
  have HT := Lib.hid ht
  have hlt := beNat_lt b0 b1
  obtain ⟨N, hN⟩ : ∃ N, N = Lib.beNat [b0, b1] := ⟨_, rfl⟩
  rw [← hN] at HC hlt hK ⊢
  have HX := Lib.hid (fun w1 (ht : Tab K w1) => sfuint_x N (by omega) hK w1 ht)
  clear h ht hN
  generalize (⟨(Lib.decDigits N).toArray⟩ : ByteArray) = s at *
  go_enter Tryz.func170, Tryz.ntmps170
  go_wp2_with fail
  refine HC.out.mono ?_
  rintro e w1 ⟨rfl, hb⟩
  have HB := Lib.hid hb
  clear hb
  go_wp2_with fail
  refine (HX.out w1 (HT.out.below HB.out)).mono ?_
  rintro e w2 ⟨rfl, hb⟩
  have HB2 := Lib.hid (HB.out.trans (hb.mono HB.out.size))
  clear hb
  go_wp2_with fail
  go_ret2
  exact ⟨rfl, HB2.out⟩
attribute [local go_sem ↓] Go.wp_at_zero Go.wp_at_succ
set_option maxHeartbeats 4000000 in
set_option maxRecDepth 100000 in
theorem ipstr_fourx (g c : Nat) (o : Nat) (b0 b1 b2 b3 : UInt8) (w0 : World) (h0 : w0.cell? ⟨g, o, none⟩ = some (.int .u8 b0.toNat)) (h1 : w0.cell? ⟨g, o + 1, none⟩ = some (.int .u8 b1.toNat)) (h2 : w0.cell? ⟨g, o + 2, none⟩ = some (.int .u8 b2.toNat))
    (h3 : w0.cell? ⟨g, o + 3, none⟩ = some (.int .u8 b3.toNat)) (hc : 4 ≤ c) (hm : c ≤ maxLen) (kk0 : b0.toNat < K) (kk1 : b1.toNat < K) (kk2 : b2.toNat < K) (kk3 : b3.toNat < K) (ht : Tab K w0) : Calls Tryz.prog 211 #[.slice (some ⟨g, o, none⟩) 4 c] w0 (OutTx ⟨(dotted b0 b1 b2 b3).toArray⟩ w0) := by
  obtain ⟨S, hS⟩ : ∃ S : Nat → ByteArray, S = fun n => ⟨(Lib.decDigits n).toArray⟩ := ⟨_, rfl⟩
  have hsz : ∀ b : UInt8, (S b.toNat).size ≤ 1000 := fun b => by rw [hS]; have := Lib.decDigits_length b.toNat; have := nDigits_byte b; simp [ByteArray.size]; omega
  obtain ⟨t0, A0, y0, q0⟩ := add_is (P := Tryz.prog) (S b0.toNat) ⟨#[46]⟩ 1000 1 (hsz b0) (by decide) (by omega)
  obtain ⟨t1, A1, y1, q1⟩ := add_is (P := Tryz.prog) t0 (S b1.toNat) 1001 1000 y0 (hsz b1) (by omega)
  obtain ⟨t2, A2, y2, q2⟩ := add_is (P := Tryz.prog) t1 ⟨#[46]⟩ 2001 1 y1 (by decide) (by omega)
  obtain ⟨t3, A3, y3, q3⟩ := add_is (P := Tryz.prog) t2 (S b2.toNat) 2002 1000 y2 (hsz b2) (by omega)
  obtain ⟨t4, A4, y4, q4⟩ := add_is (P := Tryz.prog) t3 ⟨#[46]⟩ 3002 1 y3 (by decide) (by omega)
  obtain ⟨t5, A5, y5, q5⟩ := add_is (P := Tryz.prog) t4 (S b3.toNat) 3003 1000 y4 (hsz b3) (by omega)
  have hfin : t5 = ⟨(dotted b0 b1 b2 b3).toArray⟩ := by
    rw [q5, q4, q3, q2, q1, q0, hS]
    simp only [ba_append]
    rfl
  rw [← hfin]
  have HITO := Lib.hid (fun (n : Nat) (hn : n < 1000000) (hK : n < K) (w1 : World) (ht : Tab K w1) => (by have := itoa_x n hn hK w1 ht; rw [hS]; exact this : Calls Tryz.prog 219 #[.int .i64 n] w1 (OutTx (S n) w1)))
  clear hfin q0 q1 q2 q3 q4 q5 hS y0 y1 y2 y3 y4 y5 hsz
  have hc1 := hc
  have hx0 := b0.toNat_lt
  have hx1 := b1.toNat_lt
  have hx2 := b2.toNat_lt
  have hx3 := b3.toNat_lt
  have e0 : IntKind.i64.wrap (b0.toNat : Int) = b0.toNat := IntWalk.i64_in _ (by omega)
  have e1 : IntKind.i64.wrap (b1.toNat : Int) = b1.toNat := IntWalk.i64_in _ (by omega)
  have e2 : IntKind.i64.wrap (b2.toNat : Int) = b2.toNat := IntWalk.i64_in _ (by omega)
  have e3 : IntKind.i64.wrap (b3.toNat : Int) = b3.toNat := IntWalk.i64_in _ (by omega)
  have HM := Lib.hid hm
  have hst := ip_keep ((Below.refl w0.heap.size w0).alloc (Nat.le_refl _) (.cells #[.slice (some ⟨g, o, none⟩) 4 c] 186)) ⟨Below.refl _ _, ht, h0, h1, h2, h3⟩
  have q : ∀ (w : World) (a : Option Addr) (n c n' c' : Nat), (binOp .neq 186 (.slice a n c) (.slice none n' c')).run Tryz.prog w = .ok (.bool (!a.isNone)) w := fun w a n c n' c' => run_neq_slice_nil_any w _ _ a n c n' c' Tryz.underlying186
  clear hm h0 h1 h2 h3 ht
  go_enter Tryz.func211, Tryz.ntmps211
  go_wp2_with (go_at_call 210; refine (to4_four _ c _).mono ?_; rintro e w' ⟨rfl, rfl⟩)
  obtain ⟨w, hw⟩ : ∃ w, w = w0.alloc (.cells #[.slice (some ⟨g, o, none⟩) 4 c] 186) := ⟨_, rfl⟩
  rw [← hw] at hst ⊢
  clear hw
  obtain ⟨hb0, ht0, h0, h1, h2, h3⟩ := hst
  have HB0 := Lib.hid hb0
  have HT0 := Lib.hid ht0
  clear hb0 ht0
  have HC := fun (n : Nat) (hn : n < 1000000) (hK : n < K) (w1 : World) (h : Below w.heap.size w w1 ∧ Tab K w1 ∧ w1.cell? ⟨g, o, none⟩ = some (.int .u8 b0.toNat) ∧ w1.cell? ⟨g, o + 1, none⟩ = some (.int .u8 b1.toNat) ∧ w1.cell? ⟨g, o + 2, none⟩ = some (.int .u8 b2.toNat) ∧ w1.cell? ⟨g, o + 3, none⟩ = some (.int .u8 b3.toNat)) => HITO.out n hn hK w1 h.2.1
  go_region_held3 (fun w' => Below w.heap.size w w' ∧ Tab K w' ∧ w'.cell? ⟨g, o, none⟩ = some (.int .u8 b0.toNat) ∧ w'.cell? ⟨g, o + 1, none⟩ = some (.int .u8 b1.toNat) ∧ w'.cell? ⟨g, o + 2, none⟩ = some (.int .u8 b2.toNat) ∧ w'.cell? ⟨g, o + 3, none⟩ = some (.int .u8 b3.toNat))
    (first | exact ⟨(Below.refl _ _).drew, HT0.out.drew, h0, h1, h2, h3⟩ | with_reducible assumption)
    (first
      | (go_at_call_of 219 (Value.int IntKind.i64 (b0.toNat : Int)); have hS1 := ‹RowKit.Below w.heap.size w _ ∧ _›; refine (HC _ ?_ ?_ _ hS1).mono ?_; (omega); (with_reducible assumption); rintro e w' ⟨rfl, hb⟩; have hS2 := ip_keep hb hS1; clear hS1 hb)
      | (go_at_call_of 219 (Value.int IntKind.i64 (b1.toNat : Int)); have hS1 := ‹RowKit.Below w.heap.size w _ ∧ _›; refine (HC _ ?_ ?_ _ hS1).mono ?_; (omega); (with_reducible assumption); rintro e w' ⟨rfl, hb⟩; have hS2 := ip_keep hb hS1; clear hS1 hb)
      | (go_at_call_of 219 (Value.int IntKind.i64 (b2.toNat : Int)); have hS1 := ‹RowKit.Below w.heap.size w _ ∧ _›; refine (HC _ ?_ ?_ _ hS1).mono ?_; (omega); (with_reducible assumption); rintro e w' ⟨rfl, hb⟩; have hS2 := ip_keep hb hS1; clear hS1 hb)
      | (go_at_call_of 219 (Value.int IntKind.i64 (b3.toNat : Int)); have hS1 := ‹RowKit.Below w.heap.size w _ ∧ _›; refine (HC _ ?_ ?_ _ hS1).mono ?_; (omega); (with_reducible assumption); rintro e w' ⟨rfl, hb⟩; have hS2 := ip_keep hb hS1; clear hS1 hb))
  obtain ⟨hbf, _⟩ := ‹RowKit.Below w.heap.size w _ ∧ _›
  have HBF := Lib.hid (HB0.out.trans (hbf.mono HB0.out.size))
  clear hbf
  go_wp2_with fail
  go_ret
  exact ⟨rfl, HBF.out⟩
set_option maxHeartbeats 2000000 in
set_option maxRecDepth 100000 in
theorem ip4_x (g c : Nat) (b0 b1 b2 b3 : UInt8) (w : World) (h : RB w w.heap.size (some ⟨g, 0, none⟩) 4 c [b0, b1, b2, b3]) (kk0 : b0.toNat < K) (kk1 : b1.toNat < K) (kk2 : b2.toNat < K) (kk3 : b3.toNat < K) (ht : Tab K w) : Calls Tryz.prog 168 #[.slice (some ⟨g, 0, none⟩) 4 c] w (OutTxE ⟨(dotted b0 b1 b2 b3).toArray⟩ w) := by
  have HC := Lib.hid (ipstr_fourx g c 0 b0 b1 b2 b3 w (h.cellAt 0 b0 rfl) (h.cellAt 1 b1 rfl) (h.cellAt 2 b2 rfl) (h.cellAt 3 b3 rfl) h.cap h.max kk0 kk1 kk2 kk3 ht)
  clear h ht
  generalize (⟨(dotted b0 b1 b2 b3).toArray⟩ : ByteArray) = s at *
  go_enter Tryz.func168, Tryz.ntmps168
  go_wp2_with fail
  refine HC.out.mono ?_
  rintro e w1 ⟨rfl, hb⟩
  have HB := Lib.hid hb
  clear hb
  go_wp2_with fail
  go_ret2
  exact ⟨rfl, HB.out⟩
end Go.Proofs.YthpcfnegfdcbjaaGreatDoor

/- The text of an IPv6 address: groups in hexadecimal digits, a run of zeros left out. No condition. -/
namespace Go.Proofs.YthpcfnegfdcbjaaGreatDoor
open Go.RowKit
variable {K : Nat}
attribute [local go_sem ↓] Go.wp_at_zero Go.wp_at_succ
/-- A hexadecimal digit. -/
def hexd (x : Nat) : UInt8 := UInt8.ofNat (if x < 10 then 48 + x else 87 + x)
def hexT (n : Nat) : List UInt8 := if _h : n < 16 then [hexd n] else hexT (n / 16) ++ [hexd (n % 16)]
theorem hexT_step (n : Nat) : hexT n = (if 0 < n / 16 then hexT (n / 16) else []) ++ [hexd (n % 16)] := by
  rw [hexT]
  by_cases h : n < 16
  · rw [dif_pos h, if_neg (by omega), Nat.mod_eq_of_lt h]; rfl
  · rw [dif_neg h, if_pos (by omega)]
theorem hexT_pos (n : Nat) : 0 < (hexT n).length := by rw [hexT_step]; simp
theorem hex_char : ∀ k, k < 16 → (⟨#[48, 49, 50, 51, 52, 53, 54, 55, 56, 57, 97, 98, 99, 100, 101, 102]⟩ : ByteArray).extract k (k + 1) = ⟨[hexd k].toArray⟩ := by
  intro k hk
  apply ByteArray.ext
  apply Array.ext'
  rw [Lib.extract_data]
  match k, hk with
  | 0, _ | 1, _ | 2, _ | 3, _ | 4, _ | 5, _ | 6, _ | 7, _ | 8, _ | 9, _ | 10, _ | 11, _ | 12, _ | 13, _ | 14, _ | 15, _ => rfl
  | n + 16, h => omega
set_option maxHeartbeats 2000000 in
set_option maxRecDepth 100000 in
theorem hex_x (n : Nat) (w : World) (hn : n < 65536) : Calls Tryz.prog 245 #[.int .i64 n] w fun e w' => e = .returned (.string ⟨(hexT n).toArray⟩) ∧ w = w' := by
  obtain ⟨R, hR⟩ : ∃ R, R = hexT n := ⟨_, rfl⟩
  rw [← hR]
  have HR := Lib.hid hR
  clear hR
  go_enter Tryz.func245, Tryz.ntmps245
  go_wp2_with fail
  go_loopw [0, 3, 4] (fun v s mo wr => ∃ (m : Nat) (t : List UInt8) (b : Bool), v = .int .i64 m ∧ s = .string ⟨t.toArray⟩ ∧ mo = .bool b ∧ wr = w ∧ m ≤ 65535 ∧ t.length + m ≤ 65536 ∧ R = (if b = true then hexT m else []) ++ t ∧ (b = true ∧ t = [] ∨ b = decide (0 < m))) (fun v _ mo _ => 2 * (intOf v).toNat + boolN mo)
  case atStart => exact ⟨n, [], true, rfl, rfl, rfl, rfl, by omega, by simp; omega, by rw [HR.out]; simp, Or.inl ⟨rfl, rfl⟩⟩
  case round =>
    obtain ⟨m, t, b, rfl, rfl, rfl, rfl, hm, htm, hRt, hor⟩ := hrel
    have HRT := Lib.hid hRt
    have HOR := Lib.hid hor
    clear hRt hor
    cases b
    · have hf : R = t := by have := HRT.out; simpa using this
      subst hf
      go_wp2_with fail
      go_ret
      exact ⟨rfl, rfl⟩
    · obtain ⟨k, hk⟩ : ∃ k, k = m % 16 := ⟨_, rfl⟩
      have hq : bits .and .i64 (m : Int) 15 = (k : Int) := by rw [i64_and15]; omega
      have hk16 : k < 16 := by omega
      have hts : (⟨t.toArray⟩ : ByteArray).size ≤ 65536 := by simp [ByteArray.size]; omega
      have A0 : ∀ w : World, (Op.stringOp .add ((⟨#[48, 49, 50, 51, 52, 53, 54, 55, 56, 57, 97, 98, 99, 100, 101, 102]⟩ : ByteArray).extract k (k + 1)) ⟨t.toArray⟩).run Tryz.prog w = .ok (.string ⟨(hexd k :: t).toArray⟩) w := fun w => by
        rw [hex_char k hk16, run_string_add_sum w _ _ (by simp [ByteArray.size] at hts ⊢; omega), ba_append]
        rfl
      have HK := Lib.hid hk
      clear hk
      go_wp2_with fail
      refine ⟨⟨m / 16, hexd k :: t, decide (0 < m / 16), by go_num, rfl, ?_, trivial, by omega, ?_, ?_, Or.inr rfl⟩, ?_⟩
      · congr 1; apply Bool.eq_iff_iff.2; simp; omega
      · have := HOR.out
        simp only [List.length_cons]
        rcases this with ⟨_, h1⟩ | h1
        · subst h1; simp; omega
        · have : 0 < m := by simpa using h1
          omega
      · have := HRT.out
        rw [if_pos rfl, hexT_step, ← HK.out, List.append_assoc] at this
        rw [this]
        simp
      · have hbn : boolN (Value.bool (decide (0 < (m : Int) / 16))) = if 0 < m / 16 then 1 else 0 := by
          by_cases h : 0 < m / 16
          · have : (0 : Int) < (m : Int) / 16 := by omega
            simp [boolN, h, this]
          · have : ¬ (0 : Int) < (m : Int) / 16 := by omega
            simp [boolN, h, this]
        rw [hbn]
        simp only [boolN, intOf]
        split <;> omega
/-- Sixteen bytes in memory: which. -/
def S16 (w : World) (g : Nat) (d : List UInt8) : Prop := d.length = 16 ∧ ∀ k (h : k < d.length), w.cell? ⟨g, k, none⟩ = some (.int .u8 (d[k]).toNat)
theorem S16.below {w w' : World} {g : Nat} {d : List UInt8} (h : S16 w g d) (hb : Below w.heap.size w w') : S16 w' g d := ⟨h.1, fun k hk => (hb.cell (World.block_lt_of_cell? _ _ (h.2 k hk))).trans (h.2 k hk)⟩
theorem S16.any {w : World} {g : Nat} {d : List UInt8} (h : S16 w g d) : Sixteen w g := fun k hk => ⟨_, h.2 k (by rw [h.1]; exact hk)⟩
/-- A group of an IPv6 address. -/
def grpN (d : List UInt8) (i : Nat) : Nat := (d.getD (2 * i) 0).toNat * 256 + (d.getD (2 * i + 1) 0).toNat
theorem grpN_lt (d : List UInt8) (i : Nat) : grpN d i < 65536 := by
  have h0 := (d.getD (2 * i) 0).toNat_lt
  have h1 := (d.getD (2 * i + 1) 0).toNat_lt
  unfold grpN
  omega
set_option maxHeartbeats 2000000 in
set_option maxRecDepth 100000 in
theorem group_x (g c i bx : Nat) (d : List UInt8) (w : World) (h : S16 w g d) (hi : i < 8) (_hc : 16 ≤ c) (hb : w.cell? ⟨bx, 0, none⟩ = some (.slice (some ⟨g, 0, none⟩) 16 c)) : Calls Tryz.prog 246 #[.int .i64 i, .pointer (some ⟨bx, 0, none⟩)] w fun e w' => e = .returned (.int .i64 (grpN d i)) ∧ Below w.heap.size w w' := by
  have hd := h.1
  have h0 := h.2 (2 * i) (by omega)
  have h1 := h.2 (2 * i + 1) (by omega)
  have hG : grpN d i = (d[2 * i]'(by omega)).toNat * 256 + (d[2 * i + 1]'(by omega)).toNat := by
    unfold grpN
    rw [List.getD_eq_getElem?_getD, List.getD_eq_getElem?_getD, List.getElem?_eq_getElem (by omega), List.getElem?_eq_getElem (by omega)]
    rfl
  generalize d[2 * i]'(by omega) = b0 at *
  generalize d[2 * i + 1]'(by omega) = b1 at *
  have hx0 := b0.toNat_lt
  have hx1 := b1.toNat_lt
  have e0 : IntKind.i64.wrap (b0.toNat : Int) = b0.toNat := IntWalk.i64_in _ (by omega)
  have e1 : IntKind.i64.wrap (b1.toNat : Int) = b1.toNat := IntWalk.i64_in _ (by omega)
  have e2 : IntKind.i64.wrap (2 * (i : Int)) = 2 * (i : Int) := IntWalk.i64_in _ (by omega)
  have e3 : IntKind.i64.wrap (2 * (i : Int) + 1) = 2 * (i : Int) + 1 := IntWalk.i64_in _ (by omega)
  have e4 : (2 * (i : Int)).toNat = 2 * i := by omega
  have e5 : (2 * (i : Int) + 1).toNat = 2 * i + 1 := by omega
  obtain ⟨N, hN⟩ : ∃ N, N = grpN d i := ⟨_, rfl⟩
  rw [← hN] at hG ⊢
  have HG := Lib.hid hG
  clear h hG hN hd
  go_enter Tryz.func246, Tryz.ntmps246
  go_wp2_with fail
  go_quiet (fail)
  go_wp2_with fail
  have hor : bits .or .i64 ((b0.toNat : Int) * 256) b1.toNat = ((b0.toNat * 256 ||| b1.toNat : Nat) : Int) := i64_or_nat (b0.toNat * 256) b1.toNat (by omega) (by omega)
  have hor2 : b0.toNat * 256 ||| b1.toNat = N := by
    rw [HG.out, Nat.mul_comm]
    exact (Nat.two_pow_add_eq_or_of_lt (i := 8) hx1 b0.toNat).symm
  rw [hor, hor2]
  go_ret
  exact ⟨rfl, below_drewN (Below.refl _ _) _⟩
/-- Groups with colons between. -/
def joinC : List Nat → List UInt8
  | [] => []
  | [g] => hexT g
  | g :: h :: gs => hexT g ++ 58 :: joinC (h :: gs)
theorem joinC_snoc : ∀ (gs : List Nat) (g : Nat), gs ≠ [] → joinC (gs ++ [g]) = joinC gs ++ 58 :: hexT g
  | [], _, h => absurd rfl h
  | [a], g, _ => rfl
  | a :: b :: gs, g, _ => by
    show hexT a ++ 58 :: joinC (b :: gs ++ [g]) = (hexT a ++ 58 :: joinC (b :: gs)) ++ 58 :: hexT g
    rw [joinC_snoc (b :: gs) g (by simp)]
    simp
/-- The groups from i, ahead of j. -/
def grps (d : List UInt8) (i j : Nat) : List Nat := (List.range' i (j - i)).map (grpN d)
theorem grps_snoc (d : List UInt8) (i j : Nat) (h : i ≤ j) : grps d i (j + 1) = grps d i j ++ [grpN d j] := by
  unfold grps
  rw [show j + 1 - i = (j - i) + 1 by omega, List.range'_1_concat, List.map_append, show i + (j - i) = j by omega]
  rfl
theorem grps_nil (d : List UInt8) (i : Nat) : grps d i i = [] := by simp [grps]
theorem grps_ne (d : List UInt8) (i j : Nat) (h : i < j) : grps d i j ≠ [] := fun e => by
  have := congrArg List.length e
  simp [grps] at this
  omega
/-- The text of an IPv6 address that leaves out the groups from a, ahead of b (none, if a is 255). -/
def txt6 (d : List UInt8) (a b : Nat) : List UInt8 := if a = 255 then joinC (grps d 0 8) else joinC (grps d 0 a) ++ 58 :: 58 :: joinC (grps d b 8)
def Zer (d : List UInt8) (a b : Nat) : Prop := ∀ i, a ≤ i → i < b → grpN d i = 0
def Run (d : List UInt8) (a b : Nat) : Prop := a = 255 ∧ b = 255 ∨ a + 2 ≤ b ∧ b ≤ 8 ∧ Zer d a b
theorem hexT_le (n : Nat) (h : n < 65536) : (hexT n).length ≤ 4 := by
  rw [hexT_step]
  split
  · rw [List.length_append, hexT_step]
    split
    · rw [List.length_append, hexT_step]
      split
      · rw [List.length_append, hexT_step]
        split
        · omega
        · simp
      · simp
    · simp
  · simp
theorem joinC_le : ∀ gs : List Nat, (∀ g ∈ gs, g < 65536) → (joinC gs).length ≤ 5 * gs.length
  | [], _ => by simp [joinC]
  | [g], h => by
    have := hexT_le g (h g (by simp))
    simp [joinC]; omega
  | g :: h :: gs, hh => by
    have h1 := hexT_le g (hh g (by simp))
    have h2 := joinC_le (h :: gs) (fun x hx => hh x (by simp at hx ⊢; exact .inr hx))
    simp only [joinC, List.length_append, List.length_cons] at *
    omega
end Go.Proofs.YthpcfnegfdcbjaaGreatDoor

/- ZZIPString at sixteen bytes that are no IPv4 address: which text. No condition. -/
namespace Go.Proofs.YthpcfnegfdcbjaaGreatDoor
open Go.RowKit
variable {K : Nat}
attribute [local go_sem ↓] Go.wp_at_zero Go.wp_at_succ
/-- What the loop has written ahead of group k. -/
def St6 (d : List UInt8) (a b k : Nat) (t : List UInt8) : Prop := k ≤ a ∧ t = joinC (grps d 0 k) ∨ b < k ∧ a < 255 ∧ t = joinC (grps d 0 a) ++ 58 :: 58 :: joinC (grps d b k)
theorem St6.first {d : List UInt8} {a b : Nat} (h : 0 < a) : St6 d a b (0 + 1) (hexT (grpN d 0)) := .inl ⟨by omega, by simp [grps, joinC]⟩
theorem St6.step {d : List UInt8} {a b k : Nat} {t : List UInt8} (h : St6 d a b k t) (_hr : Run d a b) (h0 : 0 < k) (hka : k ≠ a) : St6 d a b (k + 1) (t ++ 58 :: hexT (grpN d k)) := by
  rcases h with ⟨h1, h2⟩ | ⟨h1, h2, h3⟩
  · refine .inl ⟨by omega, ?_⟩
    rw [h2, grps_snoc d 0 k (by omega), joinC_snoc _ _ (grps_ne d 0 k h0)]
  · refine .inr ⟨by omega, h2, ?_⟩
    rw [h3, grps_snoc d b k (by omega), joinC_snoc _ _ (grps_ne d b k h1)]
    simp
theorem St6.skip {d : List UInt8} {a b : Nat} {t : List UInt8} (h : St6 d a b a t) (hr : Run d a b) (h8 : a < 8) : St6 d a b (b + 1) ((t ++ [58, 58]) ++ hexT (grpN d b)) := by
  rcases h with ⟨h1, h2⟩ | ⟨h1, h2, h3⟩
  · refine .inr ⟨by omega, by omega, ?_⟩
    rw [h2, grps_snoc d b b (by omega), grps_nil]
    simp [joinC]
  · rcases hr with ⟨rfl, rfl⟩ | ⟨h4, _⟩ <;> omega
theorem St6.stop {d : List UInt8} {a : Nat} {t : List UInt8} (h : St6 d a 8 a t) (_hr : Run d a 8) (h8 : a < 8) : t ++ [58, 58] = txt6 d a 8 := by
  rcases h with ⟨h1, h2⟩ | ⟨h1, h2, h3⟩
  · unfold txt6
    rw [if_neg (by omega), h2, grps_nil]
    simp [joinC]
  · omega
theorem St6.all {d : List UInt8} {a b : Nat} {t : List UInt8} (h : St6 d a b 8 t) (hr : Run d a b) : t = txt6 d a b := by
  unfold txt6
  rcases h with ⟨h1, h2⟩ | ⟨h1, h2, h3⟩
  · rcases hr with ⟨rfl, rfl⟩ | ⟨h4, h5, _⟩
    · rw [if_pos rfl]; exact h2
    · omega
  · rw [if_neg (by omega)]; exact h3
/-- A text of an IPv6 address. -/
def OutT6 (d : List UInt8) (w : World) (e : Ending) (w' : World) : Prop := ∃ a b, e = .returned (.string ⟨(txt6 d a b).toArray⟩) ∧ Run d a b ∧ Below w.heap.size w w'
theorem add_list {P : Program} (a b : List UInt8) (h : a.length + b.length ≤ 100000000) (w : World) : (Op.stringOp .add ⟨a.toArray⟩ ⟨b.toArray⟩).run P w = .ok (.string ⟨(a ++ b).toArray⟩) w := by
  rw [run_string_add_sum w _ _ (by simp [ByteArray.size]; omega), ba_append]
set_option maxHeartbeats 4000000 in
set_option maxRecDepth 100000 in
theorem ipstr_six (g c : Nat) (d : List UInt8) (w : World) (h : S16 w g d) (hc : 16 ≤ c) (hm : c ≤ maxLen) (h4 : ¬ IsV4 w g) : Calls Tryz.prog 211 #[.slice (some ⟨g, 0, none⟩) 16 c] w (OutT6 d w) := by
  have q : ∀ (w : World) (a : Option Addr) (n c n' c' : Nat), (binOp .neq 186 (.slice a n c) (.slice none n' c')).run Tryz.prog w = .ok (.bool (!a.isNone)) w := fun w a n c n' c' => run_neq_slice_nil_any w _ _ a n c n' c' Tryz.underlying186
  have hmf : ∀ (fn : Fn) (first cap : Array Value) (w : World), (Instr.makeFunc fn first cap).run Tryz.prog w = .ok (.func fn first cap) w := fun _ _ _ _ => rfl
  have hb1 : Below w.heap.size w (w.alloc (.cells #[.slice (some ⟨g, 0, none⟩) 16 c] 186)) := (Below.refl _ w).alloc (Nat.le_refl _) _
  obtain ⟨b00, h00⟩ := h.any 0 (by omega)
  have hg : g < w.heap.size := World.block_lt_of_cell? _ _ h00
  have h1 := h.below hb1
  have HT := Lib.hid (to4_sixteen g c _ h1.any hc hm)
  have H4 := Lib.hid (fun hv => h4 (IsV4.back hv hb1 hg) : ¬ IsV4 (w.alloc (.cells #[.slice (some ⟨g, 0, none⟩) 16 c] 186)) g)
  have H1 := Lib.hid h1
  have HB1 := Lib.hid hb1
  have hbx : (w.alloc (.cells #[.slice (some ⟨g, 0, none⟩) 16 c] 186)).cell? ⟨w.heap.size, 0, none⟩ = some (.slice (some ⟨g, 0, none⟩) 16 c) := (Blk.new w 186 #[.slice (some ⟨g, 0, none⟩) 16 c]).cell 0
  have HBX := Lib.hid hbx
  clear h hm h4 h00 hb1 h1 hbx
  go_enter Tryz.func211, Tryz.ntmps211
  go_wp2_with fail
  refine HT.out.mono ?_
  rintro e w1 ⟨⟨rfl, _⟩ | ⟨rfl, hv⟩, rfl⟩
  case inr => exact absurd hv H4.out
  go_wp2_with fail
  have hcf : ∀ (args : Array Value) (w : World), (callFunc 246 args).run Tryz.prog w = .ok (.enter 246 args) w := fun _ _ => by kernel_rfl
  obtain ⟨w1, hw1⟩ : ∃ w1, w1 = w.alloc (.cells #[.slice (some ⟨g, 0, none⟩) 16 c] 186) := ⟨_, rfl⟩
  rw [← hw1] at H1 HB1 HBX ⊢
  clear hw1 HT H4
  go_loopw [8, 9, 10] (fun f t i wr => ∃ (k a b : Nat), k ≤ 8 ∧ i = .int .i64 k ∧ f = .int .i64 a ∧ t = .int .i64 b ∧ Run d a b ∧ Below w1.heap.size w1 wr) (fun _ _ i _ => 8 - (intOf i).toNat)
  case atStart => exact ⟨0, 255, 255, by omega, rfl, rfl, rfl, Or.inl ⟨rfl, rfl⟩, Below.refl _ _⟩
  case round =>
    obtain ⟨k, a, b, hk, rfl, rfl, rfl, hrun, hb⟩ := hrel
    have HB := Lib.hid hb
    have HRUN := Lib.hid hrun
    have hab1 : a ≤ 255 ∧ b ≤ 255 := by rcases hrun with ⟨h1, h2⟩ | ⟨h1, h2, _⟩ <;> omega
    have hab2 : a = 255 ∧ b = 255 ∨ a + 2 ≤ b ∧ b ≤ 8 := by rcases hrun with ⟨h1, h2⟩ | ⟨h1, h2, _⟩ <;> omega
    clear hb hrun
    by_cases hlt : k < 8
    · have hd0 : decide ((k : Int) < 8) = true := by simp; omega
      go_wp2_with fail
      go_loopw [11] (fun j wr => ∃ k2 : Nat, k ≤ k2 ∧ k2 ≤ 8 ∧ j = .int .i64 k2 ∧ Zer d k k2 ∧ Below w1.heap.size w1 wr) (fun j _ => 8 - (intOf j).toNat)
      case atStart => exact ⟨k, by omega, by omega, rfl, fun i h1 h2 => absurd h1 (by omega), HB.out⟩
      case round =>
        obtain ⟨k2, hk2, hk3, rfl, hz, hb⟩ := hrel
        have HB := Lib.hid hb
        have HZ := Lib.hid hz
        clear hb hz
        by_cases hlt2 : k2 < 8
        · have HG := Lib.hid (fun wr (hb : Below w1.heap.size w1 wr) => group_x g c k2 w.heap.size d wr (H1.out.below hb) (by omega) hc ((hb.cell (World.block_lt_of_cell? _ _ HBX.out)).trans HBX.out))
          obtain ⟨n, hn⟩ : ∃ n, n = grpN d k2 := ⟨_, rfl⟩
          rw [← hn] at HG
          have HN := Lib.hid hn
          clear hn
          go_wp2_with fail
          refine (HG.out wr HB.out).mono ?_
          rintro e w2 ⟨rfl, hb2⟩
          have HB2 := Lib.hid (HB.out.trans (hb2.mono HB.out.size))
          clear hb2
          by_cases hn0 : n = 0
          · subst hn0
            go_wp2_with fail
            go_roundw
            case rel => exact ⟨k2 + 1, by omega, by omega, by go_num, fun i h1 h2 => by
              rcases Nat.lt_or_ge i k2 with h3 | h3
              · exact HZ.out i h1 h3
              · obtain rfl : i = k2 := by omega
                exact HN.out.symm, HB2.out⟩
            case measure => simp [intOf]; omega
          · have hn1 : ((n : Int) == 0) = false := by simp; omega
            have HB := HB2
            go_wp2_with fail
            all_goals first
              | exact ⟨⟨k + 1, k, k2, by omega, by go_num, rfl, rfl, Or.inr ⟨by omega, by omega, HZ.out⟩, HB.out⟩, by simp [intOf]; omega⟩
              | exact ⟨⟨k + 1, a, b, by omega, by go_num, rfl, rfl, HRUN.out, HB.out⟩, by simp [intOf]; omega⟩
        · obtain rfl : k2 = 8 := by omega
          go_wp2_with fail
          all_goals first
            | exact ⟨⟨k + 1, k, 8, by omega, by go_num, rfl, rfl, Or.inr ⟨by omega, by omega, HZ.out⟩, HB.out⟩, by simp [intOf]; omega⟩
            | exact ⟨⟨k + 1, a, b, by omega, by go_num, rfl, rfl, HRUN.out, HB.out⟩, by simp [intOf]; omega⟩
    · have hd0 : decide ((k : Int) < 8) = false := by simp; omega
      have hgx : ∀ i : Nat, i < 8 → ∀ wr, Below w1.heap.size w1 wr → Calls Tryz.prog 246 #[.int .i64 i, .pointer (some ⟨w.heap.size, 0, none⟩)] wr fun e w' => e = .returned (.int .i64 (grpN d i)) ∧ Below wr.heap.size wr w' := fun i hi wr hb => group_x g c i w.heap.size d wr (H1.out.below hb) hi hc ((hb.cell (World.block_lt_of_cell? _ _ HBX.out)).trans HBX.out)
      have HGX := Lib.hid hgx
      clear hgx
      go_wp2_with fail
      go_loopw [13, 14] (fun s i wr => ∃ (t : List UInt8) (k : Nat), k ≤ 8 ∧ s = .string ⟨t.toArray⟩ ∧ i = .int .i64 k ∧ t.length ≤ 100 * k ∧ (k = 0 → t = []) ∧ St6 d a b k t ∧ Below w1.heap.size w1 wr) (fun _ i _ => 8 - (intOf i).toNat)
      case atStart => exact ⟨[], 0, by omega, rfl, rfl, by decide, fun _ => rfl, .inl ⟨by omega, by simp [grps, joinC]⟩, HB.out⟩
      case round =>
        obtain ⟨t, k, hk, rfl, rfl, y0, ht0, hst, hb⟩ := hrel
        have HB := Lib.hid hb
        have HST := Lib.hid hst
        have HT0 := Lib.hid ht0
        clear hb hst ht0
        by_cases hlt : k < 8
        · by_cases hka : k = a
          · subst hka
            have A1 := add_list (P := Tryz.prog) t [58, 58] (by simp; omega)
            have A1' : ∀ w, (Op.stringOp .add ⟨t.toArray⟩ ⟨#[58, 58]⟩).run Tryz.prog w = .ok (.string ⟨(t ++ [58, 58]).toArray⟩) w := A1
            by_cases hb8 : b = 8
            · subst hb8
              have HF := Lib.hid (HST.out.stop HRUN.out hlt)
              obtain ⟨T, hT⟩ : ∃ T, T = t ++ [58, 58] := ⟨_, rfl⟩
              rw [← hT] at HF A1'
              clear hT A1
              go_wp2_with fail
              go_ret
              exact ⟨k, 8, by rw [← HF.out]; rfl, HRUN.out, HB1.out.trans (HB.out.mono HB1.out.size)⟩
            · have hb9 : ¬ (8 ≤ b) := by omega
              have hbl : b < 8 := by omega
              have HN := Lib.hid (HGX.out b hbl)
              have HSK := Lib.hid (HST.out.skip HRUN.out hlt)
              have hgl := grpN_lt d b
              obtain ⟨n, hn⟩ : ∃ n, n = grpN d b := ⟨_, rfl⟩
              rw [← hn] at HN HSK hgl
              have hhl := hexT_le n hgl
              have HX := Lib.hid (fun w2 => hex_x n w2 hgl)
              obtain ⟨H, hH⟩ : ∃ H, H = hexT n := ⟨_, rfl⟩
              rw [← hH] at HX HSK hhl
              obtain ⟨T, hT⟩ : ∃ T, T = t ++ [58, 58] := ⟨_, rfl⟩
              have hTl : T.length = t.length + 2 := by rw [hT]; simp
              rw [← hT] at HSK A1'
              have A2 := add_list (P := Tryz.prog) T H (by omega)
              have hTH : (T ++ H).length = T.length + H.length := by simp
              obtain ⟨U, hU⟩ : ∃ U, U = T ++ H := ⟨_, rfl⟩
              rw [← hU] at A2 HSK hTH
              clear hn hH hT hU A1
              go_wp2_with fail
              refine (HN.out wr HB.out).mono ?_
              rintro e w2 ⟨rfl, hb2⟩
              have HB2 := Lib.hid (HB.out.trans (hb2.mono HB.out.size))
              clear hb2
              go_wp2_with fail
              refine (HX.out w2).mono ?_
              rintro e w3 ⟨rfl, rfl⟩
              go_wp2_with fail
              go_roundw
              case rel => exact ⟨U, b + 1, by omega, rfl, by go_num, by omega, fun h => absurd h (by omega), HSK.out, HB2.out⟩
              case measure => simp [intOf]; omega
          · have hka' : ((k : Int) == a) = false := by simp; omega
            have HN := Lib.hid (HGX.out k hlt)
            have hgl := grpN_lt d k
            obtain ⟨n, hn⟩ : ∃ n, n = grpN d k := ⟨_, rfl⟩
            by_cases hk0 : 0 < k
            · have HSK := Lib.hid (HST.out.step HRUN.out hk0 hka)
              rw [← hn] at HN HSK hgl
              have hhl := hexT_le n hgl
              have HX := Lib.hid (fun w2 => hex_x n w2 hgl)
              obtain ⟨H, hH⟩ : ∃ H, H = hexT n := ⟨_, rfl⟩
              rw [← hH] at HX HSK hhl
              have A1 : ∀ w, (Op.stringOp .add ⟨t.toArray⟩ ⟨#[58]⟩).run Tryz.prog w = .ok (.string ⟨(t ++ [58]).toArray⟩) w := add_list (P := Tryz.prog) t [58] (by simp; omega)
              obtain ⟨T, hT⟩ : ∃ T, T = t ++ [58] := ⟨_, rfl⟩
              have hTl : T.length = t.length + 1 := by rw [hT]; simp
              rw [show t ++ 58 :: H = T ++ H by rw [hT]; simp] at HSK
              rw [← hT] at A1
              have A2 := add_list (P := Tryz.prog) T H (by omega)
              have hTH : (T ++ H).length = T.length + H.length := by simp
              obtain ⟨U, hU⟩ : ∃ U, U = T ++ H := ⟨_, rfl⟩
              rw [← hU] at A2 HSK hTH
              clear hn hH hT hU
              go_wp2_with fail
              refine (HN.out wr HB.out).mono ?_
              rintro e w2 ⟨rfl, hb2⟩
              have HB2 := Lib.hid (HB.out.trans (hb2.mono HB.out.size))
              clear hb2
              go_wp2_with fail
              refine (HX.out w2).mono ?_
              rintro e w3 ⟨rfl, rfl⟩
              go_wp2_with fail
              go_roundw
              case rel => exact ⟨U, k + 1, by omega, rfl, by go_num, by omega, fun h => absurd h (by omega), HSK.out, HB2.out⟩
              case measure => simp [intOf]; omega
            · have hk00 : k = 0 := by omega
              subst hk00
              obtain rfl := HT0.out rfl
              have HSK := Lib.hid (St6.first (d := d) (a := a) (b := b) (by omega))
              rw [← hn] at HN HSK hgl
              have hhl := hexT_le n hgl
              have HX := Lib.hid (fun w2 => hex_x n w2 hgl)
              obtain ⟨H, hH⟩ : ∃ H, H = hexT n := ⟨_, rfl⟩
              rw [← hH] at HX HSK hhl
              have A2 := add_list (P := Tryz.prog) [] H (by simp; omega)
              rw [List.nil_append] at A2
              clear hn hH
              go_wp2_with fail
              refine (HN.out wr HB.out).mono ?_
              rintro e w2 ⟨rfl, hb2⟩
              have HB2 := Lib.hid (HB.out.trans (hb2.mono HB.out.size))
              clear hb2
              go_wp2_with fail
              refine (HX.out w2).mono ?_
              rintro e w3 ⟨rfl, rfl⟩
              go_wp2_with fail
              go_roundw
              case rel => exact ⟨H, 0 + 1, by omega, rfl, by go_num, by omega, fun h => absurd h (by omega), HSK.out, HB2.out⟩
              case measure => simp [intOf]
        · obtain rfl : k = 8 := by omega
          have HF := Lib.hid (HST.out.all HRUN.out)
          go_wp2_with fail
          go_ret
          exact ⟨a, b, by rw [← HF.out]; rfl, HRUN.out, HB1.out.trans (HB.out.mono HB1.out.size)⟩
end Go.Proofs.YthpcfnegfdcbjaaGreatDoor
