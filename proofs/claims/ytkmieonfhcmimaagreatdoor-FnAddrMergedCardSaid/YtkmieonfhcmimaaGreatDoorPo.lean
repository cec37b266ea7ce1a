/- spec.AddrHopBytes, kind 2 (a region that draws its order); all kinds. -/
import Derived.Test.YtkmieonfhcmimaaGreatDoorXk
import Derived.Deep.RegionHeld3
import Derived.Deep.DrawnRows
import Derived.Test.YtkmieonfhcmimaaGreatDoorPl
import Derived.Defers
import Derived.Recover
namespace Go.Proofs.YtkmieonfhcmimaaGreatDoor
open Go.RowKit
attribute [local go_sem ↓] Go.wp_at_zero Go.wp_at_succ
theorem own_base {w : World} {B B' : Nat} {e : TypeId} {size n : Nat} {v : Value} {xs : List Value} (h : w.ownsRow B e size v n xs) (hB : B' ≤ B) : w.ownsRow B' e size v n xs :=
  ⟨h.1, h.2.imp id fun ⟨g, cap, cur, hv, hg, r⟩ => ⟨g, cap, cur, hv, Nat.le_trans hB hg, r⟩⟩
theorem keepg {w w1 w2 : World} {a0 : Addr} {v0 : Value} {row : Option Nat} (h : Below w.heap.size w w1 ∧ w1.cell? a0 = some v0) (hlt : a0.block < w.heap.size) (hg : w1.grownBy w2 row) (hr : ∀ k, row = some k → w.heap.size ≤ k) : Below w.heap.size w w2 ∧ w2.cell? a0 = some v0 := by
  have hb := h.1.grown hg h.1.size hr
  exact ⟨hb, (hb.cell hlt).trans ((h.1.cell hlt).symm.trans h.2)⟩
theorem keep1 {w w1 w2 : World} {a0 : Addr} {v0 : Value} (hb : Below w1.heap.size w1 w2) (h : Below w.heap.size w w1 ∧ w1.cell? a0 = some v0) : Below w.heap.size w w2 ∧ w2.cell? a0 = some v0 :=
  ⟨h.1.trans (hb.mono h.1.size), (hb.cell (World.block_lt_of_cell? _ _ h.2)).trans h.2⟩
set_option maxRecDepth 100000 in
set_option maxHeartbeats 2000000 in
theorem hop_2 (kd : Nat) (A : Option Addr) (n c : Nat) (l : List UInt8) (w0 : World) (hb : RB w0 w0.heap.size A n c l) (hk : kd % 8 = 2) :
    Calls Tryz.prog 46 #[.agg #[.int .u8 kd, .slice A n c]] w0 (OwnB ([145, 2] ++ filled l 2) w0) := by
  obtain ⟨i0, hi0, hz0, hz1, hz2⟩ := info_parts u8_info
  have e0 : (kd : Int) % 8 = 2 := by omega
  obtain ⟨w, hw⟩ : ∃ w, w = w0.alloc (.cells #[.int .u8 kd, .slice A n c] 50) := ⟨_, rfl⟩
  have hs : w.heap.size = w0.heap.size + 1 := by rw [hw, World.size_alloc]
  have hb0 : Below w0.heap.size w0 w := by rw [hw]; exact (Below.refl _ w0).alloc (Nat.le_refl _) _
  have c1 : w.cell? ⟨w0.heap.size, 1, none⟩ = some (.slice A n c) := by rw [hw]; exact (Blk.new w0 50 #[.int .u8 kd, .slice A n c]).cell 1
  have HR := Lib.hid ((hb.below hb0).more hb0.size)
  have HB0 := Lib.hid hb0
  have HW := Lib.hid hw
  clear hb hb0 hw
  go_enter Tryz.func46, Tryz.ntmps46
  go_wp2_with fail
  rw [← HW.out]
  go_region_held3 (fun w' => Below w.heap.size w w' ∧ w'.cell? ⟨w0.heap.size, 1, none⟩ = some (.slice A n c))
    (first | exact ⟨(Below.refl _ _).drew, c1⟩ | with_reducible assumption)
    (first
      | (go_at_call 70; have hS1 := ‹RowKit.Below w.heap.size w _ ∧ _›; refine (number_273 _).mono ?_; rintro e w4 ⟨v4, rfl, ho4, hb4⟩; obtain ⟨A4, c4, rfl⟩ := own_slice ho4; have hS4 := keep1 hb4 hS1; have hS0 := hS1; clear hS1)
      | (go_at_call 69; have hS1 := ‹RowKit.Below w.heap.size w _ ∧ _›; refine (filled_any A n c 2 l _ ((HR.out.below hS1.1).more hS1.1.size) (by omega) (by omega)).mono ?_; rintro e w5 ⟨v5, rfl, ho5, hb5⟩; obtain ⟨A5, c5, rfl⟩ := own_slice ho5; have ho6 := own_below ho4 hb5; have hS5 := keep1 hb5 hS1; clear hS1)
      | (refine step_append_any _ rfl _ _ _ rfl _ 5 i0 _ 1 1 Tryz.underlying32 hi0 hz0 hz1 hz2 rfl (by decide) _ _ _ rfl ho6 _ _ _ c5 _ rfl (RB.of_own ho5).reads (bv_one _) (by rw [filled_length]; simp [maxLen]) (by rw [filled_length]; simp) (by have := ‹RowKit.Below w.heap.size w w5 ∧ _›.1.size; simp; omega) ?_; intro v' w' hown hgrow _hat; have hS6 := keepg hS5 (by simp [hs]) hgrow (fun k hk => Nat.le_trans hS0.1.size (ho6.lt k hk).1)))
  have hbf := HB0.out.trans (hS6.1.mono HB0.out.size)
  have HBF := Lib.hid hbf
  have HOF := Lib.hid hown
  clear hbf hown
  go_wp2_with fail
  go_ret
  refine ⟨v', rfl, ?_, HBF.out⟩
  have hl : ([145, 2] ++ filled l 2).length = 2 + (filled l 2).length := List.length_append
  have hfin := own_base HOF.out (Nat.le_trans HB0.out.size hS0.1.size)
  have hfin2 : w'.ownsRow w0.heap.size 5 1 v' ([145, 2] ++ filled l 2).length (bv ([145, 2] ++ filled l 2)) := by
    rw [hl, bv_append]; exact hfin
  exact hfin2

theorem hop_any (kd : Nat) (A : Option Addr) (n c : Nat) (l : List UInt8) (w : World) (hb : RB w w.heap.size A n c l) (hn : n ≤ 100000) :
    Calls Tryz.prog 46 #[.agg #[.int .u8 kd, .slice A n c]] w (OwnB (hopBytes kd l) w) := by
  have h8 : kd % 8 = 0 ∨ kd % 8 = 1 ∨ kd % 8 = 2 ∨ kd % 8 = 3 ∨ kd % 8 = 4 ∨ kd % 8 = 5 ∨ kd % 8 = 6 ∨ kd % 8 = 7 := by omega
  unfold hopBytes
  rcases h8 with h | h | h | h | h | h | h | h <;> simp only [h, if_true, if_false, Nat.reduceEqDiff, Nat.succ_ne_zero]
  · exact hop_0 kd A n c l w hb h
  · exact hop_1 kd A n c l w hb h
  · exact hop_2 kd A n c l w hb h
  · exact hop_3 kd A n c w h
  · exact hop_4 kd A n c w h
  · exact hop_5 kd A n c w h
  · exact hop_6 kd A n c l w hb h hn
  · exact hop_7 kd A n c l w hb h
theorem hopBytes_le (kd : Nat) (l : List UInt8) : 2 ≤ (hopBytes kd l).length ∧ (hopBytes kd l).length ≤ 50 := by
  have := idOf_length l
  have h2 : 2 ≤ (idOf l).length := by unfold idOf; split <;> simp
  have f2 := filled_length l 2
  have f4 := filled_length l 4
  have f16 := filled_length l 16
  unfold hopBytes
  repeat' split
  all_goals (try simp only [List.length_append, List.length_cons, List.length_nil]); (try omega)
  all_goals simp
end Go.Proofs.YtkmieonfhcmimaaGreatDoor

/- spec.AddrOf: the bytes of parts one after the other. -/
namespace Go.Proofs.YtkmieonfhcmimaaGreatDoor
open Go.RowKit
/-- A part, as it lies in memory. -/
structure Hop where
  kd : Nat
  A : Option Addr
  n : Nat
  c : Nat
  l : List UInt8
def Hop.bytes (h : Hop) : List UInt8 := hopBytes h.kd h.l
/-- The bytes of an address. -/
def addrBytes (hs : List Hop) : List UInt8 := hs.flatMap Hop.bytes
/-- A slice of parts, below block B. -/
structure HS (w : World) (B : Nat) (A : Option Addr) (n c : Nat) (hs : List Hop) : Prop where
  len : hs.length = n
  cap : n ≤ c
  max : c ≤ maxLen
  at_ : ∀ i (hi : i < hs.length), ∃ ad, A = some ad ∧ ad.block < B ∧ w.cell? (ad.add (i * 2)) = some (.int .u8 (hs[i]).kd) ∧ w.cell? (ad.add (i * 2 + 1)) = some (.slice (hs[i]).A (hs[i]).n (hs[i]).c) ∧ RB w B (hs[i]).A (hs[i]).n (hs[i]).c (hs[i]).l
theorem HS.below {w w' : World} {B : Nat} {A : Option Addr} {n c : Nat} {hs : List Hop} (h : HS w B A n c hs) (hb : Below B w w') : HS w' B A n c hs :=
  ⟨h.len, h.cap, h.max, fun i hi => by
    obtain ⟨ad, e, hlt, c0, c1, hr⟩ := h.at_ i hi
    exact ⟨ad, e, hlt, (hb.cell (by rw [block_of_add]; exact hlt)).trans c0, (hb.cell (by rw [block_of_add]; exact hlt)).trans c1, hr.below hb⟩⟩
theorem HS.more {w : World} {B B' : Nat} {A : Option Addr} {n c : Nat} {hs : List Hop} (h : HS w B A n c hs) (hB : B ≤ B') : HS w B' A n c hs :=
  ⟨h.len, h.cap, h.max, fun i hi => by
    obtain ⟨ad, e, hlt, c0, c1, hr⟩ := h.at_ i hi
    exact ⟨ad, e, by omega, c0, c1, hr.more hB⟩⟩
theorem HS.take {w : World} {B : Nat} {A : Option Addr} {n c : Nat} {hs : List Hop} (h : HS w B A n c hs) {k : Nat} (hk : k ≤ n) : HS w B A k c (hs.take k) :=
  ⟨by rw [List.length_take, h.len]; exact Nat.min_eq_left hk, Nat.le_trans hk h.cap, h.max, fun i hi => by
    have h1 : i < hs.length := by rw [List.length_take] at hi; omega
    rw [List.getElem_take]
    exact h.at_ i h1⟩
theorem addrBytes_take (hs : List Hop) (k : Nat) (h : k < hs.length) : addrBytes (hs.take (k + 1)) = addrBytes (hs.take k) ++ (hs[k]).bytes := by
  unfold addrBytes
  rw [List.take_succ_eq_append_getElem h, List.flatMap_append]
  simp
theorem addrBytes_le (hs : List Hop) : (addrBytes hs).length ≤ 50 * hs.length := by
  induction hs with
  | nil => simp [addrBytes]
  | cons h hs ih =>
    have := (hopBytes_le h.kd h.l).2
    unfold addrBytes at *
    simp only [List.flatMap_cons, List.length_append, List.length_cons, Hop.bytes]
    omega

theorem add_succ (ad : Addr) (m j : Nat) (hj : j ≠ 0) : ad.add (m + j) = ⟨(ad.add m).block, (ad.add m).off + j, none⟩ := by
  rw [← add_of_add, Addr.add, if_neg hj]
set_option maxRecDepth 100000 in
set_option maxHeartbeats 2000000 in
theorem addrof_any (A : Option Addr) (n c : Nat) (hs : List Hop) (w : World) (h : HS w w.heap.size A n c hs) (hn : n ≤ 1000) (hd : ∀ i (hi : i < hs.length), (hs[i]).n ≤ 100000) :
    Calls Tryz.prog 23 #[.slice A n c] w (OwnB (addrBytes hs) w) := by
  obtain ⟨i0, hi0, hz0, hz1, hz2⟩ := info_parts u8_info
  have HH := Lib.hid h
  have HD := Lib.hid hd
  have HL := Lib.hid h.len
  have hlen : hs.length ≤ 1000 := by rw [h.len]; exact hn
  clear h hd
  go_enter Tryz.func23, Tryz.ntmps23
  go_wp2_with fail
  go_loopw [3, 8] (fun v i wr => ∃ k : Nat, k ≤ n ∧ i = .int .i64 k ∧ wr.ownsRow w.heap.size 5 1 v (addrBytes (hs.take k)).length (bv (addrBytes (hs.take k))) ∧ Below w.heap.size w wr) (fun _ i _ => n - (intOf i).toNat)
  case atStart => exact ⟨0, by omega, rfl, World.ownsRow_nil _ _ _ _, Below.refl _ _⟩
  case round =>
    obtain ⟨k, hk, rfl, hown, hb⟩ := hrel
    have HO := Lib.hid hown
    have HB := Lib.hid hb
    clear hown hb
    by_cases hlt : k < n
    · obtain ⟨ad, rfl, hbk, c0, c1, hr⟩ := (HH.out.below HB.out).at_ k (by rw [HL.out]; exact hlt)
      have HR := Lib.hid hr
      clear hr
      have hnk := HD.out k (by rw [HL.out]; exact hlt)
      generalize hhk : hs[k]'(by rw [HL.out]; exact hlt) = hp at *
      have HHK := Lib.hid hhk
      clear hhk
      rw [add_succ _ _ 1 (by decide)] at c1
      have hbw : Below w.heap.size w (wr.alloc (.cells #[.int .u8 hp.kd, .slice hp.A hp.n hp.c] 50)) := HB.out.alloc HB.out.size _
      have HBW := Lib.hid hbw
      clear hbw
      go_wp2_with fail
      refine (hop_any hp.kd hp.A hp.n hp.c hp.l _ ((HR.out.more HB.out.size).next ((Below.refl _ _).alloc (Nat.le_refl _) _)) hnk).mono ?_
      rintro e w3 ⟨v3, rfl, ho3, hb3⟩
      obtain ⟨A3, c3, rfl⟩ := own_slice ho3
      have HO3 := Lib.hid ho3
      have HB3 := Lib.hid hb3
      have HOO := Lib.hid (own_below HO.out (((Below.refl _ wr).alloc (Nat.le_refl _) (.cells #[.int .u8 hp.kd, .slice hp.A hp.n hp.c] 50)).trans (hb3.mono (by simp))))
      have hle1 := addrBytes_le (hs.take k)
      have hle2 := (hopBytes_le hp.kd hp.l).2
      have hlt3 : (hs.take k).length ≤ 1000 := by rw [List.length_take]; omega
      clear ho3 hb3
      go_wp2_with (at_builtin; refine wpList_append_any _ rfl (.tmp 12) (.tmp 14) _ rfl w.heap.size 5 i0 _ 1 1 Tryz.underlying32 hi0 hz0 hz1 hz2 rfl (by decide) _ _ _ rfl HOO.out _ _ _ c3 _ rfl (RB.of_own HO3.out).reads (bv_one _) ?c1 ?c2 ?c3 ?_)
      case c1 => unfold maxLen; omega
      case c2 => omega
      case c3 => exact Nat.le_trans HBW.out.size HB3.out.size
      intro v' w' hown hgrow _hat
      have hof : w'.ownsRow w.heap.size 5 1 v' (addrBytes (hs.take (k + 1))).length (bv (addrBytes (hs.take (k + 1)))) := by
        rw [addrBytes_take hs k (by rw [HL.out]; exact hlt), HHK.out, List.length_append, bv_append]
        exact hown
      have HOF := Lib.hid hof
      have HBF := Lib.hid (((HBW.out.trans (HB3.out.mono HBW.out.size)).grown hgrow (Nat.le_trans HBW.out.size HB3.out.size) (fun g hg => (HOO.out.lt g hg).1)))
      clear hown hgrow _hat hof hle1 hle2 hlt3
      go_wp2_with fail
      go_roundw
      case rel => exact ⟨k + 1, by omega, by go_num, HOF.out, HBF.out⟩
      case measure => simp [intOf]; omega
    · obtain rfl : k = n := by omega
      have htk : hs.take k = hs := by rw [← HL.out]; exact List.take_length
      rw [htk] at HO
      clear htk
      go_wp2_with fail
      go_ret
      exact ⟨u3, rfl, HO.out, HB.out⟩
end Go.Proofs.YtkmieonfhcmimaaGreatDoor

/- readComponent at any part of an address; readMultiaddr: all of them, in their order. -/
namespace Go.Proofs.YtkmieonfhcmimaaGreatDoor
open Go.RowKit
variable {K : Nat}
def codeOf (kd : Nat) : Nat := if kd % 8 = 0 then 4 else if kd % 8 = 1 then 6 else if kd % 8 = 2 then 273 else if kd % 8 = 3 then 461 else if kd % 8 = 4 then 477 else if kd % 8 = 5 then 290 else if kd % 8 = 6 then 421 else 41
def vsOf (kd : Nat) : Nat := if kd % 8 = 0 then 1 else if kd % 8 = 1 then 1 else if kd % 8 = 2 then 2 else if kd % 8 = 3 then 2 else if kd % 8 = 4 then 2 else if kd % 8 = 5 then 2 else if kd % 8 = 6 then 3 else 1
/-- An ID: its first two bytes, and the rest. -/
theorem id_form (l : List UInt8) : ∃ (x y : UInt8) (v : Nat) (d : List UInt8), idOf l = x :: y :: d ∧ x.toNat = v ∧ y.toNat = d.length ∧ d.length ≤ 42 ∧ (v = 0 ∨ v = 18 ∧ d.length = 32) := by
  unfold idOf
  split
  · exact ⟨0, UInt8.ofNat l.length, 0, l, rfl, rfl, by simp; omega, by omega, Or.inl rfl⟩
  · have hs : (shaSum l).length = 32 := by unfold shaSum; exact shaOut_length _ _
    generalize shaSum l = s at hs
    exact ⟨18, 32, 18, s, rfl, rfl, by rw [hs]; rfl, by omega, Or.inr ⟨rfl, hs⟩⟩

/-- The numbers that the text of a part shows are below K. -/
def HopOk (K kd : Nat) (l : List UInt8) : Prop := 65536 ≤ K ∨ ((kd % 8 = 0 → ∀ b ∈ filled l 4, b.toNat < K) ∧ (kd % 8 = 1 ∨ kd % 8 = 2 → Lib.beNat (filled l 2) < K) ∧ kd % 8 ≠ 7)
theorem HopOk.ip {K kd : Nat} {l : List UInt8} (h : HopOk K kd l) (e : kd % 8 = 0) : ∀ b ∈ filled l 4, b.toNat < K := by
  rcases h with h | h
  · exact fun b _ => Nat.lt_of_lt_of_le b.toNat_lt (by omega)
  · exact h.1 e
theorem HopOk.port {K kd : Nat} {l : List UInt8} (h : HopOk K kd l) (e : kd % 8 = 1 ∨ kd % 8 = 2) : Lib.beNat (filled l 2) < K := by
  rcases h with h | h
  · have f2 := filled_length l 2
    generalize filled l 2 = d at f2
    match d, f2 with
    | [b0, b1], _ => exact Nat.lt_of_lt_of_le (beNat_lt b0 b1) h
  · exact h.2.1 e
theorem HopOk.six {K kd : Nat} {l : List UInt8} (h : HopOk K kd l) (e : kd % 8 = 7) : 256 ≤ K := by
  rcases h with h | h
  · omega
  · exact absurd e h.2.2
theorem HopOk.id {K kd : Nat} {l : List UInt8} (e : kd % 8 = 6) : HopOk K kd l := Or.inr ⟨fun h => by omega, fun h => by omega, by omega⟩
theorem read_hop (kd : Nat) (l : List UInt8) (A : Option Addr) (c : Nat) (rs : List UInt8) (w : World) (ht : Tab K w) (hok : HopOk K kd l) (h : RB w w.heap.size A (rs.length + (hopBytes kd l).length) c (hopBytes kd l ++ rs)) :
    Calls Tryz.prog 92 #[.slice A (rs.length + (hopBytes kd l).length) c] w (OutC (codeOf kd) (hopBytes kd l) (vsOf kd) (hopBytes kd l).length w) := by
  have h8 : kd % 8 = 0 ∨ kd % 8 = 1 ∨ kd % 8 = 2 ∨ kd % 8 = 3 ∨ kd % 8 = 4 ∨ kd % 8 = 5 ∨ kd % 8 = 6 ∨ kd % 8 = 7 := by omega
  have f2 := filled_length l 2
  have f4 := filled_length l 4
  have f16 := filled_length l 16
  have k4 := hok.ip
  have k2 := hok.port
  have k16 := hok.six
  clear hok
  unfold hopBytes at h ⊢
  unfold codeOf vsOf
  rcases h8 with e | e | e | e | e | e | e | e <;> simp only [e, if_true, if_false, Nat.reduceEqDiff, Nat.succ_ne_zero] at h ⊢
  · have hl : ([4] ++ filled l 4).length = 5 := by simp [f4]
    rw [hl] at h ⊢
    exact read_4 A c _ rs w ht h f4 (k4 e)
  · have hl : ([6] ++ filled l 2).length = 3 := by simp [f2]
    rw [hl] at h ⊢
    exact read_6 A c _ rs w ht h f2 (k2 (Or.inl e))
  · have hl : ([145, 2] ++ filled l 2).length = 4 := by simp [f2]
    rw [hl] at h ⊢
    exact read_273 A c _ rs w ht h f2 (k2 (Or.inr e))
  · exact read_461 A c rs w ht h
  · exact read_477 A c rs w ht h
  · exact read_290 A c rs w ht h
  · obtain ⟨x, y, v, d, hid, hx, hy, hd, hv⟩ := id_form l
    rw [hid] at h ⊢
    have hl : ([165, 3] ++ [UInt8.ofNat (x :: y :: d).length] ++ x :: y :: d).length = d.length + 5 := by simp
    rw [hl] at h ⊢
    exact read_421 A c x y (UInt8.ofNat (x :: y :: d).length) v d rs w ht h (by simp; omega) hx hy hd hv
  · have hl : ([41] ++ filled l 16).length = 17 := by simp [f16]
    rw [hl] at h ⊢
    exact read_41 A c _ rs w ht h f16 (k16 e)
end Go.Proofs.YtkmieonfhcmimaaGreatDoor

/- readMultiaddr: the components of an address, in their order. -/
namespace Go.Proofs.YtkmieonfhcmimaaGreatDoor
open Go.RowKit
variable {K : Nat}
/-- Components, as cells: each part with the block of its protocol. -/
def compCells (cs : List (Hop × Nat)) : List Value := cs.flatMap fun x => [.string ⟨x.1.bytes.toArray⟩, .pointer (some ⟨x.2, 0, none⟩), .int .i64 (vsOf x.1.kd)]
/-- Their protocols are there. -/
def PR (w : World) (cs : List (Hop × Nat)) : Prop := ∀ x ∈ cs, ∃ g, Blk w x.2 122 (pcells (codeOf x.1.kd) g)
theorem PR.below {w w' : World} {cs : List (Hop × Nat)} (h : PR w cs) (hb : Below w.heap.size w w') : PR w' cs := fun x hx => by
  obtain ⟨g, hg⟩ := h x hx
  exact ⟨g, hg.below hb hg.lt⟩
theorem PR.grown {w w' : World} {cs : List (Hop × Nat)} {base n : Nat} {v : Value} {xs : List Value} (h : PR w cs) (ho : w.ownsRow base 126 3 v n xs) (hg : w.grownBy w' v.ownBlock) : PR w' cs := fun x hx => by
  obtain ⟨g, hk⟩ := h x hx
  exact ⟨g, hk.grown hg (fun e => own_blk_ne ho hk (by decide) e.symm)⟩
theorem PR.snoc {w : World} {cs : List (Hop × Nat)} (h : PR w cs) {x : Hop × Nat} {g : Nat} (hx : Blk w x.2 122 (pcells (codeOf x.1.kd) g)) : PR w (cs ++ [x]) := fun y hy => by
  rcases List.mem_append.1 hy with hy | hy
  · exact h y hy
  · simp at hy; subst hy; exact ⟨g, hx⟩
theorem compCells_snoc (cs : List (Hop × Nat)) (x : Hop × Nat) : compCells (cs ++ [x]) = compCells cs ++ [.string ⟨x.1.bytes.toArray⟩, .pointer (some ⟨x.2, 0, none⟩), .int .i64 (vsOf x.1.kd)] := by
  simp [compCells]
theorem compCells_length (cs : List (Hop × Nat)) : (compCells cs).length = cs.length * 3 := by
  induction cs with
  | nil => rfl
  | cons x cs ih => simp only [compCells, List.flatMap_cons, List.length_append, List.length_cons] at *; simp at *; omega
theorem addrBytes_cons (h : Hop) (hs : List Hop) : addrBytes (h :: hs) = h.bytes ++ addrBytes hs := rfl
/-- x[k:] of bytes, under a name. -/
theorem run_from (A : Option Addr) (n c k : Nat) (hk : k ≤ n) (_hc : n ≤ c) : ∃ A', (∀ w : World, (Instr.sliceAt 32 (.slice A n c) (some (.int .i64 (k : Int))) none none).run Tryz.prog w = .ok (.slice A' (n - k) (c - k)) w) ∧
    ∀ (w : World) (B : Nat) (l : List UInt8), RB w B A n c l → RB w B A' (n - k) (c - k) (l.drop k) := by
  refine ⟨if c = k then A else A.map (·.add k), fun w => ?_, fun w B l h => h.drop hk⟩
  rw [run_sliceAt_slice w 32 _ _ _ _ (by kernel_rfl), run_slice_l w 32 A n c (by kernel_rfl) .i64 (k : Int) (by omega) (by omega)]
  go_simp
theorem comp_info : (Tryz.prog.info? 126).map (fun i => (i.size, i.bytes)) = some (3, 32) := by kernel_rfl
theorem comp_info2 : (Tryz.prog.info? 126).map (fun i => (i.zero, i.size, i.bytes)) = some (some (.agg #[.string ⟨#[]⟩, .pointer none, .int .i64 0]), 3, 32) := by kernel_rfl
/-- An address, read. -/
def OutA (hs : List Hop) (w : World) (e : Ending) (w' : World) : Prop :=
  ∃ v cs, e = .returned (.tuple #[.int .i64 (addrBytes hs).length, v, .nilIface]) ∧ cs.map (·.1) = hs ∧ PR w' cs ∧ w'.ownsRow w.heap.size 126 3 v cs.length (compCells cs) ∧ Below w.heap.size w w'

set_option maxRecDepth 100000 in
set_option maxHeartbeats 4000000 in
theorem readma_any (A : Option Addr) (n c : Nat) (hs : List Hop) (w : World) (ht : Tab K w) (hok : ∀ x ∈ hs, HopOk K x.kd x.l) (h : RB w w.heap.size A n c (addrBytes hs)) (hn : hs.length ≤ 100) (hne : hs ≠ []) :
    Calls Tryz.prog 73 #[.slice A n c] w (OutA hs w) := by
  obtain ⟨i0, hi0, hz0, hz1, hz2⟩ := info_parts comp_info2
  have hlen := h.len
  have hle := addrBytes_le hs
  have hn0 : 0 < n := by
    rcases hs with _ | ⟨x, hs⟩
    · exact absurd rfl hne
    · have := (hopBytes_le x.kd x.l).1
      rw [addrBytes_cons, List.length_append] at hlen
      unfold Hop.bytes at hlen
      omega
  have HH := Lib.hid h
  have HT := Lib.hid ht
  have HOK := Lib.hid hok
  have HN := Lib.hid hlen
  have hn0b : ((n : Int) == 0) = false := by simp; omega
  clear h ht hok hne hlen
  go_enter Tryz.func73, Tryz.ntmps73
  go_wp2_with fail
  go_loopw [0, 5, 6, 7] (fun b res br sp wr => ∃ k : Nat, k ≤ hs.length ∧ (∃ A c, b = .slice A (addrBytes (hs.drop k)).length c ∧ RB wr w.heap.size A (addrBytes (hs.drop k)).length c (addrBytes (hs.drop k))) ∧ br = .int .i64 (addrBytes (hs.take k)).length ∧ sp = .bool false ∧
      (∃ cs, cs.map (·.1) = hs.take k ∧ PR wr cs ∧ wr.ownsRow w.heap.size 126 3 res cs.length (compCells cs)) ∧ Below w.heap.size w wr) (fun b _ _ _ _ => lenOf b)
  case atStart =>
    refine ⟨0, by omega, ⟨A, c, by rw [List.drop_zero, HN.out], by rw [List.drop_zero, HN.out]; exact HH.out⟩, rfl, rfl, ⟨[], rfl, fun x hx => by simp at hx, World.ownsRow_nil _ _ _ _⟩, Below.refl _ _⟩
  case round =>
    obtain ⟨k, hk, ⟨A1, c1, rfl, hr⟩, rfl, rfl, ⟨cs, hcs, hpr, hown⟩, hb⟩ := hrel
    have HB := Lib.hid hb
    have HO := Lib.hid hown
    have HP := Lib.hid hpr
    have HC := Lib.hid hcs
    clear hb hown hpr hcs
    by_cases hlt : k < hs.length
    · have hdk : hs.drop k = hs[k] :: hs.drop (k + 1) := List.drop_eq_getElem_cons hlt
      have htk := addrBytes_take hs k hlt
      generalize hhk : hs[k] = hp at *
      have hop2 := hopBytes_le hp.kd hp.l
      have hle2 := addrBytes_le (hs.take k)
      have hlk : (hs.take k).length ≤ 100 := by rw [List.length_take]; omega
      rw [hdk, addrBytes_cons, List.length_append, Nat.add_comm] at hr ⊢
      have hcap := hr.cap
      have hmax : c1 ≤ 9223372036854775807 := hr.max
      have hH : hp.bytes = hopBytes hp.kd hp.l := rfl
      obtain ⟨A2, hsl, hdr⟩ := run_from A1 ((addrBytes (hs.drop (k + 1))).length + hp.bytes.length) c1 hp.bytes.length (by omega) hcap
      rw [Nat.add_sub_cancel] at hsl hdr
      have hrest := hdr wr w.heap.size _ hr
      rw [List.drop_left] at hrest
      have hbl2 : 2 ≤ hp.bytes.length := hop2.1
      have hbl50 : hp.bytes.length ≤ 50 := hop2.2
      have hrl : (addrBytes (hs.drop (k + 1))).length ≤ 5000 := by
        have h1 := addrBytes_le (hs.drop (k + 1))
        have h2 : (hs.drop (k + 1)).length ≤ 100 := by rw [List.length_drop]; omega
        omega
      have hcl : cs.length ≤ 100 := by
        have := congrArg List.length HC.out
        rw [List.length_map] at this
        omega
      have hrd : Calls Tryz.prog 92 #[.slice A1 ((addrBytes (hs.drop (k + 1))).length + hp.bytes.length) c1] wr (OutC (codeOf hp.kd) hp.bytes (vsOf hp.kd) hp.bytes.length wr) := read_hop hp.kd hp.l A1 c1 _ wr (HT.out.below HB.out) (by have := HOK.out _ (List.getElem_mem hlt); rwa [hhk] at this) (hr.more HB.out.size)
      have HRD := Lib.hid hrd
      have HRE := Lib.hid hrest
      have HTK := Lib.hid htk
      have HHK := Lib.hid hhk
      obtain ⟨rs, hrs⟩ : ∃ rs, rs = addrBytes (hs.drop (k + 1)) := ⟨_, rfl⟩
      obtain ⟨hb, hhb⟩ : ∃ hb, hb = hp.bytes := ⟨_, rfl⟩
      obtain ⟨m, hm⟩ : ∃ m, m = (addrBytes (hs.take k)).length := ⟨_, rfl⟩
      have hm5 : m ≤ 5000 := by omega
      rw [← hrs, ← hhb] at HRD hsl
      rw [← hrs] at HRE
      rw [← hhb] at HTK hbl2 hbl50
      rw [← hrs, ← hhb, ← hm]
      rw [← hrs] at hrl
      have HRS := Lib.hid hrs
      have HHB := Lib.hid hhb
      have HM := Lib.hid hm
      clear hr hrd hrest hdr htk hhk hrs hhb hm hdk hH hop2 hle2 hlk hcap hmax
      go_wp2_with fail
      refine HRD.out.mono ?_
      rintro e w3 ⟨q, p, g, rfl, hC, hb3⟩
      obtain ⟨c0, c1', c2, _, _, _⟩ := hC.cells
      have p4 : w3.cell? ⟨p, 4, none⟩ = some (.bool false) := hC.prot.cell 4
      have HCC := Lib.hid hC
      have HB3 := Lib.hid hb3
      clear hC hb3
      have hbq := ((Below.refl _ w3).alloc (Nat.le_refl _) (.cells #[.string ⟨hb.toArray⟩, .pointer (some ⟨p, 0, none⟩), .int .i64 (vsOf hp.kd)] 126))
      have HOO := Lib.hid (own_below HO.out (HB3.out.trans (hbq.mono HB3.out.size)))
      have hrn := reads_new w3 #[.string ⟨hb.toArray⟩, .pointer (some ⟨p, 0, none⟩), .int .i64 (vsOf hp.kd)] 126 3 1 rfl
      have HBQ := Lib.hid hbq
      have HRN := Lib.hid hrn
      clear hbq hrn
      go_wp2_with (at_builtin; refine wpList_append_any _ rfl (.tmp 43) (.tmp 47) _ rfl w.heap.size 126 i0 _ 3 32 Tryz.underlying56 hi0 hz0 hz1 hz2 rfl (by decide) _ _ _ rfl HOO.out _ _ 1 1 _ rfl HRN.out ?c0 ?c1 ?c2 ?c3 ?_)
      case c0 => intro u hu; simp at hu; rcases hu with rfl | rfl | rfl <;> rfl
      case c1 => unfold maxLen; omega
      case c2 => omega
      case c3 => have := HB.out.size; have := HB3.out.size; simp; omega
      intro v' w' hown hgrow _hat
      have hbw : Below w.heap.size wr w' := ((HB3.out.mono HB.out.size).trans (HBQ.out.mono (Nat.le_trans HB.out.size HB3.out.size))).grown hgrow (by have := HB.out.size; have := HB3.out.size; simp; omega) (fun g hg => (HOO.out.lt g hg).1)
      have hpr2 := ((HP.out.below (HB3.out.trans (HBQ.out.mono HB3.out.size))).snoc (x := (hp, p)) (HCC.out.prot.below HBQ.out HCC.out.prot.lt)).grown HOO.out hgrow
      have HBW := Lib.hid hbw
      have HPR2 := Lib.hid hpr2
      have HOW := Lib.hid hown
      clear hbw hpr2 hown hgrow _hat c0 c1' c2 p4
      go_wp2_with fail
      go_roundw
      case rel =>
        refine ⟨k + 1, by omega, ⟨A2, c1 - hb.length, by rw [← HRS.out], ?_⟩, ?_, rfl, ⟨cs ++ [(hp, p)], ?_, HPR2.out, ?_⟩, HB.out.trans HBW.out⟩
        · rw [← HRS.out, HHB.out]; exact HRE.out.below HBW.out
        · rw [HTK.out, List.length_append, ← HM.out]; go_num
        · rw [List.map_append, HC.out, List.take_succ_eq_append_getElem hlt, HHK.out]; rfl
        · rw [compCells_snoc, List.length_append]
          have := HOW.out
          rw [HHB.out] at this
          exact this
      case measure => simp [lenOf]; omega
    · obtain rfl : k = hs.length := by omega
      have hc2 := HC.out
      have HRR := Lib.hid hr
      rw [List.drop_length] at hr ⊢
      rw [List.take_length] at hc2 ⊢
      have HC2 := Lib.hid hc2
      clear hr hc2
      rw [show (addrBytes []).length = 0 from rfl]
      go_wp2_with fail
      go_ret3
      exact ⟨_, cs, rfl, HC2.out, HP.out, HO.out, HB.out⟩
end Go.Proofs.YtkmieonfhcmimaaGreatDoor

/- NewMultiaddrBytes at the bytes of an address: the deferred call finds no panic. -/
namespace Go.Proofs.YtkmieonfhcmimaaGreatDoor
open Go.RowKit
variable {K : Nat}
theorem PR.far {w : World} {cs : List (Hop × Nat)} {g : Nat} {t : TypeId} {ds : Array Value} (h : PR w cs) (hk : Blk w g t ds) (hne : 122 ≠ t) (i : Nat) (u : Value) : PR (w.setCell ⟨g, i, none⟩ u) cs := fun x hx => by
  obtain ⟨g', hp⟩ := h x hx
  exact ⟨g', hp.far (hp.ne_ hk hne) u⟩
theorem catch_idle (p : Addr) (w : World) :
    CallsD Tryz.prog 71 #[.pointer (some p)] .returning w fun e u' w' => e = .returned (.tuple #[]) ∧ u' = .returning ∧ w' = w := by
  have q0 : ∀ w : World, (binOp .neq 20 .nilIface .nilIface).run Tryz.prog w = .ok (.bool false) w := fun _ => by kernel_rfl
  refine callsD_of_wpS Tryz.func71 rfl fun c₀ cs hu => ?_
  apply wpS_seq
  apply wpS_region
  simp [wpOpsS, go_sem, recoverD, hu, Tryz.ntmps71, Exit.thenS]
  apply wpS_seq
  apply wpS_region
  simp [wpOpsS, go_sem, q0, Exit.thenS]
  refine wpS_cond (t := false) (by simp [Act.eval, Array.replicate]) ?_
  simp only [Bool.false_eq_true, if_false]
  refine wpS_of_wp (wp_skip ?_)
  cases c₀
  simp_all [bodyPostS, results, Tryz.results71]
/-- An address. -/
def OutMA (hs : List Hop) (w : World) (e : Ending) (w' : World) : Prop :=
  ∃ v cs, e = .returned (.tuple #[v, .nilIface]) ∧ cs.map (·.1) = hs ∧ PR w' cs ∧ w'.ownsRow w.heap.size 126 3 v cs.length (compCells cs) ∧ Below w.heap.size w w'
set_option maxRecDepth 100000 in
set_option maxHeartbeats 2000000 in
theorem newma_any (A : Option Addr) (n c : Nat) (hs : List Hop) (w : World) (ht : Tab K w) (hok : ∀ x ∈ hs, HopOk K x.kd x.l) (h : RB w w.heap.size A n c (addrBytes hs)) (hn : hs.length ≤ 100) (hne : hs ≠ []) :
    Calls Tryz.prog 47 #[.slice A n c] w (OutMA hs w) := by
  have hmf : ∀ (fn : Fn) (first cap : Array Value) (w : World), (Instr.makeFunc fn first cap).run Tryz.prog w = .ok (.func fn first cap) w := fun _ _ _ _ => rfl
  obtain ⟨w1, hw1⟩ : ∃ w1, w1 = w.alloc (.cells #[.nilIface] 61) := ⟨_, rfl⟩
  have hb1 : Below w.heap.size w w1 := by rw [hw1]; exact (Below.refl _ w).alloc (Nat.le_refl _) _
  have hk1 : Blk w1 w.heap.size 61 #[.nilIface] := by rw [hw1]; exact Blk.new _ _ _
  have HC := Lib.hid (readma_any A n c hs w1 (ht.below hb1) hok ((h.below hb1).more hb1.size) hn hne)
  have hlen := h.len
  have HL := Lib.hid hlen
  have HB1 := Lib.hid hb1
  have HK1 := Lib.hid hk1
  have HW1 := Lib.hid hw1
  have hs0 : 0 < hs.length := by rcases hs with _ | ⟨x, hs⟩; exact absurd rfl hne; simp
  clear h ht hok hne hb1 hk1 hw1 hlen
  go_enter_defers Tryz.func47, Tryz.ntmps47
  go_wp2_with fail
  rw [← HW1.out]
  refine HC.out.mono ?_
  rintro e w3 ⟨v, cs, rfl, hcs, hpr, hown, hb3⟩
  rw [HL.out]
  obtain ⟨A3, c3, rfl⟩ := own_slice hown
  have hk3 := HK1.out.below hb3 HK1.out.lt
  have c0 : w3.cell? ⟨w.heap.size, 0, none⟩ = some .nilIface := hk3.cell 0
  have f0 := hk3.frozen 0
  have hcl : 0 < cs.length := by have := congrArg List.length hcs; rw [List.length_map] at this; omega
  have hb4 : w.heap.size < w1.heap.size := HK1.out.lt
  have HO := Lib.hid hown
  have HP := Lib.hid hpr
  have HCS := Lib.hid hcs
  have HB := Lib.hid (HB1.out.trans (hb3.mono HB1.out.size))
  have HK3 := Lib.hid hk3
  clear hown hpr hcs hb3 hk3
  go_wp2_with fail
  have hcf : ((w3.setCell ⟨w.heap.size, 0, none⟩ .nilIface).setCell ⟨w.heap.size, 0, none⟩ .nilIface).cell? ⟨w.heap.size, 0, none⟩ = some .nilIface := ((HK3.out.set_ 0 .nilIface).set_ 0 .nilIface).cell 0
  have hpf := (HP.out.far HK3.out (by decide) 0 .nilIface).far (HK3.out.set_ 0 .nilIface) (by decide) 0 .nilIface
  have hof := ownsRow_setCell_below (ownsRow_setCell_below HO.out (a := ⟨w.heap.size, 0, none⟩) hb4 .nilIface) (a := ⟨w.heap.size, 0, none⟩) hb4 .nilIface
  have hbf := (HB.out.setCell (p := ⟨w.heap.size, 0, none⟩) (Nat.le_refl _) .nilIface).setCell (p := ⟨w.heap.size, 0, none⟩) (Nat.le_refl _) .nilIface
  refine leaves_cons (f := 71) (args := #[.pointer (some ⟨w.heap.size, 0, none⟩)]) (by simp) (by simp [go_sem]) ?_
  refine (catch_idle ⟨w.heap.size, 0, none⟩ _).mono ?_
  rintro e u' w'' ⟨rfl, rfl, rfl⟩
  have hfin : OutMA hs w (.returned (.tuple #[.slice A3 cs.length c3, .nilIface])) ((w3.setCell ⟨w.heap.size, 0, none⟩ .nilIface).setCell ⟨w.heap.size, 0, none⟩ .nilIface) := ⟨_, cs, rfl, HCS.out, hpf, own_base hof (Nat.le_of_lt hb4), hbf⟩
  simp [Leaves, settle, results, Tryz.results47, go_sem, hcf]
  exact hfin
end Go.Proofs.YtkmieonfhcmimaaGreatDoor
