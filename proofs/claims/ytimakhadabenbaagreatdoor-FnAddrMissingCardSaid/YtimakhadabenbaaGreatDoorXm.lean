/- spec.AddrOf: the bytes of parts one after the other. -/
import Derived.Test.YtimakhadabenbaaGreatDoorXl
namespace Go.Proofs.YtimakhadabenbaaGreatDoor
open Go.RowKit
/-- A part, as it lies in memory. -/
structure Hop where
  kd : Nat
  A : Option Addr
  n : Nat
  c : Nat
  l : List UInt8
def Hop.bytes (h : Hop) : List UInt8 := hopBytes h.kd h.l
/-- The bytes of an address. -/
def addrBytes (hs : List Hop) : List UInt8 := hs.flatMap Hop.bytes
/-- A slice of parts, below block B. -/
structure HS (w : World) (B : Nat) (A : Option Addr) (n c : Nat) (hs : List Hop) : Prop where
  len : hs.length = n
  cap : n ≤ c
  max : c ≤ maxLen
  at_ : ∀ i (hi : i < hs.length), ∃ ad, A = some ad ∧ ad.block < B ∧ w.cell? (ad.add (i * 2)) = some (.int .u8 (hs[i]).kd) ∧ w.cell? (ad.add (i * 2 + 1)) = some (.slice (hs[i]).A (hs[i]).n (hs[i]).c) ∧ RB w B (hs[i]).A (hs[i]).n (hs[i]).c (hs[i]).l
theorem HS.below {w w' : World} {B : Nat} {A : Option Addr} {n c : Nat} {hs : List Hop} (h : HS w B A n c hs) (hb : Below B w w') : HS w' B A n c hs :=
  ⟨h.len, h.cap, h.max, fun i hi => by
    obtain ⟨ad, e, hlt, c0, c1, hr⟩ := h.at_ i hi
    exact ⟨ad, e, hlt, (hb.cell (by rw [block_of_add]; exact hlt)).trans c0, (hb.cell (by rw [block_of_add]; exact hlt)).trans c1, hr.below hb⟩⟩
theorem HS.more {w : World} {B B' : Nat} {A : Option Addr} {n c : Nat} {hs : List Hop} (h : HS w B A n c hs) (hB : B ≤ B') : HS w B' A n c hs :=
  ⟨h.len, h.cap, h.max, fun i hi => by
    obtain ⟨ad, e, hlt, c0, c1, hr⟩ := h.at_ i hi
    exact ⟨ad, e, by omega, c0, c1, hr.more hB⟩⟩
theorem HS.take {w : World} {B : Nat} {A : Option Addr} {n c : Nat} {hs : List Hop} (h : HS w B A n c hs) {k : Nat} (hk : k ≤ n) : HS w B A k c (hs.take k) :=
  ⟨by rw [List.length_take, h.len]; exact Nat.min_eq_left hk, Nat.le_trans hk h.cap, h.max, fun i hi => by
    have h1 : i < hs.length := by rw [List.length_take] at hi; omega
    rw [List.getElem_take]
    exact h.at_ i h1⟩
theorem addrBytes_take (hs : List Hop) (k : Nat) (h : k < hs.length) : addrBytes (hs.take (k + 1)) = addrBytes (hs.take k) ++ (hs[k]).bytes := by
  unfold addrBytes
  rw [List.take_succ_eq_append_getElem h, List.flatMap_append]
  simp
theorem addrBytes_le (hs : List Hop) : (addrBytes hs).length ≤ 50 * hs.length := by
  induction hs with
  | nil => simp [addrBytes]
  | cons h hs ih =>
    have := (hopBytes_le h.kd h.l).2
    unfold addrBytes at *
    simp only [List.flatMap_cons, List.length_append, List.length_cons, Hop.bytes]
    omega

theorem add_succ (ad : Addr) (m j : Nat) (hj : j ≠ 0) : ad.add (m + j) = ⟨(ad.add m).block, (ad.add m).off + j, none⟩ := by
  rw [← add_of_add, Addr.add, if_neg hj]
set_option maxRecDepth 100000 in
set_option maxHeartbeats 2000000 in
theorem addrof_any (A : Option Addr) (n c : Nat) (hs : List Hop) (w : World) (h : HS w w.heap.size A n c hs) (hn : n ≤ 1000) (hd : ∀ i (hi : i < hs.length), (hs[i]).n ≤ 100000) :
    Calls Tryz.prog 14 #[.slice A n c] w (OwnB (addrBytes hs) w) := by
  obtain ⟨i0, hi0, hz0, hz1, hz2⟩ := info_parts u8_info
  have HH := Lib.hid h
  have HD := Lib.hid hd
  have HL := Lib.hid h.len
  have hlen : hs.length ≤ 1000 := by rw [h.len]; exact hn
  clear h hd
  go_enter Tryz.func14, Tryz.ntmps14
  go_wp2_with fail
  go_loopw [3, 8] (fun v i wr => ∃ k : Nat, k ≤ n ∧ i = .int .i64 k ∧ wr.ownsRow w.heap.size 5 1 v (addrBytes (hs.take k)).length (bv (addrBytes (hs.take k))) ∧ Below w.heap.size w wr) (fun _ i _ => n - (intOf i).toNat)
  case atStart => exact ⟨0, by omega, rfl, World.ownsRow_nil _ _ _ _, Below.refl _ _⟩
  case round =>
    obtain ⟨k, hk, rfl, hown, hb⟩ := hrel
    have HO := Lib.hid hown
    have HB := Lib.hid hb
    clear hown hb
    by_cases hlt : k < n
    · obtain ⟨ad, rfl, hbk, c0, c1, hr⟩ := (HH.out.below HB.out).at_ k (by rw [HL.out]; exact hlt)
      have HR := Lib.hid hr
      clear hr
      have hnk := HD.out k (by rw [HL.out]; exact hlt)
      generalize hhk : hs[k]'(by rw [HL.out]; exact hlt) = hp at *
      have HHK := Lib.hid hhk
      clear hhk
      rw [add_succ _ _ 1 (by decide)] at c1
      have hbw : Below w.heap.size w (wr.alloc (.cells #[.int .u8 hp.kd, .slice hp.A hp.n hp.c] 29)) := HB.out.alloc HB.out.size _
      have HBW := Lib.hid hbw
      clear hbw
      go_wp2_with fail
      refine (hop_any hp.kd hp.A hp.n hp.c hp.l _ ((HR.out.more HB.out.size).next ((Below.refl _ _).alloc (Nat.le_refl _) _)) hnk).mono ?_
      rintro e w3 ⟨v3, rfl, ho3, hb3⟩
      obtain ⟨A3, c3, rfl⟩ := own_slice ho3
      have HO3 := Lib.hid ho3
      have HB3 := Lib.hid hb3
      have HOO := Lib.hid (own_below HO.out (((Below.refl _ wr).alloc (Nat.le_refl _) (.cells #[.int .u8 hp.kd, .slice hp.A hp.n hp.c] 29)).trans (hb3.mono (by simp))))
      have hle1 := addrBytes_le (hs.take k)
      have hle2 := (hopBytes_le hp.kd hp.l).2
      have hlt3 : (hs.take k).length ≤ 1000 := by rw [List.length_take]; omega
      clear ho3 hb3
      go_wp2_with (at_builtin; refine wpList_append_any _ rfl (.tmp 12) (.tmp 14) _ rfl w.heap.size 5 i0 _ 1 1 Tryz.underlying27 hi0 hz0 hz1 hz2 rfl (by decide) _ _ _ rfl HOO.out _ _ _ c3 _ rfl (RB.of_own HO3.out).reads (bv_one _) ?c1 ?c2 ?c3 ?_)
      case c1 => unfold maxLen; omega
      case c2 => omega
      case c3 => exact Nat.le_trans HBW.out.size HB3.out.size
      intro v' w' hown hgrow _hat
      have hof : w'.ownsRow w.heap.size 5 1 v' (addrBytes (hs.take (k + 1))).length (bv (addrBytes (hs.take (k + 1)))) := by
        rw [addrBytes_take hs k (by rw [HL.out]; exact hlt), HHK.out, List.length_append, bv_append]
        exact hown
      have HOF := Lib.hid hof
      have HBF := Lib.hid (((HBW.out.trans (HB3.out.mono HBW.out.size)).grown hgrow (Nat.le_trans HBW.out.size HB3.out.size) (fun g hg => (HOO.out.lt g hg).1)))
      clear hown hgrow _hat hof hle1 hle2 hlt3
      go_wp2_with fail
      go_roundw
      case rel => exact ⟨k + 1, by omega, by go_num, HOF.out, HBF.out⟩
      case measure => simp [intOf]; omega
    · obtain rfl : k = n := by omega
      have htk : hs.take k = hs := by rw [← HL.out]; exact List.take_length
      rw [htk] at HO
      clear htk
      go_wp2_with fail
      go_ret
      exact ⟨u3, rfl, HO.out, HB.out⟩
end Go.Proofs.YtimakhadabenbaaGreatDoor
