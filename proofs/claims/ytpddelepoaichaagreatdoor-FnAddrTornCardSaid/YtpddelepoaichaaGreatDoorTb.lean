/- An address of which the last byte is lost: no address, but an error. -/
import Derived.Test.YtpddelepoaichaaGreatDoorTa
import Derived.Test.YtpddelepoaichaaGreatDoorPs
import Derived.BigRegion
namespace Go.Proofs.YtpddelepoaichaaGreatDoor
open Go.RowKit
variable {K : Nat}
/-- Bytes that are no component. -/
structure Torn (tb : List UInt8) : Prop where
  pos : 0 < tb.length
  le : tb.length ≤ 60
  fails : ∀ (A : Option Addr) (c : Nat) (w : World), Und w → RB w w.heap.size A tb.length c tb → Calls Tryz.prog 48 #[.slice A tb.length c] w (OutE3 w)
/-- No address, and an error. -/
def OutE3' (w : World) (e : Ending) (w' : World) : Prop := ∃ t v, e = .returned (.tuple #[.int .i64 0, .slice none 0 0, .iface t v]) ∧ Below w.heap.size w w'
def restB (hs : List Hop) (tb : List UInt8) (k : Nat) : List UInt8 := addrBytes (hs.drop k) ++ tb
theorem restB_zero (hs : List Hop) (tb : List UInt8) : restB hs tb 0 = addrBytes hs ++ tb := by simp [restB]
theorem restB_all (hs : List Hop) (tb : List UInt8) : restB hs tb hs.length = tb := by simp [restB, addrBytes]
theorem restB_cons (hs : List Hop) (tb : List UInt8) (k : Nat) (h : k < hs.length) : restB hs tb k = (hs[k]).bytes ++ restB hs tb (k + 1) := by
  unfold restB
  rw [List.drop_eq_getElem_cons h, addrBytes_cons, List.append_assoc]
theorem restB_le (hs : List Hop) (tb : List UInt8) (k : Nat) : (restB hs tb k).length ≤ 50 * hs.length + tb.length := by
  have := addrBytes_le (hs.drop k)
  unfold restB
  rw [List.length_append]
  rw [List.length_drop] at this
  omega
set_option maxRecDepth 100000 in
set_option maxHeartbeats 4000000 in
theorem readma_torn (A : Option Addr) (n c : Nat) (hs : List Hop) (tb : List UInt8) (w : World) (ht : Tab K w) (hok : ∀ x ∈ hs, HopOk K x.kd x.l) (hu : Und w) (h : RB w w.heap.size A n c (addrBytes hs ++ tb)) (hn : hs.length ≤ 100) (htb : Torn tb) :
    Calls Tryz.prog 44 #[.slice A n c] w (OutE3' w) := by
  obtain ⟨i0, hi0, hz0, hz1, hz2⟩ := info_parts comp_info2
  have hlen := h.len
  have hle := addrBytes_le hs
  rw [List.length_append] at hlen
  have htb0 := htb.pos
  have htb1 := htb.le
  have hn0 : 0 < n := by omega
  have HTB := Lib.hid htb
  have HU := Lib.hid hu
  have HH := Lib.hid h
  have HT := Lib.hid ht
  have HOK := Lib.hid hok
  have HN := Lib.hid hlen
  have hn0b : ((n : Int) == 0) = false := by simp; omega
  clear h ht hok hlen htb hu
  go_enter Tryz.func44, Tryz.ntmps44
  go_wp2_with fail
  go_loopw [0, 5, 6, 7] (fun b res br sp wr => ∃ k : Nat, k ≤ hs.length ∧ (∃ A c, b = .slice A (restB hs tb k).length c ∧ RB wr w.heap.size A (restB hs tb k).length c (restB hs tb k)) ∧ br = .int .i64 (addrBytes (hs.take k)).length ∧ sp = .bool false ∧
      (∃ cs, cs.map (·.1) = hs.take k ∧ PR wr cs ∧ wr.ownsRow w.heap.size 88 3 res cs.length (compCells cs)) ∧ Below w.heap.size w wr) (fun b _ _ _ _ => lenOf b)
  case atStart =>
    refine ⟨0, by omega, ⟨A, c, by rw [restB_zero, List.length_append, HN.out], by rw [restB_zero, List.length_append, HN.out]; exact HH.out⟩, rfl, rfl, ⟨[], rfl, fun x hx => by simp at hx, World.ownsRow_nil _ _ _ _⟩, Below.refl _ _⟩
  case round =>
    obtain ⟨k, hk, ⟨A1, c1, rfl, hr⟩, rfl, rfl, ⟨cs, hcs, hpr, hown⟩, hb⟩ := hrel
    have HB := Lib.hid hb
    have HO := Lib.hid hown
    have HP := Lib.hid hpr
    have HC := Lib.hid hcs
    clear hb hown hpr hcs
    by_cases hlt : k < hs.length
    · have hdk := restB_cons hs tb k hlt
      have htk := addrBytes_take hs k hlt
      generalize hhk : hs[k] = hp at *
      have hop2 := hopBytes_le hp.kd hp.l
      have hle2 := addrBytes_le (hs.take k)
      have hlk : (hs.take k).length ≤ 100 := by rw [List.length_take]; omega
      rw [hdk, List.length_append, Nat.add_comm] at hr ⊢
      have hcap := hr.cap
      have hmax : c1 ≤ 9223372036854775807 := hr.max
      have hH : hp.bytes = hopBytes hp.kd hp.l := rfl
      obtain ⟨A2, hsl, hdr⟩ := run_from A1 ((restB hs tb (k + 1)).length + hp.bytes.length) c1 hp.bytes.length (by omega) hcap
      rw [Nat.add_sub_cancel] at hsl hdr
      have hrest := hdr wr w.heap.size _ hr
      rw [List.drop_left] at hrest
      have hbl2 : 2 ≤ hp.bytes.length := hop2.1
      have hbl50 : hp.bytes.length ≤ 50 := hop2.2
      have hrl : (restB hs tb (k + 1)).length ≤ 6000 := by
        have h1 := restB_le hs tb (k + 1)
        omega
      have hcl : cs.length ≤ 100 := by
        have := congrArg List.length HC.out
        rw [List.length_map] at this
        omega
      have hrd : Calls Tryz.prog 48 #[.slice A1 ((restB hs tb (k + 1)).length + hp.bytes.length) c1] wr (OutC (codeOf hp.kd) hp.bytes (vsOf hp.kd) hp.bytes.length wr) := read_hop hp.kd hp.l A1 c1 _ wr (HT.out.below HB.out) (by have := HOK.out _ (List.getElem_mem hlt); rwa [hhk] at this) (hr.more HB.out.size)
      have HRD := Lib.hid hrd
      have HRE := Lib.hid hrest
      have HTK := Lib.hid htk
      have HHK := Lib.hid hhk
      obtain ⟨rs, hrs⟩ : ∃ rs, rs = restB hs tb (k + 1) := ⟨_, rfl⟩
      obtain ⟨hb, hhb⟩ : ∃ hb, hb = hp.bytes := ⟨_, rfl⟩
      obtain ⟨m, hm⟩ : ∃ m, m = (addrBytes (hs.take k)).length := ⟨_, rfl⟩
      have hm5 : m ≤ 5000 := by omega
      rw [← hrs, ← hhb] at HRD hsl
      rw [← hrs] at HRE
      rw [← hhb] at HTK hbl2 hbl50
      rw [← hrs, ← hhb, ← hm]
      rw [← hrs] at hrl
      have HRS := Lib.hid hrs
      have HHB := Lib.hid hhb
      have HM := Lib.hid hm
      clear hr hrd hrest hdr htk hhk hrs hhb hm hdk hH hop2 hle2 hlk hcap hmax
      go_wp2_with fail
      refine HRD.out.mono ?_
      rintro e w3 ⟨q, p, g, rfl, hC, hb3⟩
      obtain ⟨c0, c1', c2, _, _, _⟩ := hC.cells
      have p4 : w3.cell? ⟨p, 4, none⟩ = some (.bool false) := hC.prot.cell 4
      have HCC := Lib.hid hC
      have HB3 := Lib.hid hb3
      clear hC hb3
      have hbq := ((Below.refl _ w3).alloc (Nat.le_refl _) (.cells #[.string ⟨hb.toArray⟩, .pointer (some ⟨p, 0, none⟩), .int .i64 (vsOf hp.kd)] 88))
      have HOO := Lib.hid (own_below HO.out (HB3.out.trans (hbq.mono HB3.out.size)))
      have hrn := reads_new w3 #[.string ⟨hb.toArray⟩, .pointer (some ⟨p, 0, none⟩), .int .i64 (vsOf hp.kd)] 88 3 1 rfl
      have HBQ := Lib.hid hbq
      have HRN := Lib.hid hrn
      clear hbq hrn
      go_wp2_with (at_builtin; refine wpList_append_any _ rfl (.tmp 43) (.tmp 47) _ rfl w.heap.size 88 i0 _ 3 32 Tryz.underlying51 hi0 hz0 hz1 hz2 rfl (by decide) _ _ _ rfl HOO.out _ _ 1 1 _ rfl HRN.out ?c0 ?c1 ?c2 ?c3 ?_)
      case c0 => intro u hu; simp at hu; rcases hu with rfl | rfl | rfl <;> rfl
      case c1 => unfold maxLen; omega
      case c2 => omega
      case c3 => have := HB.out.size; have := HB3.out.size; simp; omega
      intro v' w' hown hgrow _hat
      have hbw : Below w.heap.size wr w' := ((HB3.out.mono HB.out.size).trans (HBQ.out.mono (Nat.le_trans HB.out.size HB3.out.size))).grown hgrow (by have := HB.out.size; have := HB3.out.size; simp; omega) (fun g hg => (HOO.out.lt g hg).1)
      have hpr2 := ((HP.out.below (HB3.out.trans (HBQ.out.mono HB3.out.size))).snoc (x := (hp, p)) (HCC.out.prot.below HBQ.out HCC.out.prot.lt)).grown HOO.out hgrow
      have HBW := Lib.hid hbw
      have HPR2 := Lib.hid hpr2
      have HOW := Lib.hid hown
      clear hbw hpr2 hown hgrow _hat c0 c1' c2 p4
      go_wp2_with fail
      go_roundw
      case rel =>
        refine ⟨k + 1, by omega, ⟨A2, c1 - hb.length, by rw [← HRS.out], ?_⟩, ?_, rfl, ⟨cs ++ [(hp, p)], ?_, HPR2.out, ?_⟩, HB.out.trans HBW.out⟩
        · rw [← HRS.out, HHB.out]; exact HRE.out.below HBW.out
        · rw [HTK.out, List.length_append, ← HM.out]; go_num
        · rw [List.map_append, HC.out, List.take_succ_eq_append_getElem hlt, HHK.out]; rfl
        · rw [compCells_snoc, List.length_append]
          have := HOW.out
          rw [HHB.out] at this
          exact this
      case measure => simp [lenOf]; omega
    · obtain rfl : k = hs.length := by omega
      rw [restB_all] at hr ⊢
      have hf := HTB.out.fails A1 c1 wr (HU.out.below (HB.out)) (hr.more HB.out.size)
      have HF := Lib.hid hf
      have hd0 : decide ((0 : Int) < (tb.length : Int)) = true := by simp; omega
      clear hr hf
      go_wp2_with fail
      refine HF.out.mono ?_
      rintro e w3 ⟨t, v, rfl, hb3⟩
      have HBF := Lib.hid (HB.out.trans (hb3.mono HB.out.size))
      clear hb3
      go_wp2_with fail
      go_ret3
      exact ⟨t, v, rfl, HBF.out⟩

/-- No address. -/
def OutNA (w : World) (e : Ending) (w' : World) : Prop := ∃ t v, e = .returned (.tuple #[.slice none 0 0, .iface t v]) ∧ Below w.heap.size w w'
set_option maxRecDepth 100000 in
set_option maxHeartbeats 2000000 in
theorem newma_torn (A : Option Addr) (n c : Nat) (hs : List Hop) (tb : List UInt8) (w : World) (ht : Tab K w) (hok : ∀ x ∈ hs, HopOk K x.kd x.l) (hu : Und w) (h : RB w w.heap.size A n c (addrBytes hs ++ tb)) (hn : hs.length ≤ 100) (htb : Torn tb) :
    Calls Tryz.prog 36 #[.slice A n c] w (OutNA w) := by
  have hmf : ∀ (fn : Fn) (first cap : Array Value) (w : World), (Instr.makeFunc fn first cap).run Tryz.prog w = .ok (.func fn first cap) w := fun _ _ _ _ => rfl
  obtain ⟨w1, hw1⟩ : ∃ w1, w1 = w.alloc (.cells #[.nilIface] 63) := ⟨_, rfl⟩
  have hb1 : Below w.heap.size w w1 := by rw [hw1]; exact (Below.refl _ w).alloc (Nat.le_refl _) _
  have hk1 : Blk w1 w.heap.size 63 #[.nilIface] := by rw [hw1]; exact Blk.new _ _ _
  have HC := Lib.hid (readma_torn A n c hs tb w1 (ht.below hb1) hok (hu.below hb1) ((h.below hb1).more hb1.size) hn htb)
  have HB1 := Lib.hid hb1
  have HK1 := Lib.hid hk1
  have HW1 := Lib.hid hw1
  clear h ht hok hu htb hb1 hk1 hw1
  go_enter_defers Tryz.func36, Tryz.ntmps36
  go_wp2_with fail
  rw [← HW1.out]
  refine HC.out.mono ?_
  rintro e w3 ⟨t, v, rfl, hb3⟩
  have hk3 := HK1.out.below hb3 HK1.out.lt
  have c0 : w3.cell? ⟨w.heap.size, 0, none⟩ = some .nilIface := hk3.cell 0
  have f0 := hk3.frozen 0
  have HB := Lib.hid (HB1.out.trans (hb3.mono HB1.out.size))
  have HK3 := Lib.hid hk3
  clear hb3 hk3
  go_wp2_with fail
  clear c0 f0
  have hk4 := HK3.out.set_ 0 (.iface t v)
  have c4 : (w3.setCell ⟨w.heap.size, 0, none⟩ (.iface t v)).cell? ⟨w.heap.size, 0, none⟩ = some (.iface t v) := hk4.cell 0
  have f4 := hk4.frozen 0
  have HB4 := Lib.hid (HB.out.setCell (p := ⟨w.heap.size, 0, none⟩) (Nat.le_refl _) (.iface t v))
  obtain ⟨w4, hw4⟩ : ∃ w4, w4 = w3.setCell ⟨w.heap.size, 0, none⟩ (.iface t v) := ⟨_, rfl⟩
  rw [← hw4] at c4 f4 hk4 HB4 ⊢
  have HK4 := Lib.hid hk4
  clear hw4 hk4
  go_region
  go_wp2_with fail
  have hcf : ((w4.setCell ⟨w.heap.size, 0, none⟩ (.iface t v)).drew).cell? ⟨w.heap.size, 0, none⟩ = some (.iface t v) := (HK4.out.set_ 0 (.iface t v)).cell 0
  have hbf := (HB4.out.setCell (p := ⟨w.heap.size, 0, none⟩) (Nat.le_refl _) (.iface t v)).drew
  refine leaves_cons (f := 42) (args := #[.pointer (some ⟨w.heap.size, 0, none⟩)]) (by simp) (by simp [go_sem]) ?_
  refine (catch_idle ⟨w.heap.size, 0, none⟩ _).mono ?_
  rintro e u' w'' ⟨rfl, rfl, rfl⟩
  have hfin : OutNA w (.returned (.tuple #[.slice none 0 0, .iface t v])) ((w4.setCell ⟨w.heap.size, 0, none⟩ (.iface t v)).drew) := ⟨t, v, rfl, hbf⟩
  simp [Leaves, settle, results, Tryz.results36, go_sem, hcf]
  exact hfin
end Go.Proofs.YtpddelepoaichaaGreatDoor
