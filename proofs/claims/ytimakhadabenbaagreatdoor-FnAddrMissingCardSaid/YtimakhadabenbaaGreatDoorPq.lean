/- impl.addrOf, impl.AddrRight, peer.SplitAddr at the bytes of an address. -/
import Derived.Test.YtimakhadabenbaaGreatDoorPp
import Derived.Test.YtimakhadabenbaaGreatDoorXm
namespace Go.Proofs.YtimakhadabenbaaGreatDoor
open Go.RowKit
variable {K : Nat}
attribute [local go_sem ↓] Go.wp_at_zero Go.wp_at_succ
/-- An address read. -/
def OutAO (hs : List Hop) (w : World) (e : Ending) (w' : World) : Prop :=
  ∃ g c cs, e = .returned (.tuple #[.slice (some ⟨g, 0, none⟩) cs.length c, .bool true]) ∧ cs.map (·.1) = hs ∧ PR w' cs ∧ MS w' g cs.length c cs ∧ Below w.heap.size w w'
set_option maxRecDepth 100000 in
set_option maxHeartbeats 2000000 in
theorem addrof_impl (A : Option Addr) (n c : Nat) (hs : List Hop) (w : World) (ht : Tab K w) (hok : ∀ x ∈ hs, HopOk K x.kd x.l) (h : RB w w.heap.size A n c (addrBytes hs)) (hn : hs.length ≤ 100) (hne : hs ≠ []) :
    Calls Tryz.prog 16 #[.slice A n c] w (OutAO hs w) := by
  have hs0 : 0 < hs.length := by rcases hs with _ | ⟨x, hs⟩; exact absurd rfl hne; simp
  have hle := addrBytes_le hs
  have hnn : n ≤ 140737488355328 := by rw [← h.len]; omega
  have HC := Lib.hid (clone_any A n c _ w h hnn)
  have HT := Lib.hid ht
  have HOK := Lib.hid hok
  have HN := Lib.hid hne
  clear h ht hok hne hle hnn
  have q0 : ∀ w : World, (binOp .eql 51 .nilIface .nilIface).run Tryz.prog w = .ok (.bool true) w := fun _ => by kernel_rfl
  go_enter Tryz.func16, Tryz.ntmps16
  go_wp2_with fail
  refine HC.out.mono ?_
  rintro e w1 ⟨A1, c1, rfl, hr1, hb1⟩
  have HR1 := Lib.hid hr1
  have HB1 := Lib.hid hb1
  clear hr1 hb1
  go_wp2_with fail
  refine (newma_any A1 _ c1 hs w1 (HT.out.below HB1.out) HOK.out HR1.out hn HN.out).mono ?_
  rintro e w2 ⟨v, cs, rfl, hcs, hpr, hown, hb2⟩
  have hcl : 0 < cs.length := by have := congrArg List.length hcs; rw [List.length_map] at this; omega
  obtain ⟨g, c2, rfl, hms⟩ := MS.of_own hown hcl
  have HCS := Lib.hid hcs
  have HPR := Lib.hid hpr
  have HMS := Lib.hid hms
  have HB := Lib.hid (HB1.out.trans (hb2.mono HB1.out.size))
  clear hcs hpr hms hown hb2
  go_wp2_with fail
  go_ret2
  exact ⟨g, c2, cs, rfl, HCS.out, HPR.out, HMS.out, HB.out⟩
theorem splitlast_any (g c : Nat) (cs : List (Hop × Nat)) (x : Hop × Nat) (w : World) (hn1 : cs.length ≤ 1000) (h : MS w g (cs.length + 1) c (cs ++ [x])) : Calls Tryz.prog 33 #[.slice (some ⟨g, 0, none⟩) (cs.length + 1) c] w (OutSL cs x w) := by
  rcases cs with _ | ⟨y, cs⟩
  · exact splitlast_one g c x w h
  · exact splitlast_more g c (y :: cs) x w (by simp) hn1 h
theorem codeOf_421 (kd : Nat) : codeOf kd = 421 ↔ kd % 8 = 6 := by
  have h8 : kd % 8 = 0 ∨ kd % 8 = 1 ∨ kd % 8 = 2 ∨ kd % 8 = 3 ∨ kd % 8 = 4 ∨ kd % 8 = 5 ∨ kd % 8 = 6 ∨ kd % 8 = 7 := by omega
  unfold codeOf
  rcases h8 with e | e | e | e | e | e | e | e <;> simp [e]
theorem vs_le (kd : Nat) (l : List UInt8) : vsOf kd ≤ (hopBytes kd l).length := by
  have h8 : kd % 8 = 0 ∨ kd % 8 = 1 ∨ kd % 8 = 2 ∨ kd % 8 = 3 ∨ kd % 8 = 4 ∨ kd % 8 = 5 ∨ kd % 8 = 6 ∨ kd % 8 = 7 := by omega
  unfold vsOf hopBytes
  rcases h8 with e | e | e | e | e | e | e | e <;> simp [e]
theorem drop_id (kd : Nat) (l : List UInt8) (h : kd % 8 = 6) : (hopBytes kd l).drop (vsOf kd) = idOf l := by
  unfold vsOf hopBytes
  simp [h]
theorem field_code (v0 v1 v2 v3 v4 v5 : Value) (w : World) : (Instr.field 83 (.agg #[v0, v1, v2, v3, v4, v5]) 1).run Tryz.prog w = .ok v1 w := by kernel_rfl
/-- What peer.SplitAddr gives at an address with an ID behind it. -/
def OutPS (cs : List (Hop × Nat)) (x : Hop × Nat) (w : World) (e : Ending) (w' : World) : Prop :=
  ∃ T, e = .returned (.tuple #[T, .string ⟨(idOf x.1.l).toArray⟩]) ∧ ((cs = [] ∧ T = .slice none 0 0) ∨ (0 < cs.length ∧ ∃ b, T = .slice (some ⟨b, 0, none⟩) cs.length cs.length ∧ MS w' b cs.length cs.length cs)) ∧ Below w.heap.size w w'
set_option maxRecDepth 100000 in
set_option maxHeartbeats 2000000 in
theorem splitaddr_id (g c : Nat) (cs : List (Hop × Nat)) (x : Hop × Nat) (w : World) (hn1 : cs.length ≤ 1000) (hk : x.1.kd % 8 = 6) (hp : PR w (cs ++ [x])) (h : MS w g (cs.length + 1) c (cs ++ [x])) : Calls Tryz.prog 24 #[.slice (some ⟨g, 0, none⟩) (cs.length + 1) c] w (OutPS cs x w) := by
  have q : ∀ (w : World) (a : Option Addr) (n c n' c' : Nat), (binOp .eql 46 (.slice a n c) (.slice none n' c')).run Tryz.prog w = .ok (.bool a.isNone) w := fun w a n c n' c' => Lib.run_eql_slice_nil w _ _ a n c n' c' Tryz.underlying46
  obtain ⟨gp, hgp⟩ := hp x (by simp)
  have HP := Lib.hid hgp
  have hfc := fun v0 v1 v2 v3 v4 v5 => field_code v0 v1 v2 v3 v4 v5
  have hcode : codeOf x.1.kd = 421 := (codeOf_421 _).2 hk
  rw [hcode] at HP
  have HC := Lib.hid (splitlast_any g c cs x w hn1 h)
  have HK := Lib.hid hk
  clear hp h hcode hk hgp
  go_enter Tryz.func24, Tryz.ntmps24
  go_wp2_with fail
  refine HC.out.mono ?_
  rintro e w1 ⟨T, q1, rfl, h3, hT, hb⟩
  have HB := Lib.hid hb
  have HT := Lib.hid hT
  have H3 := Lib.hid h3
  clear h3 hb hT
  go_wp2_with fail
  refine (protocol_any q1 x.2 421 gp w1 H3.out.c1 (HP.out.below HB.out HP.out.lt)).mono ?_
  rintro e w2 ⟨v0, v2, v3, v4, v5, rfl, hb2⟩
  have H3' := Lib.hid (H3.out.below hb2)
  have HT' := Lib.hid (HT.out.imp id (fun ⟨h0, b, e1, hm⟩ => ⟨h0, b, e1, hm.below hb2⟩) : (cs = [] ∧ T = Value.slice none 0 0) ∨ (0 < cs.length ∧ ∃ b, T = .slice (some ⟨b, 0, none⟩) cs.length cs.length ∧ MS w2 b cs.length cs.length cs))
  have HB' := Lib.hid (HB.out.trans (hb2.mono HB.out.size))
  clear hb2
  go_wp2_with fail
  refine (rawvalue_c3 q1 x w2 H3'.out (vs_le _ _) (by have := (hopBytes_le x.1.kd x.1.l).2; unfold Hop.bytes; omega)).mono ?_
  rintro e w3 ⟨A3, c3, rfl, hr3, hb3⟩
  have hd : x.1.bytes.drop (vsOf x.1.kd) = idOf x.1.l := drop_id _ _ HK.out
  rw [hd] at hr3 ⊢
  have hcv := run_convert_RB hr3 27 5 Tryz.underlying27 Tryz.underlying5 54 Tryz.underlying54
  have HT3 := Lib.hid (HT'.out.imp id (fun ⟨h0, b, e1, hm⟩ => ⟨h0, b, e1, hm.below hb3⟩) : (cs = [] ∧ T = Value.slice none 0 0) ∨ (0 < cs.length ∧ ∃ b, T = .slice (some ⟨b, 0, none⟩) cs.length cs.length ∧ MS w3 b cs.length cs.length cs))
  have HB3 := Lib.hid (HB'.out.trans (hb3.mono HB'.out.size))
  clear hr3 hb3 hd
  go_wp2_with fail
  go_ret2
  exact ⟨T, rfl, HT3.out, HB3.out⟩
set_option maxRecDepth 100000 in
set_option maxHeartbeats 2000000 in
theorem splitaddr_other (g c : Nat) (cs : List (Hop × Nat)) (x : Hop × Nat) (w : World) (hn1 : cs.length ≤ 1000) (hk : x.1.kd % 8 ≠ 6) (hp : PR w (cs ++ [x])) (h : MS w g (cs.length + 1) c (cs ++ [x])) : Calls Tryz.prog 24 #[.slice (some ⟨g, 0, none⟩) (cs.length + 1) c] w fun e w' => e = .returned (.tuple #[.slice (some ⟨g, 0, none⟩) (cs.length + 1) c, .string ⟨#[]⟩]) ∧ Below w.heap.size w w' := by
  have q : ∀ (w : World) (a : Option Addr) (n c n' c' : Nat), (binOp .eql 46 (.slice a n c) (.slice none n' c')).run Tryz.prog w = .ok (.bool a.isNone) w := fun w a n c n' c' => Lib.run_eql_slice_nil w _ _ a n c n' c' Tryz.underlying46
  obtain ⟨gp, hgp⟩ := hp x (by simp)
  have HP := Lib.hid hgp
  have hfc := fun v0 v1 v2 v3 v4 v5 => field_code v0 v1 v2 v3 v4 v5
  obtain ⟨K, hK⟩ : ∃ K, K = codeOf x.1.kd := ⟨_, rfl⟩
  have hne : ((K : Int) != 421) = true := by
    have : K ≠ 421 := by rw [hK]; exact fun e => hk ((codeOf_421 _).1 e)
    simp; omega
  rw [← hK] at HP
  have HC := Lib.hid (splitlast_any g c cs x w hn1 h)
  clear hp h hgp hK
  go_enter Tryz.func24, Tryz.ntmps24
  go_wp2_with fail
  refine HC.out.mono ?_
  rintro e w1 ⟨T, q1, rfl, h3, _, hb⟩
  have HB := Lib.hid hb
  have H3 := Lib.hid h3
  clear h3 hb
  go_wp2_with fail
  refine (protocol_any q1 x.2 K gp w1 H3.out.c1 (HP.out.below HB.out HP.out.lt)).mono ?_
  rintro e w2 ⟨v0, v2, v3, v4, v5, rfl, hb2⟩
  have HB' := Lib.hid (HB.out.trans (hb2.mono HB.out.size))
  clear hb2
  go_wp2_with fail
  go_ret2
  exact ⟨rfl, HB'.out⟩
end Go.Proofs.YtimakhadabenbaaGreatDoor
