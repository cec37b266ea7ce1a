/- Numbers from 2 to 44 as varints: their sizes. No condition beyond. -/
import Derived.Test.YtllofneeodnllaaGreatDoorBh
namespace Go.Proofs.YtllofneeodnllaaGreatDoor
open Go.RowKit
attribute [local go_sem ↓] Go.wp_at_zero Go.wp_at_succ
set_option maxRecDepth 100000 in
set_option maxHeartbeats 4000000 in
theorem len64_id (n : Nat) (h2 : 2 ≤ n) (h44 : n ≤ 44) (w : World) : Calls Tryz.prog 163 #[.int .u64 n] w fun e w' => (∃ k : Nat, e = .returned (.int .i64 k) ∧ 1 ≤ k ∧ k ≤ 6) ∧ w = w' := by
  have hcs : n = 2 ∨ n = 3 ∨ n = 4 ∨ n = 5 ∨ n = 6 ∨ n = 7 ∨ n = 8 ∨ n = 9 ∨ n = 10 ∨ n = 11 ∨ n = 12 ∨ n = 13 ∨ n = 14 ∨ n = 15 ∨ n = 16 ∨ n = 17 ∨ n = 18 ∨ n = 19 ∨ n = 20 ∨ n = 21 ∨ n = 22 ∨ n = 23 ∨ n = 24 ∨ n = 25 ∨ n = 26 ∨ n = 27 ∨ n = 28 ∨ n = 29 ∨ n = 30 ∨ n = 31 ∨ n = 32 ∨ n = 33 ∨ n = 34 ∨ n = 35 ∨ n = 36 ∨ n = 37 ∨ n = 38 ∨ n = 39 ∨ n = 40 ∨ n = 41 ∨ n = 42 ∨ n = 43 ∨ n = 44 := by omega
  rcases hcs with rfl | rfl | rfl | rfl | rfl | rfl | rfl | rfl | rfl | rfl | rfl | rfl | rfl | rfl | rfl | rfl | rfl | rfl | rfl | rfl | rfl | rfl | rfl | rfl | rfl | rfl | rfl | rfl | rfl | rfl | rfl | rfl | rfl | rfl | rfl | rfl | rfl | rfl | rfl | rfl | rfl | rfl | rfl
  · go_enter Tryz.func163, Tryz.ntmps163
    go_wp2_with fail
    go_ret
    exact ⟨⟨2, by simp; try kernel_rfl, by decide, by decide⟩, rfl⟩
  · go_enter Tryz.func163, Tryz.ntmps163
    go_wp2_with fail
    go_ret
    exact ⟨⟨2, by simp; try kernel_rfl, by decide, by decide⟩, rfl⟩
  · go_enter Tryz.func163, Tryz.ntmps163
    go_wp2_with fail
    go_ret
    exact ⟨⟨3, by simp; try kernel_rfl, by decide, by decide⟩, rfl⟩
  · go_enter Tryz.func163, Tryz.ntmps163
    go_wp2_with fail
    go_ret
    exact ⟨⟨3, by simp; try kernel_rfl, by decide, by decide⟩, rfl⟩
  · go_enter Tryz.func163, Tryz.ntmps163
    go_wp2_with fail
    go_ret
    exact ⟨⟨3, by simp; try kernel_rfl, by decide, by decide⟩, rfl⟩
  · go_enter Tryz.func163, Tryz.ntmps163
    go_wp2_with fail
    go_ret
    exact ⟨⟨3, by simp; try kernel_rfl, by decide, by decide⟩, rfl⟩
  · go_enter Tryz.func163, Tryz.ntmps163
    go_wp2_with fail
    go_ret
    exact ⟨⟨4, by simp; try kernel_rfl, by decide, by decide⟩, rfl⟩
  · go_enter Tryz.func163, Tryz.ntmps163
    go_wp2_with fail
    go_ret
    exact ⟨⟨4, by simp; try kernel_rfl, by decide, by decide⟩, rfl⟩
  · go_enter Tryz.func163, Tryz.ntmps163
    go_wp2_with fail
    go_ret
    exact ⟨⟨4, by simp; try kernel_rfl, by decide, by decide⟩, rfl⟩
  · go_enter Tryz.func163, Tryz.ntmps163
    go_wp2_with fail
    go_ret
    exact ⟨⟨4, by simp; try kernel_rfl, by decide, by decide⟩, rfl⟩
  · go_enter Tryz.func163, Tryz.ntmps163
    go_wp2_with fail
    go_ret
    exact ⟨⟨4, by simp; try kernel_rfl, by decide, by decide⟩, rfl⟩
  · go_enter Tryz.func163, Tryz.ntmps163
    go_wp2_with fail
    go_ret
    exact ⟨⟨4, by simp; try kernel_rfl, by decide, by decide⟩, rfl⟩
  · go_enter Tryz.func163, Tryz.ntmps163
    go_wp2_with fail
    go_ret
    exact ⟨⟨4, by simp; try kernel_rfl, by decide, by decide⟩, rfl⟩
  · go_enter Tryz.func163, Tryz.ntmps163
    go_wp2_with fail
    go_ret
    exact ⟨⟨4, by simp; try kernel_rfl, by decide, by decide⟩, rfl⟩
  · go_enter Tryz.func163, Tryz.ntmps163
    go_wp2_with fail
    go_ret
    exact ⟨⟨5, by simp; try kernel_rfl, by decide, by decide⟩, rfl⟩
  · go_enter Tryz.func163, Tryz.ntmps163
    go_wp2_with fail
    go_ret
    exact ⟨⟨5, by simp; try kernel_rfl, by decide, by decide⟩, rfl⟩
  · go_enter Tryz.func163, Tryz.ntmps163
    go_wp2_with fail
    go_ret
    exact ⟨⟨5, by simp; try kernel_rfl, by decide, by decide⟩, rfl⟩
  · go_enter Tryz.func163, Tryz.ntmps163
    go_wp2_with fail
    go_ret
    exact ⟨⟨5, by simp; try kernel_rfl, by decide, by decide⟩, rfl⟩
  · go_enter Tryz.func163, Tryz.ntmps163
    go_wp2_with fail
    go_ret
    exact ⟨⟨5, by simp; try kernel_rfl, by decide, by decide⟩, rfl⟩
  · go_enter Tryz.func163, Tryz.ntmps163
    go_wp2_with fail
    go_ret
    exact ⟨⟨5, by simp; try kernel_rfl, by decide, by decide⟩, rfl⟩
  · go_enter Tryz.func163, Tryz.ntmps163
    go_wp2_with fail
    go_ret
    exact ⟨⟨5, by simp; try kernel_rfl, by decide, by decide⟩, rfl⟩
  · go_enter Tryz.func163, Tryz.ntmps163
    go_wp2_with fail
    go_ret
    exact ⟨⟨5, by simp; try kernel_rfl, by decide, by decide⟩, rfl⟩
  · go_enter Tryz.func163, Tryz.ntmps163
    go_wp2_with fail
    go_ret
    exact ⟨⟨5, by simp; try kernel_rfl, by decide, by decide⟩, rfl⟩
  · go_enter Tryz.func163, Tryz.ntmps163
    go_wp2_with fail
    go_ret
    exact ⟨⟨5, by simp; try kernel_rfl, by decide, by decide⟩, rfl⟩
  · go_enter Tryz.func163, Tryz.ntmps163
    go_wp2_with fail
    go_ret
    exact ⟨⟨5, by simp; try kernel_rfl, by decide, by decide⟩, rfl⟩
  · go_enter Tryz.func163, Tryz.ntmps163
    go_wp2_with fail
    go_ret
    exact ⟨⟨5, by simp; try kernel_rfl, by decide, by decide⟩, rfl⟩
  · go_enter Tryz.func163, Tryz.ntmps163
    go_wp2_with fail
    go_ret
    exact ⟨⟨5, by simp; try kernel_rfl, by decide, by decide⟩, rfl⟩
  · go_enter Tryz.func163, Tryz.ntmps163
    go_wp2_with fail
    go_ret
    exact ⟨⟨5, by simp; try kernel_rfl, by decide, by decide⟩, rfl⟩
  · go_enter Tryz.func163, Tryz.ntmps163
    go_wp2_with fail
    go_ret
    exact ⟨⟨5, by simp; try kernel_rfl, by decide, by decide⟩, rfl⟩
  · go_enter Tryz.func163, Tryz.ntmps163
    go_wp2_with fail
    go_ret
    exact ⟨⟨5, by simp; try kernel_rfl, by decide, by decide⟩, rfl⟩
  · go_enter Tryz.func163, Tryz.ntmps163
    go_wp2_with fail
    go_ret
    exact ⟨⟨6, by simp; try kernel_rfl, by decide, by decide⟩, rfl⟩
  · go_enter Tryz.func163, Tryz.ntmps163
    go_wp2_with fail
    go_ret
    exact ⟨⟨6, by simp; try kernel_rfl, by decide, by decide⟩, rfl⟩
  · go_enter Tryz.func163, Tryz.ntmps163
    go_wp2_with fail
    go_ret
    exact ⟨⟨6, by simp; try kernel_rfl, by decide, by decide⟩, rfl⟩
  · go_enter Tryz.func163, Tryz.ntmps163
    go_wp2_with fail
    go_ret
    exact ⟨⟨6, by simp; try kernel_rfl, by decide, by decide⟩, rfl⟩
  · go_enter Tryz.func163, Tryz.ntmps163
    go_wp2_with fail
    go_ret
    exact ⟨⟨6, by simp; try kernel_rfl, by decide, by decide⟩, rfl⟩
  · go_enter Tryz.func163, Tryz.ntmps163
    go_wp2_with fail
    go_ret
    exact ⟨⟨6, by simp; try kernel_rfl, by decide, by decide⟩, rfl⟩
  · go_enter Tryz.func163, Tryz.ntmps163
    go_wp2_with fail
    go_ret
    exact ⟨⟨6, by simp; try kernel_rfl, by decide, by decide⟩, rfl⟩
  · go_enter Tryz.func163, Tryz.ntmps163
    go_wp2_with fail
    go_ret
    exact ⟨⟨6, by simp; try kernel_rfl, by decide, by decide⟩, rfl⟩
  · go_enter Tryz.func163, Tryz.ntmps163
    go_wp2_with fail
    go_ret
    exact ⟨⟨6, by simp; try kernel_rfl, by decide, by decide⟩, rfl⟩
  · go_enter Tryz.func163, Tryz.ntmps163
    go_wp2_with fail
    go_ret
    exact ⟨⟨6, by simp; try kernel_rfl, by decide, by decide⟩, rfl⟩
  · go_enter Tryz.func163, Tryz.ntmps163
    go_wp2_with fail
    go_ret
    exact ⟨⟨6, by simp; try kernel_rfl, by decide, by decide⟩, rfl⟩
  · go_enter Tryz.func163, Tryz.ntmps163
    go_wp2_with fail
    go_ret
    exact ⟨⟨6, by simp; try kernel_rfl, by decide, by decide⟩, rfl⟩
  · go_enter Tryz.func163, Tryz.ntmps163
    go_wp2_with fail
    go_ret
    exact ⟨⟨6, by simp; try kernel_rfl, by decide, by decide⟩, rfl⟩
set_option maxRecDepth 100000 in
set_option maxHeartbeats 1000000 in
theorem usize_id (n : Nat) (h2 : 2 ≤ n) (h44 : n ≤ 44) (w : World) : Calls Tryz.prog 99 #[.int .u64 n] w fun e w' => e = .returned (.int .i64 1) ∧ w = w' := by
  have HL := Lib.hid (len64_id n h2 h44)
  go_enter Tryz.func99, Tryz.ntmps99
  go_wp2_with fail
  refine (HL.out _).mono ?_
  rintro e w' ⟨⟨k, rfl, h1, h6⟩, rfl⟩
  have hk : k = 1 ∨ k = 2 ∨ k = 3 ∨ k = 4 ∨ k = 5 ∨ k = 6 := by omega
  rcases hk with rfl | rfl | rfl | rfl | rfl | rfl
  all_goals
    go_wp2_with fail
    go_ret
    exact ⟨rfl, rfl⟩
end Go.Proofs.YtllofneeodnllaaGreatDoor

/- The protocol of IDs by its name; an ID out of its text, through the transcoder. No condition beyond. -/
namespace Go.Proofs.YtllofneeodnllaaGreatDoor
open Go.RowKit
attribute [local go_sem ↓] Go.wp_at_zero Go.wp_at_succ
set_option maxRecDepth 100000 in
set_option maxHeartbeats 2000000 in
theorem named_p2p (w : World) : Calls Tryz.prog 97 #[.string ⟨#[112, 50, 112]⟩] w (OutP 421 w) := by
  go_enter Tryz.func97, Tryz.ntmps97
  go_wp2_with (go_at_call 150; refine (proto_421 _).mono ?_; rintro e w1 ⟨g, rfl, hg, hr, hb⟩; have hk := Lib.hid ((Blk.new w 89 pzero).below hb (by simp)); have Hb := Lib.hid hb; have Hr := Lib.hid hr; have hgg := Lib.hid (show w.heap.size + 1 ≤ g by simpa using hg); clear hr hb hg)
  rw [run_storeCells_row _ w.heap.size 89 pzero (pcells 421 g) hk.out rfl (pcells_one _ _)]
  go_wp2_with fail
  have hbb := ((Below.refl _ w).alloc (Nat.le_refl _) (.cells pzero 89)).trans (Hb.out.mono (by simp))
  exact bodyPost_ret (results_cell_row rfl _ _ w.heap.size 89 (pcells 421 g) (0, 0) _ rfl (hk.out.row _) Tryz.underlying89 rfl (proto_size.trans rfl)) rfl
    ⟨g, rfl, Nat.le_of_succ_le hgg.out, Hr.out.rowFar (by have := hgg.out; omega) _, below_setRow hbb (Nat.le_refl _) _⟩
set_option maxRecDepth 100000 in
set_option maxHeartbeats 2000000 in
theorem pname_p2p (w : World) : Calls Tryz.prog 69 #[.string ⟨#[112, 50, 112]⟩] w (OutP 421 w) := by
  go_enter Tryz.func69, Tryz.ntmps69
  go_wp2_with (go_at_call 97; refine (named_p2p _).mono ?_; rintro e w1 ⟨g, rfl, hg, hr, hb⟩; have hk := Lib.hid ((Blk.new w 89 pzero).below hb (by simp)); have Hb := Lib.hid hb; have Hr := Lib.hid hr; have hgg := Lib.hid (show w.heap.size + 1 ≤ g by simpa using hg); clear hr hb hg)
  rw [run_storeCells_row _ w.heap.size 89 pzero (pcells 421 g) hk.out rfl (pcells_one _ _)]
  go_wp2_with fail
  have hbb := ((Below.refl _ w).alloc (Nat.le_refl _) (.cells pzero 89)).trans (Hb.out.mono (by simp))
  exact bodyPost_ret (results_cell_row rfl _ _ w.heap.size 89 (pcells 421 g) (0, 0) _ rfl (hk.out.row _) Tryz.underlying89 rfl (proto_size.trans rfl)) rfl
    ⟨g, rfl, Nat.le_of_succ_le hgg.out, Hr.out.rowFar (by have := hgg.out; omega) _, below_setRow hbb (Nat.le_refl _) _⟩
theorem pval_id (l : List UInt8) (A : Option Addr) (c : Nat) (w : World) (h : RB w w.heap.size A (idOf l).length c (idOf l)) :
    Calls Tryz.prog 244 #[.slice A (idOf l).length c] w (OutN w) := by
  obtain ⟨x, y, v, d, hid, hx, hy, hd, hv⟩ := id_form l
  rw [hid] at h ⊢
  rcases hv with rfl | ⟨rfl, h32⟩
  · exact pval_0 A c x y d w h hx hy (by omega)
  · exact pval_18 A c x y d w h hx hy (by omega) h32
set_option maxHeartbeats 4000000 in
set_option maxRecDepth 100000 in
theorem p2pstb_x (l : List UInt8) (s : ByteArray) (hs : Enc58 (idOf l) s) (w : World) : Calls Tryz.prog 242 #[.string s] w (OutBN (idOf l) w) := by
  have q0 : ∀ w : World, (binOp .neq 58 .nilIface .nilIface).run Tryz.prog w = .ok (.bool false) w := fun _ => by kernel_rfl
  have HF := Lib.hid (fromb58_x l s hs)
  have HV := Lib.hid (pval_id l)
  have hh : ∃ L : List UInt8, s = ⟨L.toArray⟩ ∧ L.length ≤ 105 ∧ ((∃ r, L = 81 :: 109 :: r) ∨ ∃ r, L = 49 :: r) := by
    obtain ⟨k, J, D, rfl, hk, hz, hnz, hD, hv, hJ, hJ61⟩ := hs
    exact ⟨_, rfl, by rw [txt_length]; have := idOf_le l; omega, id_head l k J D hz hnz hD hv hJ⟩
  obtain ⟨L, hL, hLl, hpre⟩ := hh
  have hsz : s.size ≤ 1000 := by rw [hL, size_toArray]; omega
  have HQ := Lib.hid (fun (p : List UInt8) (b : Bool) (hp : p.length ≤ 1000) (hb : (decide (p.length ≤ L.length) && L.take p.length == p) = b) => pre_x s ⟨p.toArray⟩ b (by rw [hL, pre_bool]; exact hb) hsz (by rw [size_toArray]; exact hp))
  obtain ⟨I, hI⟩ : ∃ I, I = idOf l := ⟨_, rfl⟩
  rw [← hI] at HF HV ⊢
  have HPRE := Lib.hid hpre
  clear hs hI hL hpre
  go_enter Tryz.func242, Tryz.ntmps242
  go_wp2_with fail
  rcases HPRE.out with ⟨r, rfl⟩ | ⟨r, rfl⟩
  · refine (HQ.out [81, 109] true (by decide) (by simp) _).mono ?_
    rintro e w1 ⟨rfl, rfl⟩
    go_wp2_with fail
    refine (HF.out _).mono ?_
    rintro e w2 ⟨A2, c2, rfl, hr, hb2⟩
    have HB2 := Lib.hid hb2
    have HR2 := Lib.hid hr
    clear hr hb2
    go_wp2_with fail
    refine (HV.out A2 c2 _ HR2.out).mono ?_
    rintro e w3 ⟨rfl, hb3⟩
    have HR3 := Lib.hid (HR2.out.next hb3)
    have HB3 := Lib.hid (HB2.out.trans (hb3.mono HB2.out.size))
    clear hb3
    go_wp2_with fail
    go_ret2
    exact ⟨A2, c2, rfl, HR3.out, HB3.out⟩
  · refine (HQ.out [81, 109] false (by decide) (by simp) _).mono ?_
    rintro e w1 ⟨rfl, rfl⟩
    go_wp2_with fail
    refine (HQ.out [49] true (by decide) (by simp) _).mono ?_
    rintro e w1 ⟨rfl, rfl⟩
    go_wp2_with fail
    refine (HF.out _).mono ?_
    rintro e w2 ⟨A2, c2, rfl, hr, hb2⟩
    have HB2 := Lib.hid hb2
    have HR2 := Lib.hid hr
    clear hr hb2
    go_wp2_with fail
    refine (HV.out A2 c2 _ HR2.out).mono ?_
    rintro e w3 ⟨rfl, hb3⟩
    have HR3 := Lib.hid (HR2.out.next hb3)
    have HB3 := Lib.hid (HB2.out.trans (hb3.mono HB2.out.size))
    clear hb3
    go_wp2_with fail
    go_ret2
    exact ⟨A2, c2, rfl, HR3.out, HB3.out⟩
theorem ent_p2ps : ∀ args w, (callFunc 242 args).run Tryz.prog w = .ok (.enter 242 args) w := fun _ _ => by kernel_rfl
set_option maxHeartbeats 2000000 in
set_option maxRecDepth 100000 in
theorem twrp_stb (a b v : Nat) (l : List UInt8) (s : ByteArray) (w : World) (he : ∀ args w, (callFunc a args).run Tryz.prog w = .ok (.enter a args) w)
    (hf : ∀ w1, Below w.heap.size w w1 → Calls Tryz.prog a #[.string s] w1 (OutBN l w1)) :
    Calls Tryz.prog 383 #[.agg #[.func (Fn.func a) #[] #[], .func (Fn.func b) #[] #[], .func (Fn.func v) #[] #[]], .string s] w (OutBN l w) := by
  have HB := Lib.hid ((Below.refl _ w).alloc (Nat.le_refl _) (.cells #[.func (Fn.func a) #[] #[], .func (Fn.func b) #[] #[], .func (Fn.func v) #[] #[]] 266))
  have HF := Lib.hid (hf _ HB.out)
  clear hf
  go_enter Tryz.func383, Tryz.ntmps383
  go_wp2_with fail
  go_at_fn a
  refine HF.out.mono ?_
  rintro e w2 ⟨A2, c2, rfl, hr, hb⟩
  have HB2 := Lib.hid (HB.out.trans (hb.mono (by simp)))
  have HR := Lib.hid hr
  clear hb hr
  go_wp2_with fail
  go_ret2
  exact ⟨A2, c2, rfl, HR.out, HB2.out⟩
theorem method_stb (a b : Nat) (v : Value) (n : Nat) (w : World) : (method (n + 1) 266 (.agg #[.func (Fn.func a) #[] #[], .func (Fn.func b) #[] #[], v]) "StringToBytes").run Tryz.prog w = .ok (383, .agg #[.func (Fn.func a) #[] #[], .func (Fn.func b) #[] #[], v]) w := by kernel_rfl
end Go.Proofs.YtllofneeodnllaaGreatDoor

/- A component made of an ID: newComponent, NewComponent. No condition beyond. -/
namespace Go.Proofs.YtllofneeodnllaaGreatDoor
open Go.RowKit
variable {K : Nat}
attribute [local go_sem ↓] Go.wp_at_zero Go.wp_at_succ
set_option maxRecDepth 100000 in
set_option maxHeartbeats 1000000 in
theorem putu_x (n g off N C : Nat) (w : World) (v0 : Value) (hn : n < 128) (c0 : w.cell? ⟨g, off, none⟩ = some v0) (f0 : w.frozen? ⟨g, off, none⟩ = false) (hN : 0 < N) :
    Calls Tryz.prog 100 #[.slice (some ⟨g, off, none⟩) N C, .int .u64 n] w fun e w' => e = .returned (.int .i64 1) ∧ w' = w.setCell ⟨g, off, none⟩ (.int .u8 n) := by
  have hd : decide ((128 : Int) ≤ (n : Int)) = false := by simp; omega
  have hw : IntKind.u8.wrap (n : Int) = n := by simp [IntKind.wrap, IntKind.bits, IntKind.signed]; omega
  have hN' : (0 : Int) < (N : Int) := by omega
  have hN2 : ¬ N = 0 := by omega
  go_enter Tryz.func100, Tryz.ntmps100
  go_wp2_with fail
  refine wp_loop_rounds 1 ?_
  rw [rounds_succ]
  go_wp2_with fail
  go_ret
  exact ⟨rfl, rfl⟩
/-- The hop that an ID alone is. -/
def idHop (l : List UInt8) : Hop := ⟨6, none, 0, 0, l⟩
theorem idHop_bytes (l : List UInt8) : (idHop l).bytes = 165 :: 3 :: UInt8.ofNat (idOf l).length :: idOf l := by
  simp [Hop.bytes, idHop, hopBytes]
theorem idOf_two (l : List UInt8) : 2 ≤ (idOf l).length := by
  obtain ⟨x, y, v, d, hid, _⟩ := id_form l
  rw [hid]
  simp
/-- What newComponent gives: a component in new memory. -/
def OutNC (l : List UInt8) (w : World) (e : Ending) (w' : World) : Prop :=
  ∃ q p g, e = .returned (.tuple #[.pointer (some ⟨q, 0, none⟩), .nilIface]) ∧ C3 w' q (idHop l, p) ∧ Blk w' p 89 (pcells 421 g) ∧ Below w.heap.size w w'
set_option maxRecDepth 100000 in
set_option maxHeartbeats 4000000 in
theorem newcomp_x (l : List UInt8) (A : Option Addr) (c g0 : Nat) (w : World) (ht : Tab K w) (hg0 : Blk w g0 5 (bv [165, 3]).toArray) (h : RB w w.heap.size A (idOf l).length c (idOf l)) :
    Calls Tryz.prog 70 #[.agg (pcells 421 g0), .slice A (idOf l).length c] w (OutNC l w) := by
  obtain ⟨i0, hi0, hz0, hz1, hz2⟩ := info_parts u8_info
  have q0 : ∀ w : World, (binOp .neq 58 .nilIface .nilIface).run Tryz.prog w = .ok (.bool false) w := fun _ => by kernel_rfl
  obtain ⟨w0, hw0⟩ : ∃ w0, w0 = w.alloc (.cells (pcells 421 g0) 89) := ⟨_, rfl⟩
  have hb0 : Below w.heap.size w w0 := by rw [hw0]; exact (Below.refl _ w).alloc (Nat.le_refl _) _
  have hk0 : Blk w0 w.heap.size 89 (pcells 421 g0) := by rw [hw0]; exact Blk.new _ _ _
  have p1 : w0.cell? ⟨w.heap.size, 1, none⟩ = some (.int .i64 421) := hk0.cell 1
  have HP := Lib.hid (ptr_421 w0)
  have HT := Lib.hid ht
  have HG0 := Lib.hid hg0
  have HR := Lib.hid h
  have HB0 := Lib.hid hb0
  have HK0 := Lib.hid hk0
  have HW0 := Lib.hid hw0
  have hn2 := idOf_two l
  have hn44 := idOf_le l
  have HIDH := Lib.hid (idHop_bytes l)
  have HUS := Lib.hid (fun w => usize_id (idOf l).length hn2 hn44 w)
  obtain ⟨I, hI⟩ : ∃ I, I = idOf l := ⟨_, rfl⟩
  obtain ⟨n, hn⟩ : ∃ n, n = (idOf l).length := ⟨_, rfl⟩
  rw [← hn] at hn2 hn44 HUS HR ⊢
  have HIq := Lib.hid hI
  have HNq := Lib.hid hn
  have hwr : IntKind.u64.wrap (n : Int) = n := by simp [IntKind.wrap, IntKind.bits, IntKind.signed]; omega
  have hmk := fun W : World => run_make_rowN (P := Tryz.prog) 23 5 i0 (.int .u8 0) Tryz.underlying23 hi0 hz0 .i64 .i64 (n + 3) (n + 3) (Nat.le_refl _) (by rw [hz2]; omega) (by omega) W
  rw [hz1, Nat.mul_one] at hmk
  rw [hw0] at p1
  clear hg0 h hb0 hk0 hw0 ht hI hn
  go_enter Tryz.func70, Tryz.ntmps70
  go_wp2_with fail
  rw [← HW0.out]
  refine HP.out.mono ?_
  rintro e w1 ⟨p, g, rfl, _, _, _, hp1, hg1, hb1⟩
  have hk1 := HK0.out.below hb1 HK0.out.lt
  have k2 : w1.cell? ⟨w.heap.size, 2, none⟩ = some (.slice (some ⟨g0, 0, none⟩) 2 2) := hk1.cell 2
  have k3 : w1.cell? ⟨w.heap.size, 3, none⟩ = some (.int .i64 (-1)) := hk1.cell 3
  have HK1 := Lib.hid hk1
  have HP1 := Lib.hid hp1
  have HG1 := Lib.hid hg1
  have HB1 := Lib.hid (HB0.out.trans (hb1.mono HB0.out.size))
  clear hp1 hg1 hb1 hk1
  go_wp2_with fail
  refine (HUS.out _).mono ?_
  rintro e w2 ⟨rfl, rfl⟩
  have e3 : ((n + 3 : Nat) : Int) = (n : Int) + 2 + 1 := by omega
  rw [e3] at hmk
  go_wp2_with fail
  obtain ⟨Z, hZ⟩ : ∃ Z, Z = madeCells #[Value.int .u8 0] (n + 3) := ⟨_, rfl⟩
  rw [← hZ]
  have hZl : Z.toList = List.replicate (n + 3) (.int .u8 0) := by rw [hZ]; exact toList_madeCells_one _ _
  have HZL := Lib.hid hZl
  clear hmk hZ hZl
  refine wp_gen (fun W => Below w1.heap.size w1 W ∧ Blk W w1.heap.size 5 Z) ⟨(Below.refl _ w1).alloc (Nat.le_refl _) _, Blk.new _ _ _⟩ ?_
  rintro w3 ⟨hb3, hk3⟩
  have hg0 : Blk w3 g0 5 (bv [165, 3]).toArray := ((HG0.out.below HB1.out HG0.out.lt).below hb3 (Nat.lt_of_lt_of_le HG0.out.lt HB1.out.size))
  have l2 : w3.cell? ⟨w.heap.size, 2, none⟩ = some (.slice (some ⟨g0, 0, none⟩) 2 2) := (hb3.cell (HK1.out.lt)).trans k2
  have l3 : w3.cell? ⟨w.heap.size, 3, none⟩ = some (.int .i64 (-1)) := (hb3.cell (HK1.out.lt)).trans k3
  have HC0 := Lib.hid (show (Tryz.prog.info? 5).map (·.size) = some 1 by rw [hi0]; simp [hz1])
  have HC1 := Lib.hid (show w3.drew.heap[w1.heap.size]? = some (.cells Z.toList.toArray 5 (0, 0)) by rw [Array.toArray_toList]; exact hk3)
  have HC2 := Lib.hid (show (bv [165, 3]).length = Nat.min 2 (n + 3) by rw [bv_length]; simp)
  have HC3 := Lib.hid (show 0 < (bv [165, 3]).length → (some (⟨w1.heap.size, 0, none⟩ : Addr)) = some ⟨w1.heap.size, 0, none⟩ ∧ ∃ ad, (some (⟨g0, 0, none⟩ : Addr)) = some ad ∧ ∀ j v, (bv [165, 3])[j]? = some v → w3.drew.cell? (ad.add j) = some v from fun _ => ⟨rfl, _, rfl, fun j v hj => by
    have hadd : (⟨g0, 0, none⟩ : Addr).add j = ⟨g0, j, none⟩ := by unfold Addr.add; split <;> simp_all
    rw [hadd]
    exact (hg0.cell j).trans (by simpa using hj)⟩)
  have HC4 := Lib.hid (show 0 + (bv [165, 3]).length ≤ Z.toList.length by rw [HZL.out, bv_length]; simp)
  have HC5 := Lib.hid (show Below w1.heap.size w1 w3.drew from hb3.drew)
  have hcap : ¬ (n + 3 = 0) := by omega
  have h0a : (0 : Int) ≤ (n : Int) + 2 + 1 := by omega
  clear k2 k3 hb3 hk3 hg0
  go_region_law (refine step_copy_splice rfl (.tmp 38) (.tmp 40) _ _ rfl 5 Tryz.underlying23 HC0.out (some ⟨w1.heap.size, 0, none⟩) (some ⟨g0, 0, none⟩) (n + 3) (n + 3) 2 2 (by simp [Act.eval]) (by simp [Act.eval]) w1.heap.size 0 Z.toList 5 HC1.out (bv [165, 3]) HC2.out HC3.out HC4.out (bv_one _) w1.heap.size w1 HC5.out (Nat.le_refl _) ?_; intro w4 hg4 hb4)
  have hbl : (bv [165, 3]).length = 2 := rfl
  have hsp4 : splice Z.toList 0 (bv [165, 3]) = bv [165, 3] ++ List.replicate (n + 1) (.int .u8 0) := by
    rw [HZL.out]
    unfold splice
    rw [hbl]
    simp
  have hk4 : Blk w4 w1.heap.size 5 (bv [165, 3] ++ List.replicate (n + 1) (Value.int .u8 0)).toArray := by
    have := hg4
    unfold Blk
    rw [hsp4] at this
    exact this
  have m3 : w4.cell? ⟨w.heap.size, 3, none⟩ = some (.int .i64 (-1)) := (hb4.cell (HK1.out.lt)).trans (HK1.out.cell 3)
  have u4 : w4.cell? ⟨w1.heap.size, 2, none⟩ = some (.int .u8 0) := hk4.cell 2
  have f4 := hk4.frozen 2
  have HK4 := Lib.hid hk4
  have HB4 := Lib.hid hb4
  have h0b : (2 : Int) ≤ (n : Int) + 2 + 1 := by omega
  have hcap2 : ¬ (n + 3 = 2) := by omega
  have HPU := Lib.hid (fun N C hN => putu_x n w1.heap.size 2 N C w4 (.int .u8 0) (by omega) u4 f4 hN)
  clear hg4 hb4 hk4 hsp4 l2 l3
  go_wp2_with fail
  refine (HPU.out (n + 1) (n + 1) (by omega)).mono ?_
  rintro e w5 ⟨rfl, hw5⟩
  have hk5 : Blk w5 w1.heap.size 5 (bv ([165, 3, UInt8.ofNat n] ++ List.replicate n 0)).toArray := by
    have h5 := HK4.out.set_ 2 (.int .u8 n)
    rw [← hw5] at h5
    have e : (bv [165, 3] ++ List.replicate (n + 1) (Value.int .u8 0)).toArray.setIfInBounds 2 (.int .u8 n) = (bv ([165, 3, UInt8.ofNat n] ++ List.replicate n 0)).toArray := by
      have e2 : (UInt8.ofNat n).toNat = n := by simp; omega
      simp [bv, List.replicate_succ, e2]
    rw [e] at h5
    exact h5
  have hb5 : Below w1.heap.size w1 w5 := by rw [hw5]; exact HB4.out.setCell (p := ⟨w1.heap.size, 2, none⟩) (Nat.le_refl _) _
  have HB5 := Lib.hid hb5
  have hbw5 := HB1.out.trans (hb5.mono HB1.out.size)
  have HBW5 := Lib.hid hbw5
  have hr5 := HR.out.below hbw5
  have hpos5 : ∃ ad, A = some ad := by
    obtain ⟨ad, e, _⟩ := hr5.reads.2 (by omega)
    exact ⟨ad, e⟩
  obtain ⟨ad, rfl⟩ := hpos5
  have HC6 := Lib.hid (show w5.heap[w1.heap.size]? = some (.cells (bv ([165, 3, UInt8.ofNat n] ++ List.replicate n 0)).toArray 5 (0, 0)) from hk5)
  have hlI : I.length = n := by rw [HIq.out, ← HNq.out]
  have HC7 := Lib.hid (show (bv I).length = Nat.min n n by rw [bv_length, hlI]; exact (Nat.min_self n).symm)
  have HC8 := Lib.hid (show ∀ j v, (bv I)[j]? = some v → w5.cell? (ad.add j) = some v from fun j v hj => by
    obtain ⟨ad', e, _, hc⟩ := hr5.reads.2 (by omega)
    injection e with e
    subst e
    exact hc j v (by rw [← HIq.out]; exact hj))
  have HC9 := Lib.hid (show 3 + (bv I).length ≤ (bv ([165, 3, UInt8.ofNat n] ++ List.replicate n 0)).length by rw [bv_length, bv_length, hlI]; simp; omega)
  have h0c : (3 : Int) ≤ (n : Int) + 2 + 1 := by omega
  have hcap3 : ¬ (n + 3 = 3) := by omega
  clear hk5 hb5 hbw5 hr5 hw5
  have hcp := fun ty => run_copy_row (P := Tryz.prog) w5 23 23 ty 5 w1.heap.size 3 n n ad n c (bv ([165, 3, UInt8.ofNat n] ++ List.replicate n 0)).toArray 5 (bv I) Tryz.underlying23 HC0.out HC6.out HC7.out HC8.out (by simpa using HC9.out) (bv_one _)
  have hrow : (List.take 3 (bv ([165, 3, UInt8.ofNat n] ++ List.replicate n 0)).toArray.toList ++ bv I ++ List.drop (3 + (bv I).length) (bv ([165, 3, UInt8.ofNat n] ++ List.replicate n 0)).toArray.toList).toArray = (bv (165 :: 3 :: UInt8.ofNat n :: I)).toArray := by
    have e1 : List.drop (3 + (bv I).length) (bv ([165, 3, UInt8.ofNat n] ++ List.replicate n 0)) = [] := by
      apply List.drop_eq_nil_of_le
      rw [bv_length, bv_length, hlI]
      simp
      omega
    show (List.take 3 (bv ([165, 3, UInt8.ofNat n] ++ List.replicate n 0)) ++ bv I ++ List.drop (3 + (bv I).length) (bv ([165, 3, UInt8.ofNat n] ++ List.replicate n 0))).toArray = _
    rw [e1, List.append_nil]
    simp [bv]
  obtain ⟨w6, hw6⟩ : ∃ w6, w6 = w5.setRow w1.heap.size (bv (165 :: 3 :: UInt8.ofNat n :: I)).toArray := ⟨_, rfl⟩
  have hgn : goInt ((bv I).length : Nat) = .int .i64 n := by rw [bv_length, hlI]; rfl
  rw [hrow, ← hw6, hgn] at hcp
  have hk6 : Blk w6 w1.heap.size 5 (bv (165 :: 3 :: UInt8.ofNat n :: I)).toArray := by rw [hw6]; exact Blk.row HC6.out _
  have hb6 : Below w1.heap.size w1 w6 := by rw [hw6]; exact below_setRow HB5.out (Nat.le_refl _) _
  have hL : (165 :: 3 :: UInt8.ofNat n :: I).length = n + 3 := by simp [hlI]
  have hr6 := RB.of_blk hk6 (by rw [hL]; unfold maxLen; omega)
  rw [hL] at hr6
  have cvt := run_convert_RB hr6 23 5 Tryz.underlying23 Tryz.underlying5 9 Tryz.underlying9
  have HIL := Lib.hid (show (165 :: 3 :: UInt8.ofNat n :: I) = (idHop l).bytes by rw [HIDH.out, ← HNq.out, ← HIq.out])
  obtain ⟨CL, hCL⟩ : ∃ CL : List UInt8, CL = 165 :: 3 :: UInt8.ofNat n :: I := ⟨_, rfl⟩
  rw [← hCL] at cvt HIL
  have HCL := Lib.hid hCL
  have HB6 := Lib.hid hb6
  clear hrow hw6 hgn hk6 hb6 hL hr6 hCL hlI
  go_wp2_with fail
  have hb1w := HB1.out
  have hb61 := HB6.out
  have hba := (Below.refl _ w6).alloc (Nat.le_refl _) (.cells #[.string ⟨CL.toArray⟩, .pointer (some ⟨p, 0, none⟩), .int .i64 3] 83)
  have hcm : CmpK (w6.alloc (.cells #[.string ⟨CL.toArray⟩, .pointer (some ⟨p, 0, none⟩), .int .i64 3] 83)) w6.heap.size CL p 3 g 421 :=
    ⟨Blk.new _ _ _, (HP1.out.below hb61 HP1.out.lt).alloc _, (HG1.out.below hb61 HG1.out.lt).alloc _⟩
  have hbw6 : Below w.heap.size w (w6.alloc (.cells #[.string ⟨CL.toArray⟩, .pointer (some ⟨p, 0, none⟩), .int .i64 3] 83)) :=
    hb1w.trans ((hb61.trans (hba.mono hb61.size)).mono hb1w.size)
  obtain ⟨w7, hw7⟩ : ∃ w7, w7 = w6.alloc (.cells #[.string ⟨CL.toArray⟩, .pointer (some ⟨p, 0, none⟩), .int .i64 3] 83) := ⟨_, rfl⟩
  rw [← hw7] at hcm hbw6 ⊢
  have HBF := Lib.hid hbw6
  have HPF := Lib.hid hcm.prot
  have HCF := Lib.hid hcm.comp
  obtain ⟨x, y, v, d, hid, hx, hy, hdl, hv⟩ := id_form l
  have hnd : n = d.length + 2 := by rw [HNq.out, hid]; rfl
  have hCLe : CL = [165, 3] ++ ([UInt8.ofNat n] ++ (x :: y :: d)) := by rw [HCL.out, HIq.out, hid]; rfl
  rw [hCLe] at hcm
  have hval := val_421 w6.heap.size p g x y (UInt8.ofNat n) v d _ (HT.out.below hbw6) hcm (by simp; omega) hx hy hdl hv
  refine hval.mono ?_
  rintro e w8 ⟨rfl, hb8⟩
  have HB8 := Lib.hid (hbw6.trans (hb8.mono hbw6.size))
  have HPF8 := Lib.hid (HPF.out.below hb8 HPF.out.lt)
  have HCF8 := Lib.hid (HCF.out.below hb8 HCF.out.lt)
  clear hw7 hb1w hb61 hba hcm hbw6 hval hb8 hid hx hy hdl hv hnd hCLe
  go_wp2_with fail
  go_ret2
  refine ⟨w6.heap.size, p, g, rfl, ⟨?_, HCF8.out.cell 1, HCF8.out.cell 2⟩, HPF8.out, HB8.out⟩
  rw [← HIL.out]
  exact HCF8.out.cell 0
end Go.Proofs.YtllofneeodnllaaGreatDoor
