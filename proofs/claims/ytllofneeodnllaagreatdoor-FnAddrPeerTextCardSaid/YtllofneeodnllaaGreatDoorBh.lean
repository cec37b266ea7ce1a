/- The prefixes of texts; peer.Decode and peer.IDFromBytes of an ID; impl.PeerOf, impl.PeerDecode. -/
import Derived.Test.YtllofneeodnllaaGreatDoorBf
namespace Go.Proofs.YtllofneeodnllaaGreatDoor
open Go.RowKit
attribute [local go_sem ↓] Go.wp_at_zero Go.wp_at_succ
set_option maxHeartbeats 2000000 in
set_option maxRecDepth 100000 in
theorem slpre_x (S P : ByteArray) (b : Bool) (hb : (decide (P.size ≤ S.size) && (S.extract 0 P.size).toList == P.toList) = b) (_hS : S.size ≤ 1000) (_hP : P.size ≤ 1000) (w : World) : Calls Tryz.prog 59 #[.string S, .string P] w fun e w' => e = .returned (.bool b) ∧ w' = w := by
  go_enter Tryz.func59, Tryz.ntmps59
  by_cases hl : P.size ≤ S.size
  · have hd : decide ((P.size : Int) ≤ (S.size : Int)) = true := by simp; omega
    rw [decide_eq_true hl, Bool.true_and] at hb
    go_wp2_with fail
    go_ret
    exact ⟨by rw [← hb]; rfl, rfl⟩
  · have hd : decide ((P.size : Int) ≤ (S.size : Int)) = false := by simp; omega
    rw [decide_eq_false hl, Bool.false_and] at hb
    subst hb
    go_wp2_with fail
    go_ret
    exact ⟨rfl, rfl⟩
set_option maxHeartbeats 2000000 in
set_option maxRecDepth 100000 in
theorem pre_x (S P : ByteArray) (b : Bool) (hb : (decide (P.size ≤ S.size) && (S.extract 0 P.size).toList == P.toList) = b) (hS : S.size ≤ 1000) (hP : P.size ≤ 1000) (w : World) : Calls Tryz.prog 44 #[.string S, .string P] w fun e w' => e = .returned (.bool b) ∧ w' = w := by
  have H := Lib.hid (slpre_x S P b hb hS hP w)
  clear hb
  go_enter Tryz.func44, Tryz.ntmps44
  go_wp2_with fail
  refine H.out.mono ?_
  rintro e w1 ⟨rfl, rfl⟩
  go_wp2_with fail
  go_ret
  exact ⟨rfl, rfl⟩
theorem pre_bool (l p : List UInt8) : (decide ((⟨p.toArray⟩ : ByteArray).size ≤ (⟨l.toArray⟩ : ByteArray).size) && ((⟨l.toArray⟩ : ByteArray).extract 0 (⟨p.toArray⟩ : ByteArray).size).toList == (⟨p.toArray⟩ : ByteArray).toList) = (decide (p.length ≤ l.length) && l.take p.length == p) := by
  rw [size_toArray, size_toArray, extract_take, ByteArray.toList_eq, ByteArray.toList_eq]
set_option maxHeartbeats 4000000 in
set_option maxRecDepth 100000 in
theorem peerdecode_x (l : List UInt8) (s : ByteArray) (hs : Enc58 (idOf l) s) (w : World) : Calls Tryz.prog 28 #[.string s] w fun e w' => e = .returned (.tuple #[.string ⟨(idOf l).toArray⟩, .nilIface]) ∧ Below w.heap.size w w' := by
  have q0 : ∀ w : World, (binOp .neq 58 .nilIface .nilIface).run Tryz.prog w = .ok (.bool false) w := fun _ => by kernel_rfl
  have HF := Lib.hid (fromb58_x l s hs)
  have hh : ∃ L : List UInt8, s = ⟨L.toArray⟩ ∧ L.length ≤ 105 ∧ ((∃ r, L = 81 :: 109 :: r) ∨ ∃ r, L = 49 :: r) := by
    obtain ⟨k, J, D, rfl, hk, hz, hnz, hD, hv, hJ, hJ61⟩ := hs
    exact ⟨_, rfl, by rw [txt_length]; have := idOf_le l; omega, id_head l k J D hz hnz hD hv hJ⟩
  obtain ⟨L, hL, hLl, hpre⟩ := hh
  have hsz : s.size ≤ 1000 := by rw [hL, size_toArray]; omega
  have HQ := Lib.hid (fun (p : List UInt8) (b : Bool) (hp : p.length ≤ 1000) (hb : (decide (p.length ≤ L.length) && L.take p.length == p) = b) => pre_x s ⟨p.toArray⟩ b (by rw [hL, pre_bool]; exact hb) hsz (by rw [size_toArray]; exact hp))
  obtain ⟨I, hI⟩ : ∃ I, I = idOf l := ⟨_, rfl⟩
  rw [← hI] at HF ⊢
  have HPRE := Lib.hid hpre
  clear hs hI hL hpre
  go_enter Tryz.func28, Tryz.ntmps28
  go_wp2_with fail
  rcases HPRE.out with ⟨r, rfl⟩ | ⟨r, rfl⟩
  · refine (HQ.out [81, 109] true (by decide) (by simp) _).mono ?_
    rintro e w1 ⟨rfl, rfl⟩
    go_wp2_with fail
    refine (HF.out _).mono ?_
    rintro e w2 ⟨A2, c2, rfl, hr, hb2⟩
    have hcv := run_convert_RB hr 92 5 Tryz.underlying92 Tryz.underlying5 56 Tryz.underlying56
    have HB2 := Lib.hid hb2
    clear hr hb2
    go_wp2_with fail
    go_ret2
    exact ⟨rfl, HB2.out⟩
  · refine (HQ.out [81, 109] false (by decide) (by simp) _).mono ?_
    rintro e w1 ⟨rfl, rfl⟩
    go_wp2_with fail
    refine (HQ.out [49] true (by decide) (by simp) _).mono ?_
    rintro e w1 ⟨rfl, rfl⟩
    go_wp2_with fail
    refine (HF.out _).mono ?_
    rintro e w2 ⟨A2, c2, rfl, hr, hb2⟩
    have hcv := run_convert_RB hr 92 5 Tryz.underlying92 Tryz.underlying5 56 Tryz.underlying56
    have HB2 := Lib.hid hb2
    clear hr hb2
    go_wp2_with fail
    go_ret2
    exact ⟨rfl, HB2.out⟩
set_option maxHeartbeats 2000000 in
set_option maxRecDepth 100000 in
theorem ipeerdecode_x (l : List UInt8) (s : ByteArray) (hs : Enc58 (idOf l) s) (w : World) : Calls Tryz.prog 13 #[.string s] w (OutBT (idOf l) w) := by
  have q0 : ∀ w : World, (binOp .neq 58 .nilIface .nilIface).run Tryz.prog w = .ok (.bool false) w := fun _ => by kernel_rfl
  have HF := Lib.hid (peerdecode_x l s hs w)
  have hl := idOf_le l
  obtain ⟨I, hI⟩ : ∃ I, I = idOf l := ⟨_, rfl⟩
  rw [← hI] at HF hl ⊢
  clear hs hI
  go_enter Tryz.func13, Tryz.ntmps13
  go_wp2_with fail
  refine HF.out.mono ?_
  rintro e w1 ⟨rfl, hb1⟩
  have HB1 := Lib.hid hb1
  obtain ⟨c2, w2, hcv, hr2, hb2, _⟩ := conv_id w1 I (by omega)
  have HR2 := Lib.hid hr2
  have HB2 := Lib.hid (hb1.trans (hb2.mono hb1.size))
  clear hb1 hr2 hb2
  go_wp2_with fail
  go_ret2
  exact ⟨_, c2, rfl, HR2.out, HB2.out⟩
set_option maxHeartbeats 2000000 in
set_option maxRecDepth 100000 in
theorem idfrombytes_x (l : List UInt8) (A : Option Addr) (c : Nat) (w : World) (h : RB w w.heap.size A (idOf l).length c (idOf l)) : Calls Tryz.prog 27 #[.slice A (idOf l).length c] w fun e w' => e = .returned (.tuple #[.string ⟨(idOf l).toArray⟩, .nilIface]) ∧ Below w.heap.size w w' := by
  have q0 : ∀ w : World, (binOp .neq 58 .nilIface .nilIface).run Tryz.prog w = .ok (.bool false) w := fun _ => by kernel_rfl
  have HC := Lib.hid (cast_id l A c w h)
  obtain ⟨I, hI⟩ : ∃ I, I = idOf l := ⟨_, rfl⟩
  rw [← hI] at HC h ⊢
  have H := Lib.hid h
  clear h hI
  go_enter Tryz.func27, Tryz.ntmps27
  go_wp2_with fail
  refine HC.out.mono ?_
  rintro e w1 ⟨rfl, hb1⟩
  have hcv := run_convert_RB (H.out.next hb1) 23 5 Tryz.underlying23 Tryz.underlying5 56 Tryz.underlying56
  have HB1 := Lib.hid hb1
  clear hb1
  go_wp2_with fail
  go_ret2
  exact ⟨rfl, HB1.out⟩
set_option maxHeartbeats 2000000 in
set_option maxRecDepth 100000 in
theorem peerof_x (l : List UInt8) (A : Option Addr) (c : Nat) (w : World) (h : RB w w.heap.size A (idOf l).length c (idOf l)) : Calls Tryz.prog 11 #[.slice A (idOf l).length c] w (OutBT (idOf l) w) := by
  have q0 : ∀ w : World, (binOp .neq 58 .nilIface .nilIface).run Tryz.prog w = .ok (.bool false) w := fun _ => by kernel_rfl
  have hl := idOf_le l
  have HC := Lib.hid (clone_any A _ c _ w h (by omega))
  have HI := Lib.hid (idfrombytes_x l)
  obtain ⟨I, hI⟩ : ∃ I, I = idOf l := ⟨_, rfl⟩
  rw [← hI] at HC HI hl ⊢
  clear h hI
  go_enter Tryz.func11, Tryz.ntmps11
  go_wp2_with fail
  refine HC.out.mono ?_
  rintro e w1 ⟨A1, c1, rfl, hr1, hb1⟩
  have HR1 := Lib.hid hr1
  have HB1 := Lib.hid hb1
  clear hr1 hb1
  go_wp2_with fail
  refine (HI.out A1 c1 w1 HR1.out).mono ?_
  rintro e w2 ⟨rfl, hb2⟩
  have hb02 := HB1.out.trans (hb2.mono HB1.out.size)
  obtain ⟨c3, w3, hcv, hr3, hb3, _⟩ := conv_id w2 I (by omega)
  have HR3 := Lib.hid hr3
  have HB3 := Lib.hid (hb02.trans (hb3.mono hb02.size))
  clear hb2 hb02 hr3 hb3
  go_wp2_with fail
  go_ret2
  exact ⟨_, c3, rfl, HR3.out, HB3.out⟩
end Go.Proofs.YtllofneeodnllaaGreatDoor

/- peer.IDFromP2PAddr, impl.AddrPeer at an address that ends in an ID. -/
namespace Go.Proofs.YtllofneeodnllaaGreatDoor
open Go.RowKit
variable {K : Nat}
attribute [local go_sem ↓] Go.wp_at_zero Go.wp_at_succ
theorem C3.far {w : World} {q : Nat} {x : Hop × Nat} (h : C3 w q x) {p : Addr} (hne : q ≠ p.block) (u : Value) : C3 (w.setCell p u) q x :=
  ⟨(World.cell?_setCell_other w p _ u (fun e => hne (by have := congrArg Addr.block e; first | exact this | exact this.symm))).trans h.c0,
   (World.cell?_setCell_other w p _ u (fun e => hne (by have := congrArg Addr.block e; first | exact this | exact this.symm))).trans h.c1,
   (World.cell?_setCell_other w p _ u (fun e => hne (by have := congrArg Addr.block e; first | exact this | exact this.symm))).trans h.c2⟩
/-- The box of the last component, as the loop leaves it. -/
theorem c3_put {w : World} {b : Nat} {xs : Array Value} (h : Blk w b 83 xs) (hs : xs.size = 3) (x : Hop × Nat) :
    C3 (((w.setCell ⟨b, 0, none⟩ (.string ⟨x.1.bytes.toArray⟩)).setCell ⟨b, 1, none⟩ (.pointer (some ⟨x.2, 0, none⟩))).setCell ⟨b, 2, none⟩ (.int .i64 (vsOf x.1.kd))) b x := by
  have h1 := h.set_ 0 (.string ⟨x.1.bytes.toArray⟩)
  have h2 := h1.set_ 1 (.pointer (some ⟨x.2, 0, none⟩))
  refine ⟨?_, ?_, ?_⟩
  · rw [blk_set_cell h2 _ _ _ (by decide), blk_set_cell h1 _ _ _ (by decide), blk_set_same h _ _ (by omega)]
  · rw [blk_set_cell h2 _ _ _ (by decide), blk_set_same h1 _ _ (by simp; omega)]
  · rw [blk_set_same h2 _ _ (by simp; omega)]
set_option maxRecDepth 100000 in
set_option maxHeartbeats 2000000 in
theorem idcl_any (b B : Nat) (X : Hop × Nat) (w : World) (hbB : B ≤ b) (hBw : B ≤ w.heap.size) (ys : Array Value) (hk : Blk w b 83 ys) (hs : ys.size = 3) :
    Calls Tryz.prog 39 #[.agg #[.string ⟨X.1.bytes.toArray⟩, .pointer (some ⟨X.2, 0, none⟩), .int .i64 (vsOf X.1.kd)], .pointer (some ⟨b, 0, none⟩)] w fun e w' => e = .returned (.bool true) ∧ Below B w w' ∧ (∃ zs, Blk w' b 83 zs ∧ zs.size = 3) ∧ C3 w' b X := by
  have HK := Lib.hid hk
  have f0 := hk.frozen 0
  have f1 := hk.frozen 1
  have f2 := hk.frozen 2
  have hl : ∃ y0 y1 y2, w.cell? ⟨b, 0, none⟩ = some y0 ∧ w.cell? ⟨b, 1, none⟩ = some y1 ∧ w.cell? ⟨b, 2, none⟩ = some y2 := by
    refine ⟨ys[0]'(by omega), ys[1]'(by omega), ys[2]'(by omega), ?_, ?_, ?_⟩ <;> rw [hk.cell] <;> simp [hs]
  obtain ⟨y0, y1, y2, c0, c1, c2⟩ := hl
  have hlt := hk.lt
  have HB := Lib.hid (And.intro hbB hBw)
  clear hk
  go_enter Tryz.func39, Tryz.ntmps39
  go_wp2_with fail
  go_ret
  obtain ⟨w3, hw3⟩ : ∃ w3, w3 = ((w.setCell ⟨b, 0, none⟩ (.string ⟨X.1.bytes.toArray⟩)).setCell ⟨b, 1, none⟩ (.pointer (some ⟨X.2, 0, none⟩))).setCell ⟨b, 2, none⟩ (.int .i64 (vsOf X.1.kd)) := ⟨_, rfl⟩
  have h3 := c3_put HK.out hs X
  have hb3 : Below B w w3 := by rw [hw3]; exact (((Below.refl B w).setCell (p := ⟨b, 0, none⟩) hbB _).setCell (p := ⟨b, 1, none⟩) hbB _).setCell (p := ⟨b, 2, none⟩) hbB _
  have hk3 : ∃ zs, Blk w3 b 83 zs ∧ zs.size = 3 := by rw [hw3]; exact ⟨_, ((HK.out.set_ 0 _).set_ 1 _).set_ 2 _, by simp [hs]⟩
  rw [← hw3] at h3 ⊢
  obtain ⟨zs, hz, hzs⟩ := hk3
  exact ⟨rfl, hb3.alloc (Nat.le_trans hBw hb3.size) _, ⟨zs, hz.alloc _, hzs⟩, h3.below ((Below.refl _ w3).alloc (Nat.le_refl _) _)⟩
set_option maxRecDepth 100000 in
set_option maxHeartbeats 2000000 in
theorem foreach_last (g c n b B : Nat) (cs : List (Hop × Nat)) (w : World) (h : MS w g n c cs) (hn : n ≤ 1001) (hgB : g < B) (hbB : B ≤ b) (hBw : B ≤ w.heap.size) (xs : Array Value) (hk : Blk w b 83 xs) (hs : xs.size = 3) :
    Calls Tryz.prog 38 #[.slice (some ⟨g, 0, none⟩) n c, .func (Fn.func 39) #[] #[.pointer (some ⟨b, 0, none⟩)]] w fun e w' => (∃ v, e = .returned v) ∧ Below B w w' ∧ (n = 0 ∨ ∃ hi : n - 1 < cs.length, C3 w' b cs[n - 1]) := by
  have HH := Lib.hid h
  have HL := Lib.hid h.len
  have HK := Lib.hid hk
  clear h hk
  have HB0 := Lib.hid (And.intro hgB (And.intro hbB hBw))
  go_enter Tryz.func38, Tryz.ntmps38
  go_wp2_with fail
  go_loopw [5, 8] (fun _ iv wr => ∃ k : Nat, k ≤ n ∧ iv = .int .i64 k ∧ Below B w wr ∧ (∃ ys, Blk wr b 83 ys ∧ ys.size = 3) ∧ (k = 0 ∨ ∃ hi : k - 1 < cs.length, C3 wr b cs[k - 1])) (fun _ iv _ => n - (intOf iv).toNat)
  case atStart => exact ⟨0, by omega, rfl, Below.refl _ _, ⟨xs, HK.out, hs⟩, Or.inl rfl⟩
  case round =>
    obtain ⟨k, hk, rfl, hb, ⟨ys, hys, hsz⟩, hlast⟩ := hrel
    have HB := Lib.hid hb
    have HY := Lib.hid hys
    have HLS := Lib.hid hlast
    clear hb hys hlast
    by_cases hlt : k < n
    · have hlt' : k < cs.length := by rw [HL.out]; exact hlt
      have c0 := (HB.out.cell (p := ⟨g, k * 3, none⟩) hgB).trans (HH.out.cell (k * 3 + 0) _ (compCells_get cs k hlt' 0 (by decide)))
      have c1 := (HB.out.cell (p := ⟨g, k * 3 + 1, none⟩) hgB).trans (HH.out.cell (k * 3 + 1) _ (compCells_get cs k hlt' 1 (by decide)))
      have c2 := (HB.out.cell (p := ⟨g, k * 3 + 2, none⟩) hgB).trans (HH.out.cell (k * 3 + 2) _ (compCells_get cs k hlt' 2 (by decide)))
      obtain ⟨X, hX⟩ : ∃ X, X = cs[k] := ⟨_, rfl⟩
      rw [← hX] at c0 c1 c2
      have HX := Lib.hid hX
      clear hX
      have HBA := Lib.hid (HB.out.alloc (Nat.le_trans hBw HB.out.size) (.cells #[.string ⟨X.1.bytes.toArray⟩, .pointer (some ⟨X.2, 0, none⟩), .int .i64 (vsOf X.1.kd)] 83))
      have HIC := Lib.hid (idcl_any b B X (wr.alloc (.cells #[.string ⟨X.1.bytes.toArray⟩, .pointer (some ⟨X.2, 0, none⟩), .int .i64 (vsOf X.1.kd)] 83)) hbB (Nat.le_trans hBw HBA.out.size) ys (HY.out.alloc _) hsz)
      go_wp2_with fail
      refine HIC.out.mono ?_
      rintro e w2 ⟨rfl, hb2, ⟨zs, hz, hzs⟩, h3⟩
      rw [HX.out] at h3
      have H3 := Lib.hid h3
      have HZ := Lib.hid hz
      have HB2 := Lib.hid (HBA.out.trans hb2)
      clear hb2 hz h3
      go_wp2_with fail
      go_roundw
      case rel => exact ⟨k + 1, by omega, by go_num, HB2.out, ⟨zs, HZ.out, hzs⟩, Or.inr ⟨by omega, H3.out⟩⟩
      case measure => simp [intOf]; omega
    · obtain rfl : n = k := by omega
      go_wp2_with fail
      go_returns
      exact ⟨⟨_, rfl⟩, HB.out, HLS.out⟩
set_option maxRecDepth 100000 in
set_option maxHeartbeats 2000000 in
theorem idfrom_id (g c : Nat) (cs : List (Hop × Nat)) (x : Hop × Nat) (w : World) (hn1 : cs.length ≤ 1000) (hk : x.1.kd % 8 = 6) (hp : PR w (cs ++ [x])) (h : MS w g (cs.length + 1) c (cs ++ [x])) :
    Calls Tryz.prog 25 #[.slice (some ⟨g, 0, none⟩) (cs.length + 1) c] w fun e w' => e = .returned (.tuple #[.string ⟨(idOf x.1.l).toArray⟩, .nilIface]) ∧ Below w.heap.size w w' := by
  have q : ∀ (w : World) (a : Option Addr) (n c n' c' : Nat), (binOp .eql 53 (.slice a n c) (.slice none n' c')).run Tryz.prog w = .ok (.bool a.isNone) w := fun w a n c n' c' => Lib.run_eql_slice_nil w _ _ a n c n' c' Tryz.underlying53
  obtain ⟨gp, hgp⟩ := hp x (by simp)
  have HP := Lib.hid hgp
  have hfc := fun v0 v1 v2 v3 v4 v5 => field_code v0 v1 v2 v3 v4 v5
  have hcode : codeOf x.1.kd = 421 := (codeOf_421 _).2 hk
  rw [hcode] at HP
  have HK := Lib.hid hk
  have hba := (Below.refl w.heap.size w).alloc (Nat.le_refl _) (.cells #[.string ⟨#[]⟩, .pointer none, .int .i64 0] 83)
  have HF := Lib.hid (foreach_last g c (cs.length + 1) w.heap.size w.heap.size (cs ++ [x]) (w.alloc (.cells #[.string ⟨#[]⟩, .pointer none, .int .i64 0] 83)) (h.below hba) (by omega) h.lt (Nat.le_refl _) hba.size #[.string ⟨#[]⟩, .pointer none, .int .i64 0] (Blk.new _ _ _) rfl)
  have HBA := Lib.hid hba
  clear hp h hcode hk hgp hba
  go_enter Tryz.func25, Tryz.ntmps25
  go_wp2_with fail
  refine HF.out.mono ?_
  rintro e w1 ⟨⟨v, rfl⟩, hb1, hlast⟩
  have h3 : C3 w1 w.heap.size x := by
    rcases hlast with h0 | ⟨hi, h3⟩
    · omega
    · simpa using h3
  have H3 := Lib.hid h3
  have HB1 := Lib.hid (HBA.out.trans hb1)
  clear hlast hb1 h3
  go_wp2_with fail
  refine (protocol_any w.heap.size x.2 421 gp w1 H3.out.c1 (HP.out.below HB1.out HP.out.lt)).mono ?_
  rintro e w2 ⟨v0, v2, v3, v4, v5, rfl, hb2⟩
  have H3' := Lib.hid (H3.out.below hb2)
  have HB2 := Lib.hid (HB1.out.trans (hb2.mono HB1.out.size))
  clear hb2
  go_wp2_with fail
  refine (rawvalue_c3 w.heap.size x w2 H3'.out (vs_le _ _) (by have := (hopBytes_le x.1.kd x.1.l).2; unfold Hop.bytes; omega)).mono ?_
  rintro e w3 ⟨A3, c3, rfl, hr3, hb3⟩
  have hd : x.1.bytes.drop (vsOf x.1.kd) = idOf x.1.l := drop_id _ _ HK.out
  rw [hd] at hr3 ⊢
  have hcv := run_convert_RB hr3 23 5 Tryz.underlying23 Tryz.underlying5 56 Tryz.underlying56
  have HB3 := Lib.hid (HB2.out.trans (hb3.mono HB2.out.size))
  clear hr3 hb3 hd
  go_wp2_with fail
  go_ret2
  exact ⟨rfl, HB3.out⟩
set_option maxRecDepth 100000 in
set_option maxHeartbeats 2000000 in
theorem addrpeer_x (A : Option Addr) (n c : Nat) (hs : List Hop) (h : Hop) (w : World) (ht : Tab K w) (hok : ∀ x ∈ hs ++ [h], HopOk K x.kd x.l) (hr : RB w w.heap.size A n c (addrBytes (hs ++ [h]))) (hn : hs.length ≤ 99) (hk : h.kd % 8 = 6) :
    Calls Tryz.prog 8 #[.slice A n c] w (OutBT (idOf h.l) w) := by
  have q0 : ∀ w : World, (binOp .neq 58 .nilIface .nilIface).run Tryz.prog w = .ok (.bool false) w := fun _ => by kernel_rfl
  have HC := Lib.hid (addrof_impl A n c (hs ++ [h]) w ht hok hr (by simp; omega) (by simp))
  have HK := Lib.hid hk
  clear ht hok hr hk
  go_enter Tryz.func8, Tryz.ntmps8
  go_wp2_with fail
  refine HC.out.mono ?_
  rintro e w1 ⟨g, c1, cs1, rfl, hcs, hpr, hms, hb⟩
  have hl1 : cs1.length = hs.length + 1 := by have := congrArg List.length hcs; simpa using this
  obtain ⟨cs, x, rfl⟩ : ∃ cs x, cs1 = cs ++ [x] := ⟨cs1.dropLast, cs1.getLast (by intro e; simp [e] at hl1), (List.dropLast_concat_getLast _).symm⟩
  rw [List.map_append, List.map_cons, List.map_nil] at hcs
  obtain ⟨hcs, hx⟩ := List.append_inj' hcs rfl
  have hx : x.1 = h := by simpa using hx
  have hl : cs.length = hs.length := by rw [← hcs, List.length_map]
  rw [List.length_append, List.length_singleton] at hms ⊢
  have HP := Lib.hid (idfrom_id g c1 cs x w1 (by omega) (by rw [hx]; exact HK.out) hpr hms)
  rw [hx] at HP
  have HB := Lib.hid hb
  have hidl := idOf_le h.l
  obtain ⟨L, hL⟩ : ∃ L, L = idOf h.l := ⟨_, rfl⟩
  rw [← hL] at hidl HP ⊢
  have HLq := Lib.hid hL
  clear hpr hms hcs hx hb hl1 hl hL
  go_wp2_with fail
  refine HP.out.mono ?_
  rintro e w2 ⟨rfl, hb2⟩
  have hb02 := HB.out.trans (hb2.mono HB.out.size)
  obtain ⟨c5, w5, hcv, hr5, hb5, _⟩ := conv_id w2 L (by omega)
  have HR5 := Lib.hid hr5
  have HB5 := Lib.hid (hb02.trans (hb5.mono hb02.size))
  clear hr5 hb5 hb2 hb02
  go_wp2_with fail
  go_ret2
  obtain rfl := HLq.out
  exact ⟨_, c5, rfl, HR5.out, HB5.out⟩
end Go.Proofs.YtllofneeodnllaaGreatDoor
