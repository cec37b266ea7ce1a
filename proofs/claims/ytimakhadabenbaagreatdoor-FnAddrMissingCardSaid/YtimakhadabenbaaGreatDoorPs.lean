/- impl.AddrSplit at the bytes of an address. -/
import Derived.Test.YtimakhadabenbaaGreatDoorPr
namespace Go.Proofs.YtimakhadabenbaaGreatDoor
open Go.RowKit
variable {K : Nat}
attribute [local go_sem ↓] Go.wp_at_zero Go.wp_at_succ
/-- Two slices of bytes, and true. -/
def OutBBT (t u : List UInt8) (w : World) (e : Ending) (w' : World) : Prop :=
  ∃ A c B d, e = .returned (.tuple #[.slice A t.length c, .slice B u.length d, .bool true]) ∧ RB w' w'.heap.size A t.length c t ∧ RB w' w'.heap.size B u.length d u ∧ Below w.heap.size w w'
theorem conv_id (w : World) (L : List UInt8) (h : L.length ≤ 1000000) : ∃ c w', (convert 54 27 (.string ⟨L.toArray⟩)).run Tryz.prog w = .ok (.slice (some ⟨w.heap.size, 0, none⟩) L.length c) w' ∧
    RB w' w'.heap.size (some ⟨w.heap.size, 0, none⟩) L.length c L ∧ Below w.heap.size w w' ∧ w.heap.size < w'.heap.size := by
  refine ⟨_, _, ?_, RB.of_bytesWorld w 5 L (by unfold maxLen; omega), below_bytesWorld _ _ _, by rw [Lib.bytesWorld_size]; omega⟩
  have := Lib.run_convert_string_bytes (P := Tryz.prog) w 54 27 5 ⟨L.toArray⟩ Tryz.underlying54 Tryz.underlying27 Tryz.underlying5
  simpa [ByteArray.size] using this
theorem idOf_le (l : List UInt8) : (idOf l).length ≤ 44 := by
  obtain ⟨x, y, v, d, hid, _, _, hd, _⟩ := id_form l
  rw [hid]
  simp
  omega
set_option maxRecDepth 100000 in
set_option maxHeartbeats 2000000 in
theorem isplit_id (A : Option Addr) (n c : Nat) (hs : List Hop) (h : Hop) (w : World) (ht : Tab K w) (hok : ∀ x ∈ hs ++ [h], HopOk K x.kd x.l) (hr : RB w w.heap.size A n c (addrBytes (hs ++ [h]))) (hn : hs.length ≤ 99) (hk : h.kd % 8 = 6) :
    Calls Tryz.prog 13 #[.slice A n c] w (OutBBT (addrBytes hs) (idOf h.l) w) := by
  have q : ∀ (w : World) (a : Option Addr) (n c n' c' : Nat), (binOp .neq 46 (.slice a n c) (.slice none n' c')).run Tryz.prog w = .ok (.bool (!a.isNone)) w := fun w a n c n' c' => run_neq_slice_nil_any w _ _ a n c n' c' Tryz.underlying46
  have HC := Lib.hid (addrof_impl A n c (hs ++ [h]) w ht hok hr (by simp; omega) (by simp))
  have HK := Lib.hid hk
  clear ht hok hr hk
  go_enter Tryz.func13, Tryz.ntmps13
  go_wp2_with fail
  refine HC.out.mono ?_
  rintro e w1 ⟨g, c1, cs1, rfl, hcs, hpr, hms, hb⟩
  have hl1 : cs1.length = hs.length + 1 := by have := congrArg List.length hcs; simpa using this
  obtain ⟨cs, x, rfl⟩ : ∃ cs x, cs1 = cs ++ [x] := ⟨cs1.dropLast, cs1.getLast (by intro e; simp [e] at hl1), (List.dropLast_concat_getLast _).symm⟩
  rw [List.map_append, List.map_cons, List.map_nil] at hcs
  obtain ⟨hcs, hx⟩ := List.append_inj' hcs rfl
  have hx : x.1 = h := by simpa using hx
  have hl : cs.length = hs.length := by rw [← hcs, List.length_map]
  rw [List.length_append, List.length_singleton] at hms ⊢
  have HP := Lib.hid (splitaddr_id g c1 cs x w1 (by omega) (by rw [hx]; exact HK.out) hpr hms)

  have HB := Lib.hid hb
  have HCS := Lib.hid hcs
  have HX := Lib.hid hx
  have HL := Lib.hid hl
  have hidl := idOf_le h.l
  clear hpr hms hcs hx hb hl1 hl
  go_wp2_with fail
  refine HP.out.mono ?_
  rintro e w2 ⟨T, rfl, hT, hb2⟩
  rw [HX.out]
  have HB2 := Lib.hid (HB.out.trans (hb2.mono HB.out.size))
  obtain ⟨L, hL⟩ : ∃ L, L = idOf h.l := ⟨_, rfl⟩
  rw [← hL] at hidl ⊢
  have HLq := Lib.hid hL
  clear hb2 hL
  rcases hT with ⟨rfl, rfl⟩ | ⟨hpos, b, rfl, hm2⟩
  · have h0 : hs = [] := by rw [← HCS.out]; rfl
    subst h0
    obtain ⟨c5, w5, hcv, hr5, hb5, _⟩ := conv_id w2 L (by omega)
    have HR5 := Lib.hid hr5
    have HB5 := Lib.hid (HB2.out.trans (hb5.mono HB2.out.size))
    clear hr5 hb5
    go_wp2_with fail
    go_ret3
    obtain rfl := HLq.out
    exact ⟨none, 0, _, c5, rfl, RB.nil_ _ _, HR5.out, HB5.out⟩
  · have hcl : cs.length ≤ 1000 := by rw [HL.out]; omega
    have HBY := Lib.hid (bytes_any b cs.length cs.length cs w2 hm2 hcl)
    have hcb : compBytes cs = addrBytes hs := by unfold compBytes; rw [HCS.out]
    rw [hcb] at HBY
    have hab := addrBytes_le hs
    obtain ⟨M, hM⟩ : ∃ M, M = addrBytes hs := ⟨_, rfl⟩
    rw [← hM] at HBY hab ⊢
    have HMq := Lib.hid hM
    clear hm2 hcb hM
    go_wp2_with fail
    refine HBY.out.mono ?_
    rintro e w3 ⟨A3, c3, rfl, hr3, hb3⟩
    have HC3 := Lib.hid (clone_any A3 _ c3 M w3 hr3 (by omega))
    have HB3 := Lib.hid (HB2.out.trans (hb3.mono HB2.out.size))
    clear hr3 hb3
    go_wp2_with fail
    refine HC3.out.mono ?_
    rintro e w4 ⟨A4, c4, rfl, hr4, hb4⟩
    obtain ⟨c5, w5, hcv, hr5, hb5, _⟩ := conv_id w4 L (by omega)
    have HR5 := Lib.hid hr5
    have HR4 := Lib.hid (hr4.next hb5)
    have HB5 := Lib.hid ((HB3.out.trans (hb4.mono HB3.out.size)).trans (hb5.mono (Nat.le_trans HB3.out.size hb4.size)))
    clear hr5 hb5 hr4 hb4
    go_wp2_with fail
    go_ret3
    obtain rfl := HLq.out
    obtain rfl := HMq.out
    exact ⟨A4, c4, _, c5, rfl, HR4.out, HR5.out, HB5.out⟩
set_option maxRecDepth 100000 in
set_option maxHeartbeats 2000000 in
theorem isplit_other (A : Option Addr) (n c : Nat) (hs : List Hop) (h : Hop) (w : World) (ht : Tab K w) (hok : ∀ x ∈ hs ++ [h], HopOk K x.kd x.l) (hr : RB w w.heap.size A n c (addrBytes (hs ++ [h]))) (hn : hs.length ≤ 99) (hk : h.kd % 8 ≠ 6) :
    Calls Tryz.prog 13 #[.slice A n c] w (OutBBT (addrBytes (hs ++ [h])) [] w) := by
  have q : ∀ (w : World) (a : Option Addr) (n c n' c' : Nat), (binOp .neq 46 (.slice a n c) (.slice none n' c')).run Tryz.prog w = .ok (.bool (!a.isNone)) w := fun w a n c n' c' => run_neq_slice_nil_any w _ _ a n c n' c' Tryz.underlying46
  have HC := Lib.hid (addrof_impl A n c (hs ++ [h]) w ht hok hr (by simp; omega) (by simp))
  have HK := Lib.hid hk
  clear ht hok hr hk
  go_enter Tryz.func13, Tryz.ntmps13
  go_wp2_with fail
  refine HC.out.mono ?_
  rintro e w1 ⟨g, c1, cs1, rfl, hcs, hpr, hms, hb⟩
  have hcs0 := Lib.hid hcs
  have hl1 : cs1.length = hs.length + 1 := by have := congrArg List.length hcs; simpa using this
  obtain ⟨cs, x, rfl⟩ : ∃ cs x, cs1 = cs ++ [x] := ⟨cs1.dropLast, cs1.getLast (by intro e; simp [e] at hl1), (List.dropLast_concat_getLast _).symm⟩
  rw [List.map_append, List.map_cons, List.map_nil] at hcs
  obtain ⟨hcs, hx⟩ := List.append_inj' hcs rfl
  have hx : x.1 = h := by simpa using hx
  have hl : cs.length = hs.length := by rw [← hcs, List.length_map]
  rw [List.length_append, List.length_singleton] at hms ⊢
  have HP := Lib.hid (splitaddr_other g c1 cs x w1 (by omega) (by rw [hx]; exact HK.out) hpr hms)
  have HB := Lib.hid hb
  have HL := Lib.hid hl
  have HM := Lib.hid hms
  have hab := addrBytes_le (hs ++ [h])
  have hlh : (hs ++ [h]).length ≤ 100 := by simp; omega
  have hcb : compBytes (cs ++ [x]) = addrBytes (hs ++ [h]) := by unfold compBytes; rw [hcs0.out]
  have HCB := Lib.hid hcb
  obtain ⟨M, hM⟩ : ∃ M, M = addrBytes (hs ++ [h]) := ⟨_, rfl⟩
  rw [← hM] at HCB hab ⊢
  have HMq := Lib.hid hM
  clear hpr hms hcs hx hb hl1 hl hcs0 hcb hM
  go_wp2_with fail
  refine HP.out.mono ?_
  rintro e w2 ⟨rfl, hb2⟩
  have hcl : cs.length + 1 ≤ 1000 := by rw [HL.out]; omega
  have HBY := Lib.hid (bytes_any g (cs.length + 1) c1 (cs ++ [x]) w2 (HM.out.below hb2) hcl)
  rw [HCB.out] at HBY
  have HB2 := Lib.hid (HB.out.trans (hb2.mono HB.out.size))
  clear hb2
  go_wp2_with fail
  refine HBY.out.mono ?_
  rintro e w3 ⟨A3, c3, rfl, hr3, hb3⟩
  have HC3 := Lib.hid (clone_any A3 _ c3 M w3 hr3 (by omega))
  have HB3 := Lib.hid (HB2.out.trans (hb3.mono HB2.out.size))
  clear hr3 hb3
  go_wp2_with fail
  refine HC3.out.mono ?_
  rintro e w4 ⟨A4, c4, rfl, hr4, hb4⟩
  obtain ⟨c5, w5, hcv, hr5, hb5, _⟩ := conv_id w4 [] (by decide)
  have HR5 := Lib.hid hr5
  have HR4 := Lib.hid (hr4.next hb5)
  have HB5 := Lib.hid ((HB3.out.trans (hb4.mono HB3.out.size)).trans (hb5.mono (Nat.le_trans HB3.out.size hb4.size)))
  clear hr5 hb5 hr4 hb4
  go_wp2_with fail
  go_ret3
  obtain rfl := HMq.out
  exact ⟨A4, c4, _, c5, rfl, HR4.out, HR5.out, HB5.out⟩
end Go.Proofs.YtimakhadabenbaaGreatDoor
