/- zzParseAddr at the text of four numbers. No condition. -/
import Derived.Test.YthpcfnegfdcbjaaGreatDoorMh
import Derived.Test.YthpcfnegfdcbjaaGreatDoorSi
import Derived.Test.YthpcfnegfdcbjaaGreatDoorPb
namespace Go.Proofs.YthpcfnegfdcbjaaGreatDoor
open Go.RowKit
attribute [local go_sem ↓] Go.wp_at_zero Go.wp_at_succ
theorem results_cell_tmp2 {P : Program} {fn : Func} {p q r : Tmp} {ty : TypeId} (h : fn.results = #[.cell p ty, .tmp q, .tmp r]) (tmps : Array Value) (w : World) (g : Nat) (t : TypeId) (cs : Array Value) (fr : Nat × Nat) (d : TypeDesc)
    (hp : tmps.getD p undef = .pointer (some ⟨g, 0, none⟩)) (hg : w.heap[g]? = some (.cells cs t fr))
    (hu : P.underlying ty = some d) (hd : (match d with | .struct _ | .array _ _ => true | _ => false) = true) (hi : (P.info? ty).map (·.size) = some cs.size) :
    (results fn tmps).run P w = .ok (.tuple #[.agg cs, tmps.getD q undef, tmps.getD r undef]) w := by
  have hp' : tmps[p]?.getD undef = .pointer (some ⟨g, 0, none⟩) := by simpa using hp
  simp [results, h, hp', asAddr, run_loadVar_row w g t ty cs fr d hg hu hd hi]
/-- Four bytes in the form of sixteen. -/
def v4b (b0 b1 b2 b3 : UInt8) : List UInt8 := zs 10 ++ [255, 255, b0, b1, b2, b3]
theorem v4b_length (b0 b1 b2 b3 : UInt8) : (v4b b0 b1 b2 b3).length = 16 := rfl
theorem v4b_eq (b0 b1 b2 b3 : UInt8) : setL (((bv (zs 16)).toArray.setIfInBounds 10 (.int .u8 255)).setIfInBounds 11 (.int .u8 255)) 12 [b0, b1, b2, b3] = (bv (v4b b0 b1 b2 b3)).toArray := rfl
def OutPA (T : List UInt8) (four : Bool) (w : World) (e : Ending) (w' : World) : Prop := e = .returned (.tuple #[.agg (bv T).toArray, .bool four, .bool true]) ∧ Below w.heap.size w w'
theorem slice12 (B : Nat) (W : World) : (Instr.sliceAt 228 (.pointer (some ⟨B, 0, none⟩)) (some (.int .i64 12)) none none).run Tryz.prog W = .ok (.slice (some ⟨B, 12, none⟩) 4 4) W := by
  have hal : Tryz.prog.arrayLen 228 = 16 := by kernel_rfl
  rw [run_sliceAt_array_l W 228 ⟨B, 0, none⟩ (by kernel_rfl) .i64 12 (by omega) (by rw [hal]; omega)]
  rw [hal]
  go_simp
theorem hexd_37 (x : Nat) (hx : x < 16) : hexd x ≠ 37 := fun e => by
  have := hexd_nat x hx
  rw [e] at this; simp at this; split at this <;> omega
theorem ne_dec {c d : UInt8} (h : c ≠ d) : ((c.toNat : Int) == (d.toNat : Int)) = false := by
  rw [beq_eq_false_iff_ne]
  intro e
  exact h (UInt8.toNat_inj.1 (by omega))
set_option maxHeartbeats 4000000 in
set_option maxRecDepth 100000 in
theorem parse4_x (b0 b1 b2 b3 : UInt8) (w : World) : Calls Tryz.prog 243 #[.string ⟨(dotted b0 b1 b2 b3).toArray⟩] w (OutPA (v4b b0 b1 b2 b3) true w) := by
  obtain ⟨xs, e1, e2, e3⟩ := dec_map b0.toNat
  obtain ⟨S, hS⟩ : ∃ S, S = dotted b0 b1 b2 b3 := ⟨_, rfl⟩
  obtain ⟨R, hR⟩ : ∃ R, R = Lib.decDigits b1.toNat ++ restT [b2, b3] := ⟨_, rfl⟩
  have hSx : S = xs.map hexd ++ 46 :: R := by rw [hS, dotted_rest, e1, hR]; rfl
  have hxl : xs.length ≤ 3 := by rw [e3]; exact nDigits_byte b0
  have hsl : S.length = xs.length + (R.length + 1) := by rw [hSx]; simp
  have hS15 : S.length ≤ 15 := by rw [hS]; exact dotted_length _ _ _ _
  have hsz := size_toArray S
  obtain ⟨W0, hW0⟩ : ∃ W0, W0 = w.alloc (.cells #[.int .u8 0, .int .u8 0, .int .u8 0, .int .u8 0, .int .u8 0, .int .u8 0, .int .u8 0, .int .u8 0, .int .u8 0, .int .u8 0, .int .u8 0, .int .u8 0, .int .u8 0, .int .u8 0, .int .u8 0, .int .u8 0] 228) := ⟨_, rfl⟩
  have hk0 : Blk W0 w.heap.size 228 (bv (zs 16)).toArray := by rw [hW0]; exact Blk.new w _ _
  have hb0 : Below w.heap.size w W0 := by rw [hW0]; exact (Below.refl _ w).alloc (Nat.le_refl _) _
  have hf10 : W0.frozen? ⟨w.heap.size, 10, none⟩ = false := hk0.frozen 10
  have hf11 : W0.frozen? ⟨w.heap.size, 11, none⟩ = false := hk0.frozen 11
  have hc10 : W0.cell? ⟨w.heap.size, 10, none⟩ = some (.int .u8 0) := hk0.cell 10
  have hc11 : W0.cell? ⟨w.heap.size, 11, none⟩ = some (.int .u8 0) := hk0.cell 11
  have hC := fields4_x b0 b1 b2 b3 w.heap.size 12 4 4 w.heap.size 228 _ _ ((hk0.set_ 10 (.int .u8 255)).set_ 11 (.int .u8 255)) (by simp [bv, zs]) (by omega) (by omega) (by omega) (Nat.le_refl _) (by rw [World.size_setCell, World.size_setCell]; exact hb0.size)
  rw [v4b_eq, ← hS] at hC
  have HC := Lib.hid hC
  have HW0 := Lib.hid hW0
  have HB1 := Lib.hid ((hb0.setCell (p := ⟨w.heap.size, 10, none⟩) (Nat.le_refl _) (.int .u8 255)).setCell (p := ⟨w.heap.size, 11, none⟩) (Nat.le_refl _) (.int .u8 255))
  have hsl12 := slice12 w.heap.size
  have HX := Lib.hid hSx
  have HE2 := Lib.hid e2
  have hvl : (bv (v4b b0 b1 b2 b3)).toArray.size = 16 := rfl
  have HSZ := Lib.hid (size16 (v4b b0 b1 b2 b3) rfl)
  have HON := Lib.hid (one_bv (v4b b0 b1 b2 b3))
  generalize v4b b0 b1 b2 b3 = T at *
  rw [← hS]
  clear hC hW0 hSx hS hR e1 e2 e3 hk0 hb0
  go_enter Tryz.func243, Tryz.ntmps243
  go_wp2_with fail
  rw [← HW0.out]
  go_loopw [5] (fun v5 wq => ∃ j : Nat, j ≤ xs.length ∧ v5 = .int .i64 j ∧ wq = W0) (fun v5 _ => 10 - (intOf v5).toNat)
  case atStart => exact ⟨0, by omega, rfl, rfl⟩
  case round =>
    obtain ⟨j, hj, rfl, hwq⟩ := hrel
    rw [hwq]
    clear hwq
    by_cases hlt : j < xs.length
    · have hjS : j < S.length := by omega
      have hx := HE2.out _ (List.getElem_mem hlt)
      have hx0 := ba_get S j (hexd xs[j]) (by rw [HX.out, List.getElem?_append_left (by simpa using hlt)]; simp [hlt])
      have hn1 : (((hexd xs[j]).toNat : Int) == 46) = false := ne_dec (d := 46) (hexd_ne _ hx).2
      have hn2 : (((hexd xs[j]).toNat : Int) == 58) = false := ne_dec (d := 58) (hexd_ne _ hx).1
      have hn3 : (((hexd xs[j]).toNat : Int) == 37) = false := ne_dec (d := 37) (hexd_37 _ hx)
      generalize hexd xs[j] = c at *
      clear hx
      go_wp2_with fail
      go_roundw
      case rel => exact ⟨j + 1, by omega, by go_num, trivial⟩
      case measure => simp [intOf] <;> omega
    · rw [show j = xs.length by omega]
      have hx0 := ba_get S xs.length 46 (by rw [HX.out, List.getElem?_append_right (by simp)]; simp)
      have hjS : xs.length < S.length := by omega
      clear hlt hj hsl
      go_wp2_with (first
        | (go_at_call 304; go_loud (refine HC.out.mono ?_; rintro e w3 ⟨rfl, hk3, hb3⟩; have HK3 := Lib.hid hk3; have HB3 := Lib.hid (HB1.out.trans hb3); clear hk3 hb3))
        | (refine wpList_load_row rfl 228 (.tmp 2) rfl w.heap.size ?j0 228 (bv T).toArray (0, 0) _ HK3.out Tryz.underlying228 rfl HSZ.out ?_)
        | (refine wpList_store_row rfl 228 (.tmp 2) (.tmp 23) rfl w.heap.size (bv T).toArray ?i0 ?i1 228 _ HK3.out HSZ.out ?i3 HON.out ?_))
      case j0 => rfl
      case i0 => rfl
      case i1 => rfl
      case i3 => rw [hvl]
      exact bodyPost_ret (results_cell_tmp2 rfl _ _ w.heap.size 228 (bv T).toArray (0, 0) _ rfl (HK3.out.row _) Tryz.underlying228 rfl HSZ.out) rfl ⟨rfl, below_setRow HB3.out (Nat.le_refl _) _⟩
theorem map_clean (xs : List Nat) (h : ∀ x ∈ xs, x < 16) : ∀ c ∈ xs.map hexd, c ≠ 37 := fun c hc => by
  obtain ⟨x, hx, rfl⟩ := List.mem_map.1 hc
  exact hexd_37 x (h x hx)
theorem hexT_clean (n : Nat) : ∀ c ∈ hexT n, c ≠ 37 := by
  rw [hexT_map]
  exact map_clean _ (hexL_lt n)
theorem dec_clean (b : UInt8) : ∀ c ∈ Lib.decDigits b.toNat, c ≠ 37 := by
  obtain ⟨xs, e1, e2, _⟩ := dec_map b.toNat
  rw [e1]
  exact map_clean _ e2
theorem dotted_clean (b0 b1 b2 b3 : UInt8) : ∀ c ∈ dotted b0 b1 b2 b3, c ≠ 37 := fun c hc => by
  unfold dotted at hc
  simp only [List.mem_append, List.mem_singleton] at hc
  rcases hc with (((((h | h) | h) | h) | h) | h) | h
  · exact dec_clean _ c h
  · rw [h]; decide
  · exact dec_clean _ c h
  · rw [h]; decide
  · exact dec_clean _ c h
  · rw [h]; decide
  · exact dec_clean _ c h
theorem P6.clean {T D : List UInt8} {ell : Option Nat} {s : List UInt8} (h : P6 T D ell s) : ∀ c ∈ s, c ≠ 37 := by
  induction h with
  | lastG => exact hexT_clean _
  | more _ _ _ ih =>
    intro c hc
    rcases List.mem_append.1 hc with h | h
    · exact hexT_clean _ c h
    · rcases List.mem_cons.1 h with rfl | h
      · decide
      · exact ih c h
  | ellMid _ _ _ ih =>
    intro c hc
    rcases List.mem_append.1 hc with h | h
    · exact hexT_clean _ c h
    · rcases List.mem_cons.1 h with rfl | h
      · decide
      · rcases List.mem_cons.1 h with rfl | h
        · decide
        · exact ih c h
  | ellEnd =>
    intro c hc
    rcases List.mem_append.1 hc with h | h
    · exact hexT_clean _ c h
    · simp at h; rw [h]; decide
  | quad => exact dotted_clean _ _ _ _
/-- An IPv6 text: digits, a colon, and no percent sign. -/
theorem start_colon {T s : List UInt8} (h : Start6 T s) : ∃ (xs : List Nat) (R : List UInt8), s = xs.map hexd ++ 58 :: R ∧ (∀ x ∈ xs, x < 16) ∧ xs.length ≤ 4 ∧ ∀ c ∈ s, c ≠ 37 := by
  rcases h with h | ⟨s', rfl, h⟩
  · obtain ⟨_, xs, R, e, _, hl, hx, hc⟩ := h.form
    rcases hc with ⟨_, _, hF⟩ | ⟨c, s', hR, _⟩ | ⟨c, s', hR, _⟩ | ⟨hR, _⟩ | ⟨_, _, _, _, _, _, _, _, _, he, _⟩
    · exact absurd hF.1 (by simp [gb])
    · exact ⟨xs, c :: s', by rw [e, hR], hx, hl, h.clean⟩
    · exact ⟨xs, 58 :: c :: s', by rw [e, hR], hx, hl, h.clean⟩
    · exact ⟨xs, [58], by rw [e, hR], hx, hl, h.clean⟩
    · exact absurd he (by simp)
  · refine ⟨[], 58 :: s', rfl, by simp, by simp, fun c hc => ?_⟩
    rcases List.mem_cons.1 hc with rfl | hc
    · decide
    · rcases List.mem_cons.1 hc with rfl | hc
      · decide
      · rcases h with h | ⟨rfl, _⟩
        · exact h.clean c hc
        · simp at hc
set_option maxHeartbeats 4000000 in
set_option maxRecDepth 100000 in
theorem paddr6_x (T S : List UInt8) (w : World) (hT : T.length = 16) (h : Start6 T S) (hS100 : S.length ≤ 100) : Calls Tryz.prog 243 #[.string ⟨S.toArray⟩] w (OutPA T false w) := by
  obtain ⟨xs, R, hSx, e2, hx4, h37⟩ := start_colon h
  have hsl : S.length = xs.length + (R.length + 1) := by rw [hSx]; simp
  have hsz := size_toArray S
  obtain ⟨W0, hW0⟩ : ∃ W0, W0 = w.alloc (.cells #[.int .u8 0, .int .u8 0, .int .u8 0, .int .u8 0, .int .u8 0, .int .u8 0, .int .u8 0, .int .u8 0, .int .u8 0, .int .u8 0, .int .u8 0, .int .u8 0, .int .u8 0, .int .u8 0, .int .u8 0, .int .u8 0] 228) := ⟨_, rfl⟩
  have hk0 : Blk W0 w.heap.size 228 (bv (zs 16)).toArray := by rw [hW0]; exact Blk.new w _ _
  have hb0 : Below w.heap.size w W0 := by rw [hW0]; exact (Below.refl _ w).alloc (Nat.le_refl _) _
  have HC := Lib.hid (parse6_x T S W0 hT h hS100)
  have HW0 := Lib.hid hW0
  have HK0 := Lib.hid hk0
  have HB0 := Lib.hid hb0
  have HX := Lib.hid hSx
  have HE2 := Lib.hid e2
  have H37 := Lib.hid h37
  have hvl : (bv T).toArray.size = 16 := by rw [List.size_toArray, bv_length, hT]
  have HSZ := Lib.hid (size16 T hT)
  have HON := Lib.hid (one_bv T)
  have HZ := Lib.hid (show (bv (zs 16)).toArray.size = 16 from rfl)
  clear hW0 hSx e2 hk0 hb0 h h37 hT
  go_enter Tryz.func243, Tryz.ntmps243
  go_wp2_with fail
  rw [← HW0.out]
  go_loopw [5] (fun v5 wq => ∃ j : Nat, j ≤ xs.length ∧ v5 = .int .i64 j ∧ wq = W0) (fun v5 _ => 10 - (intOf v5).toNat)
  case atStart => exact ⟨0, by omega, rfl, rfl⟩
  case round =>
    obtain ⟨j, hj, rfl, hwq⟩ := hrel
    rw [hwq]
    clear hwq
    by_cases hlt : j < xs.length
    · have hjS : j < S.length := by omega
      have hx := HE2.out _ (List.getElem_mem hlt)
      have hx0 := ba_get S j (hexd xs[j]) (by rw [HX.out, List.getElem?_append_left (by simpa using hlt)]; simp [hlt])
      have hn1 : (((hexd xs[j]).toNat : Int) == 46) = false := ne_dec (d := 46) (hexd_ne _ hx).2
      have hn2 : (((hexd xs[j]).toNat : Int) == 58) = false := ne_dec (d := 58) (hexd_ne _ hx).1
      have hn3 : (((hexd xs[j]).toNat : Int) == 37) = false := ne_dec (d := 37) (hexd_37 _ hx)
      generalize hexd xs[j] = c at *
      clear hx
      go_wp2_with fail
      go_roundw
      case rel => exact ⟨j + 1, by omega, by go_num, trivial⟩
      case measure => simp [intOf] <;> omega
    · rw [show j = xs.length by omega]
      have hx0 := ba_get S xs.length 58 (by rw [HX.out, List.getElem?_append_right (by simp)]; simp)
      have hjS : xs.length < S.length := by omega
      clear hlt hj hsl
      go_wp2_with fail
      go_loopw [6] (fun v6 wq => ∃ k : Nat, k ≤ S.length ∧ v6 = .int .i64 k ∧ wq = W0) (fun v6 _ => 200 - (intOf v6).toNat)
      case atStart => exact ⟨xs.length, by omega, rfl, rfl⟩
      case round =>
        obtain ⟨k, hk, rfl, hwq⟩ := hrel
        rw [hwq]
        clear hwq
        by_cases hlt : k < S.length
        · have hc := ba_get S k S[k] (List.getElem?_eq_getElem hlt)
          have hn3 : ((S[k].toNat : Int) == 37) = false := ne_dec (d := 37) (H37.out _ (List.getElem_mem hlt))
          generalize S[k] = c at *
          go_wp2_with fail
          go_roundw
          case rel => exact ⟨k + 1, by omega, by go_num, trivial⟩
          case measure => simp [intOf] <;> omega
        · rw [show k = S.length by omega]
          clear hlt hk
          go_wp2_with (first
            | (go_at_call 305; go_loud (refine HC.out.mono ?_; rintro e w3 ⟨rfl, hb3⟩; have HK3 := Lib.hid (HK0.out.below hb3 HK0.out.lt); have HB3 := Lib.hid (HB0.out.trans (hb3.mono (Nat.le_of_lt HK0.out.lt))); clear hb3))
            | (refine wpList_store_row rfl 228 (.tmp 2) (.tmp 42) rfl w.heap.size (bv T).toArray ?i0 ?i1 228 _ HK3.out HSZ.out ?i3 HON.out ?_)
            | (refine wpList_load_row rfl 228 (.tmp 2) rfl w.heap.size ?j0 228 (bv T).toArray (0, 0) _ (HK3.out.row _) Tryz.underlying228 rfl HSZ.out ?_)
            | (refine wpList_store_row rfl 228 (.tmp 2) (.tmp 44) rfl w.heap.size (bv T).toArray ?l0 ?l1 228 _ (HK3.out.row _) HSZ.out ?l3 HON.out ?_))
          case j0 => rfl
          case i0 => rfl
          case i1 => rfl
          case i3 => rw [hvl]; rfl
          case l0 => rfl
          case l1 => rfl
          case l3 => rw [hvl]
          exact bodyPost_ret (results_cell_tmp2 rfl _ _ w.heap.size 228 (bv T).toArray (0, 0) _ rfl ((HK3.out.row _).row _) Tryz.underlying228 rfl HSZ.out) rfl ⟨rfl, below_setRow (below_setRow HB3.out (Nat.le_refl _) _) (Nat.le_refl _) _⟩
end Go.Proofs.YthpcfnegfdcbjaaGreatDoor

/- zzParseIP, ip4StB, ip6StB at texts of addresses. No condition. -/
namespace Go.Proofs.YthpcfnegfdcbjaaGreatDoor
open Go.RowKit
attribute [local go_sem ↓] Go.wp_at_zero Go.wp_at_succ
theorem RB.of_blkm {w : World} {g : Nat} {t : TypeId} {l : List UInt8} (h : Blk w g t (bv l).toArray) (hm : l.length ≤ maxLen) : RB w w.heap.size (some ⟨g, 0, none⟩) l.length l.length l := by
  refine ⟨⟨by simp [bv], fun _ => ⟨_, rfl, h.lt, fun j u hu => ?_⟩⟩, Nat.le_refl _, hm⟩
  have hadd : (⟨g, 0, none⟩ : Addr).add j = ⟨g, j, none⟩ := by unfold Addr.add; split <;> simp_all
  rw [hadd, h.cell j]
  simpa using hu
theorem sixteen_blk {w : World} {g : Nat} {t : TypeId} {l : List UInt8} (h : Blk w g t (bv l).toArray) (hl : l.length = 16) : Sixteen w g := fun k hk => ⟨l[k]'(by omega), by
  rw [h.cell k]
  exact bv_at (List.getElem?_eq_getElem (by omega))⟩
theorem v4_blk {w : World} {g : Nat} {t : TypeId} {b0 b1 b2 b3 : UInt8} (h : Blk w g t (bv (v4b b0 b1 b2 b3)).toArray) : IsV4 w g := by
  refine ⟨fun j hj => ?_, h.cell 10, h.cell 11⟩
  rw [h.cell j]
  rcases j with _ | _ | _ | _ | _ | _ | _ | _ | _ | _ | j <;> first | rfl | omega
/-- What a value's text gives: its bytes, and no error. -/
def OutVB (l : List UInt8) (w : World) (e : Ending) (w' : World) : Prop := ∃ g o c : Nat, e = .returned (.tuple #[.slice (some ⟨g, o, none⟩) l.length c, .nilIface]) ∧ RB w' w'.heap.size (some ⟨g, o, none⟩) l.length c l ∧ Below w.heap.size w w'
theorem sliceAll (B : Nat) (W : World) : (Instr.sliceAt 228 (.pointer (some ⟨B, 0, none⟩)) none none none).run Tryz.prog W = .ok (.slice (some ⟨B, 0, none⟩) 16 16) W := by
  have hal : Tryz.prog.arrayLen 228 = 16 := by kernel_rfl
  rw [run_sliceAt_array_all W 228 ⟨B, 0, none⟩ (by kernel_rfl)]
  rw [hal]
  go_simp
set_option maxHeartbeats 4000000 in
set_option maxRecDepth 100000 in
theorem parseip_x (T S : List UInt8) (four : Bool) (w : World) (hT : T.length = 16) (hC : Calls Tryz.prog 243 #[.string ⟨S.toArray⟩] w (OutPA T four w)) : Calls Tryz.prog 209 #[.string ⟨S.toArray⟩] w fun e w' => ∃ g, e = .returned (.slice (some ⟨g, 0, none⟩) 16 16) ∧ Blk w' g 228 (bv T).toArray ∧ Below w.heap.size w w' := by
  have HC := Lib.hid hC
  have hvl : (bv T).toArray.size = 16 := by rw [List.size_toArray, bv_length, hT]
  have HSZ := Lib.hid (size16 T hT)
  have HON := Lib.hid (one_bv T)
  have hsl := sliceAll
  clear hC hT
  go_enter Tryz.func209, Tryz.ntmps209
  go_wp2_with (first
    | (go_at_call 243; go_loud (refine HC.out.mono ?_; rintro e w3 ⟨rfl, hb3⟩; have HB3 := Lib.hid hb3; clear hb3))
    | (refine wpList_store_row rfl 228 (.tmp 3) (.tmp 9) rfl w3.heap.size (bv T).toArray ?i0 ?i1 228 _ (Blk.new w3 _ _) HSZ.out ?i3 HON.out ?_))
  case i0 => rfl
  case i1 => rfl
  case i3 => rw [hvl]; rfl
  go_ret
  refine ⟨_, rfl, (Blk.new w3 _ _).row _, below_setRow (HB3.out.alloc HB3.out.size _) HB3.out.size _⟩
set_option maxHeartbeats 2000000 in
set_option maxRecDepth 100000 in
theorem to16_x (g : Nat) (w : World) : Calls Tryz.prog 217 #[.slice (some ⟨g, 0, none⟩) 16 16] w fun e w' => e = .returned (.slice (some ⟨g, 0, none⟩) 16 16) ∧ w = w' := by
  go_enter Tryz.func217, Tryz.ntmps217
  go_wp2_with fail
  go_ret
  exact ⟨rfl, rfl⟩
set_option maxHeartbeats 2000000 in
set_option maxRecDepth 100000 in
theorem ip4sb_x (b0 b1 b2 b3 : UInt8) (w : World) : Calls Tryz.prog 167 #[.string ⟨(dotted b0 b1 b2 b3).toArray⟩] w (OutVB [b0, b1, b2, b3] w) := by
  have HC := Lib.hid (parseip_x (v4b b0 b1 b2 b3) (dotted b0 b1 b2 b3) true w rfl (parse4_x b0 b1 b2 b3 w))
  have q : ∀ (w : World) (a : Option Addr) (n c n' c' : Nat), (binOp .eql 186 (.slice a n c) (.slice none n' c')).run Tryz.prog w = .ok (.bool a.isNone) w := fun w a n c n' c' => Lib.run_eql_slice_nil w _ _ a n c n' c' Tryz.underlying186
  go_enter Tryz.func167, Tryz.ntmps167
  go_wp2_with (first
    | (go_at_call 209; go_loud (refine HC.out.mono ?_; rintro e w3 ⟨g, rfl, hk3, hb3⟩; have HB3 := Lib.hid hb3; have HK3 := Lib.hid hk3; clear hb3 hk3))
    | (go_at_call 210; go_loud (refine (to4_sixteen g 16 w3 (sixteen_blk HK3.out rfl) (Nat.le_refl _) (by simp [maxLen])).mono ?_; rintro e w4 ⟨⟨rfl, hn⟩ | ⟨rfl, _⟩, rfl⟩)))
  · exact absurd (v4_blk HK3.out) hn
  · go_wp2_with fail
    go_ret2
    exact ⟨g, 12, 4, rfl, by
      have := (RB.of_blkm HK3.out (by simp [v4b_length, maxLen])).drop (k := 12) (by rw [v4b_length]; omega)
      simpa [v4b, zs, Addr.add] using this, HB3.out⟩
set_option maxHeartbeats 2000000 in
set_option maxRecDepth 100000 in
theorem ip6sb_x (T S : List UInt8) (w : World) (hT : T.length = 16) (h : Start6 T S) (hS100 : S.length ≤ 100) : Calls Tryz.prog 174 #[.string ⟨S.toArray⟩] w (OutVB T w) := by
  have HC := Lib.hid (parseip_x T S false w hT (paddr6_x T S w hT h hS100))
  have HT := Lib.hid hT
  clear h hT
  have q : ∀ (w : World) (a : Option Addr) (n c n' c' : Nat), (binOp .eql 186 (.slice a n c) (.slice none n' c')).run Tryz.prog w = .ok (.bool a.isNone) w := fun w a n c n' c' => Lib.run_eql_slice_nil w _ _ a n c n' c' Tryz.underlying186
  go_enter Tryz.func174, Tryz.ntmps174
  go_wp2_with (first
    | (go_at_call 209; go_loud (refine HC.out.mono ?_; rintro e w3 ⟨g, rfl, hk3, hb3⟩; have HB3 := Lib.hid hb3; have HK3 := Lib.hid hk3; clear hb3 hk3))
    | (go_at_call 217; go_loud (refine (to16_x g w3).mono ?_; rintro e w4 ⟨rfl, rfl⟩)))
  go_wp2_with fail
  go_ret2
  exact ⟨g, 0, 16, by rw [HT.out]; rfl, by
    have := RB.of_blkm HK3.out (by rw [HT.out]; simp [maxLen])
    rw [HT.out] at this ⊢
    exact this, HB3.out⟩
end Go.Proofs.YthpcfnegfdcbjaaGreatDoor

/- portStB at the text of a port. No condition. -/
namespace Go.Proofs.YthpcfnegfdcbjaaGreatDoor
open Go.RowKit
attribute [local go_sem ↓] Go.wp_at_zero Go.wp_at_succ
theorem pu_from (u : Nat) (hu : u < 65536) : ∀ m j, j + m = Lib.nDigits u → Lib.parseUintM 65535 (u / 10 ^ (Lib.nDigits u - j)) ((Lib.decDigits u).drop j) = .ok u
  | 0, j, h => by
    rw [List.drop_of_length_le (by rw [Lib.decDigits_length]; omega), show Lib.nDigits u - j = 0 by omega]
    simp [Lib.parseUintM]
  | m + 1, j, h => by
    have hj : j < (Lib.decDigits u).length := by rw [Lib.decDigits_length]; omega
    have hg := dig_at u j (by omega)
    rw [List.getElem?_eq_getElem hj] at hg
    injection hg with hg
    rw [List.drop_eq_getElem_cons hj, hg]
    have ih := pu_from u hu m (j + 1) (by omega)
    rw [dig_val u (Lib.nDigits u) j (by omega)] at ih
    obtain ⟨x, hx⟩ : ∃ x, x = u / 10 ^ (Lib.nDigits u - 1 - j) % 10 := ⟨_, rfl⟩
    obtain ⟨a, ha⟩ : ∃ a, a = u / 10 ^ (Lib.nDigits u - j) := ⟨_, rfl⟩
    have hle : 10 * a + x ≤ u := by
      have := dig_val u (Lib.nDigits u) j (by omega)
      rw [← hx, ← ha] at this
      rw [← this]
      exact Nat.div_le_self _ _
    rw [← hx, ← ha] at ih
    rw [← hx, ← ha]
    have hx10 : x < 10 := by omega
    have hc : (UInt8.ofNat (48 + x)).toNat = 48 + x := by simp; omega
    rw [Lib.parseUintM, hc, if_pos ⟨by omega, by omega⟩, if_neg (by omega), if_neg (by omega), show a * 10 + (48 + x - 48) = 10 * a + x by omega]
    exact ih
theorem pu_dec (u : Nat) (hu : u < 65536) : Lib.parseUintB 16 (Lib.decDigits u) = .ok u := by
  have hn : Lib.decDigits u ≠ [] := fun e => by
    have := congrArg List.length e
    rw [Lib.decDigits_length] at this
    have := Lib.nDigits_pos u
    simp at *
    omega
  rw [Lib.parseUintB, if_neg hn]
  have h := pu_from u hu (Lib.nDigits u) 0 (by omega)
  rw [Nat.sub_zero, Nat.div_eq_of_lt (Lib.lt_pow_nDigits u)] at h
  exact h
set_option maxHeartbeats 2000000 in
set_option maxRecDepth 100000 in
theorem portsb_x (b0 b1 : UInt8) (w : World) : Calls Tryz.prog 169 #[.string ⟨(Lib.decDigits (b0.toNat * 256 + b1.toNat)).toArray⟩] w (OutVB [b0, b1] w) := by
  obtain ⟨u, hu⟩ : ∃ u, u = b0.toNat * 256 + b1.toNat := ⟨_, rfl⟩
  have hb0 := b0.toNat_lt
  have hb1 := b1.toNat_lt
  have hu16 : u < 65536 := by omega
  rw [← hu]
  have hlen : (⟨(Lib.decDigits u).toArray⟩ : ByteArray).size ≤ 9223372036854775806 := by
    rw [size_toArray, Lib.decDigits_length]
    have : Lib.nDigits u ≤ 20 := by
      rcases Nat.eq_zero_or_pos u with h | h
      · rw [h]; unfold Lib.nDigits; simp
      · have := Lib.numDigits_eq u h (by omega); split at this <;> omega
    omega
  have HC := Lib.hid (Tryz.strconv_ParseUint_10_at16_ok ⟨(Lib.decDigits u).toArray⟩ hlen u (pu_dec u hu16) w)
  have HU := Lib.hid hu
  have hw16 : IntKind.u16.wrap (u : Int) = (u : Int) := by rw [IntKind.wrap_u16]; omega
  clear hlen hu
  have hmk : ∀ W : World, (Instr.makeSlice 26 (.int .i64 2) (.int .i64 2)).run Tryz.prog W = .ok (.slice (some ⟨W.heap.size, 0, none⟩) 2 2) (W.alloc (.cells #[.int .u8 0, .int .u8 0] 5)) := fun W => by
    have h := run_make_bytes 2 (by omega) W
    rw [show madeCells #[Value.int .u8 0] (2 * 1) = #[.int .u8 0, .int .u8 0] by kernel_rfl] at h
    exact h
  go_enter Tryz.func169, Tryz.ntmps169
  go_wp2_with (go_at_call 212; go_loud (refine HC.out.mono ?_; rintro e w3 ⟨rfl, hw3⟩; have HB3 := Lib.hid (show Below w.heap.size w w3 by rcases hw3 with rfl | rfl; exact Below.refl _ _; exact below_bytesWorld _ _ _); clear hw3))
  obtain ⟨W, hW⟩ : ∃ W, W = w3.alloc (.cells #[.int .u8 0, .int .u8 0] 5) := ⟨_, rfl⟩
  have hk : Blk W w3.heap.size 5 #[.int .u8 0, .int .u8 0] := by rw [hW]; exact Blk.new w3 _ _
  have HP := Lib.hid (Tryz.binary_BE_PutUint16 w3.heap.size 0 2 2 u hu16 _ _ W (by omega) (hk.cell 0) (hk.cell 1) (hk.frozen 0) (hk.frozen 1))
  have HBW := Lib.hid (show Below w.heap.size w W by rw [hW]; exact HB3.out.alloc HB3.out.size _)
  have HK := Lib.hid hk
  have HW := Lib.hid hW
  clear hk hW
  rw [← HW.out]
  refine HP.out.mono ?_
  rintro e w4 ⟨rfl, rfl⟩
  go_wp2_with fail
  go_ret2
  have hbc : Lib.byteCells (Lib.beBytes 2 u) = [.int .u8 (b0.toNat : Int), .int .u8 (b1.toNat : Int)] := by
    have e0 : u / 256 % 256 = b0.toNat := by rw [HU.out]; omega
    have e1 : u % 256 = b1.toNat := by rw [HU.out]; omega
    simp only [Lib.byteCells, Lib.beBytes, Lib.leBytes, List.reverse_cons, List.reverse_nil, List.nil_append, List.cons_append, List.map, e0, e1]
    rw [show b0.toNat.toUInt8 = b0 from UInt8.ofNat_toNat, show b1.toNat.toUInt8 = b1 from UInt8.ofNat_toNat]
  rw [hbc]
  have hk2 : Blk (((W.alloc (.cells #[] 193)).setCell ⟨w3.heap.size, 0, none⟩ (.int .u8 (b0.toNat : Int))).setCell ⟨w3.heap.size, 1, none⟩ (.int .u8 (b1.toNat : Int))) w3.heap.size 5 (bv [b0, b1]).toArray := ((HK.out.alloc _).set_ 0 _).set_ 1 _
  refine ⟨w3.heap.size, 0, 2, rfl, RB.of_blkm hk2 (by simp [maxLen]), ?_⟩
  exact ((HBW.out.alloc HBW.out.size _).setCell (p := ⟨w3.heap.size, 0, none⟩) HB3.out.size _).setCell (p := ⟨w3.heap.size, 1, none⟩) HB3.out.size _
end Go.Proofs.YthpcfnegfdcbjaaGreatDoor
