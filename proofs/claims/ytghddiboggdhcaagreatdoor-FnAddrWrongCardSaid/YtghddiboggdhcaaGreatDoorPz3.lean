/- The alphabet of base58: a block of its own, of which the last 58 cells are bytes. -/
import Derived.Test.YtghddiboggdhcaaGreatDoorPg
import Derived.Lib.BufferWrite
import Derived.Deep.RegionHeld3
set_option maxRecDepth 100000
set_option maxHeartbeats 2000000
namespace Go.Proofs.YtghddiboggdhcaaGreatDoor
open Go.RowKit
attribute [local go_sem ↓] Go.wp_at_zero Go.wp_at_succ
structure Alp (xs : Array Value) : Prop where
  size : xs.size = 186
  enc : ∀ k, k < 58 → ∃ u : UInt8, u.toNat < 128 ∧ xs[128 + k]? = some (.int .u8 u.toNat)
theorem Alp.set {xs : Array Value} (h : Alp xs) (i : Nat) (hi : i < 128) (v : Value) : Alp (xs.setIfInBounds i v) :=
  ⟨by simp [h.size], fun k hk => by
    obtain ⟨u, hu, e⟩ := h.enc k hk
    exact ⟨u, hu, by rw [Array.getElem?_setIfInBounds_ne (by omega)]; exact e⟩⟩
def lit58 : ByteArray := ⟨#[49, 50, 51, 52, 53, 54, 55, 56, 57, 65, 66, 67, 68, 69, 70, 71, 72, 74, 75, 76, 77, 78, 80, 81, 82, 83, 84, 85, 86, 87, 88, 89, 90, 97, 98, 99, 100, 101, 102, 103, 104, 105, 106, 107, 109, 110, 111, 112, 113, 114, 115, 116, 117, 118, 119, 120, 121, 122]⟩
theorem load_enc {P : Program} (w : World) (p : Nat) (t : TypeId) (xs : Array Value) (h : Blk w p t xs) (hs : xs.size = 186) : (loadCellsFrom ⟨p, 128, none⟩ 0 58 #[]).run P w = .ok (xs.toList.drop 128).toArray w := by
  have hl : (xs.toList.drop 128).length = 58 := by simp [hs]
  have := run_loadCells_list (P := P) w ⟨p, 128, none⟩ (xs.toList.drop 128) (fun j v hv => by
    have hadd : (⟨p, 128, none⟩ : Addr).add j = ⟨p, 128 + j, none⟩ := by unfold Addr.add; split <;> simp_all
    rw [hadd, h.cell]
    simpa using hv)
  rw [hl] at this
  simpa [loadCells] using this
theorem step_load {P : Program} {w : World} {ops : Array Oper} {rest : List Oper} {o : Oper} {a : Act} {Q : Exit → Act → World → Prop} (hgd : o.guard = none) (p : Operand) (t : TypeId)
    (ho : o.op = .load t p) (v : Value) (ad : Value) (hp : a.eval p = ad) (hr : (Instr.loadAt t ad).run P w = .ok v w) (h : wpList P ops Q rest (a.put o.dst v) w) : wpList P ops Q (o :: rest) a w := by
  refine wpList_plain hgd fun K hK => ?_
  unfold Oper.wp execOp
  simp only [ho, hp, Sem.run_bind, Sem.run_pure, Result.andThen_ok, hr]
  exact hK _ _ h
theorem idx58 (ys : Array Value) (k : Nat) (hk : k < 58) (v : Value) (h : ys[k]? = some v) (w : World) : (Instr.index 313 (.agg ys) (.int .i64 k)).run Tryz.prog w = .ok v w := by
  have a1 : (isAgg 5).run Tryz.prog w = .ok false w := by kernel_rfl
  have a2 : (sizeOf 5).run Tryz.prog w = .ok 1 w := by kernel_rfl
  simp [Instr.index, asIntOf, run_underlying Tryz.underlying313, part, a2, h]
  intro h1
  omega
theorem enc_at {xs : Array Value} (h : Alp xs) (k : Nat) (hk : k < 58) : ∃ u : UInt8, u.toNat < 128 ∧ (xs.toList.drop 128).toArray[k]? = some (.int .u8 u.toNat) := by
  obtain ⟨u, hu, e⟩ := h.enc k hk
  exact ⟨u, hu, by simpa using e⟩
theorem lit_small : ∀ u ∈ lit58.data.toList, u.toNat < 128 := by decide
theorem alp_of (zs : Array Value) (hz : zs.size = 186) : Alp (zs.toList.take 128 ++ Lib.byteCells lit58.data.toList ++ zs.toList.drop (128 + 58)).toArray := by
  have h1 : (zs.toList.take 128).length = 128 := by simp [hz]
  have h2 : (Lib.byteCells lit58.data.toList).length = 58 := by rfl
  refine ⟨by simp only [List.size_toArray, List.length_append, h1, h2, List.length_drop, Array.length_toList, hz], fun k hk => ?_⟩
  have h3 : k < lit58.data.toList.length := hk
  refine ⟨lit58.data.toList[k]'h3, lit_small _ (List.getElem_mem _), ?_⟩
  rw [List.getElem?_toArray, List.getElem?_append_left (by rw [List.length_append, h1, h2]; omega), List.getElem?_append_right (by omega), h1, Nat.add_sub_cancel_left]
  unfold Lib.byteCells
  rw [List.getElem?_map, List.getElem?_eq_getElem h3]
  rfl
theorem newalpha (w : World) : Calls Tryz.prog 298 #[.string lit58] w fun e w' => ∃ xs, e = .returned (.pointer (some ⟨w.heap.size, 0, none⟩)) ∧ Blk w' w.heap.size 315 xs ∧ Alp xs ∧ Below w.heap.size w w' := by
  have hsz : lit58.size = 58 := by rfl
  have hz : (Tryz.zeroCells315).size = 186 := by rfl
  have ha := alp_of _ hz
  have hcp := fun ty => Lib.run_copy_row_string (P := Tryz.prog) (w.alloc (.cells Tryz.zeroCells315 315)) 22 9 ty 5 w.heap.size 128 58 58 lit58 _ 315 Tryz.underlying22 (by kernel_rfl) (heap_alloc_new _ _) (by rw [hsz]; decide) (by rw [hsz, hz]; decide)
  rw [hsz] at hcp
  obtain ⟨X, hX⟩ : ∃ X, X = ((Tryz.zeroCells315).toList.take 128 ++ Lib.byteCells lit58.data.toList ++ (Tryz.zeroCells315).toList.drop (128 + 58)).toArray := ⟨_, rfl⟩
  rw [← hX] at ha hcp
  simp only [alloc_setRow] at hcp
  have HA := Lib.hid ha
  clear ha hX hz
  generalize hL : lit58 = L at *
  go_enter Tryz.func298, Tryz.ntmps298
  go_wp2_with fail
  go_loopw [18] (fun i wr => ∃ (k : Nat) (xs : Array Value), k ≤ 128 ∧ i = .int .i64 k ∧ Blk wr w.heap.size 315 xs ∧ Alp xs ∧ Below w.heap.size w wr) (fun i _ => 128 - (intOf i).toNat)
  case atStart => exact ⟨0, X, by omega, rfl, Blk.new _ _ _, HA.out, (Below.refl _ w).alloc (Nat.le_refl _) _⟩
  case round =>
    obtain ⟨k, xs, hk, rfl, hblk, halp, hb⟩ := hrel
    have HK := Lib.hid hblk
    have HA := Lib.hid halp
    have HB := Lib.hid hb
    clear hb hblk halp
    by_cases hlt : k < 128
    · have c0 : wr.cell? ⟨w.heap.size, k, none⟩ = some (xs[k]'(by rw [HA.out.size]; omega)) := by rw [HK.out.cell k]; exact Array.getElem?_eq_getElem _
      have f0 := HK.out.frozen k
      go_wp2_with fail
      go_roundw
      case rel => exact ⟨k + 1, _, by omega, by go_num, HK.out.set_ k _, HA.out.set k hlt _, HB.out.setCell (p := ⟨w.heap.size, k, none⟩) (Nat.le_refl _) _⟩
      case measure => simp [intOf]; omega
    · have hld := load_enc (P := Tryz.prog) wr w.heap.size _ xs HK.out HA.out.size
      have hlv : (loadVar 313 ⟨w.heap.size, 128, none⟩).run Tryz.prog wr = .ok (.agg (xs.toList.drop 128).toArray) wr := by
        have a1 : (isAgg 313).run Tryz.prog wr = .ok true wr := by kernel_rfl
        have a2 : (sizeOf 313).run Tryz.prog wr = .ok 58 wr := by kernel_rfl
        simp only [loadVar, Sem.run_bind, a1, Result.andThen_ok, if_true, a2, loadCells, hld, Sem.run_pure]
      have hla : (Instr.loadAt 313 (.pointer (some ⟨w.heap.size, 128, none⟩))).run Tryz.prog wr = .ok (.agg (xs.toList.drop 128).toArray) wr := by
        simp only [Instr.loadAt, Instr.sureAddr, Sem.run_bind, Sem.run_pure, Result.andThen]
        exact hlv
      have hys := fun k hk => enc_at HA.out k hk
      have hysz : (xs.toList.drop 128).toArray.size = 58 := by simp [HA.out.size]
      generalize (xs.toList.drop 128).toArray = ys at *
      have HY := Lib.hid hys
      have HLA := Lib.hid hla
      clear hys hld hlv hla
      go_wp2_with (refine step_load rfl (.tmp 29) 313 rfl _ _ rfl HLA.out ?_)
      go_loopw [31] (fun i wr => ∃ (k : Nat) (xs : Array Value), k ≤ 58 ∧ i = .int .i64 k ∧ Blk wr w.heap.size 315 xs ∧ Alp xs ∧ Below w.heap.size w wr) (fun i _ => 58 - (intOf i).toNat)
      case atStart => exact ⟨0, xs, by omega, rfl, HK.out, HA.out, HB.out⟩
      case round =>
        obtain ⟨k, xs, hk, rfl, hblk, halp, hb⟩ := hrel
        have HK := Lib.hid hblk
        have HA := Lib.hid halp
        have HB := Lib.hid hb
        clear hb hblk halp
        by_cases hlt : k < 58
        · obtain ⟨u, hu, hyk⟩ := HY.out k hlt
          have c0 : wr.cell? ⟨w.heap.size, u.toNat, none⟩ = some (xs[u.toNat]'(by rw [HA.out.size]; omega)) := by rw [HK.out.cell u.toNat]; exact Array.getElem?_eq_getElem _
          have f0 := HK.out.frozen u.toNat
          have hix := idx58 ys k hlt _ hyk
          clear hyk
          go_wp2_with fail
          exact ⟨⟨k + 1, _, by omega, by go_num, HK.out.set_ u.toNat _, HA.out.set u.toNat hu _, HB.out.setCell (p := ⟨w.heap.size, u.toNat, none⟩) (Nat.le_refl _) _⟩, by simp [intOf]; omega⟩
        · go_wp2_with fail
          go_ret
          exact ⟨xs, rfl, HK.out, HA.out, HB.out⟩
end Go.Proofs.YtghddiboggdhcaaGreatDoor
/- Base58 of bytes: there is a text. -/
namespace Go.Proofs.YtghddiboggdhcaaGreatDoor
open Go.RowKit
attribute [local go_sem ↓] Go.wp_at_zero Go.wp_at_succ
def dval (D : Nat → Nat) : Nat → Nat
  | 0 => 0
  | m + 1 => dval D m + D m * 58 ^ m
theorem dval_congr {D E : Nat → Nat} (m : Nat) (h : ∀ k, k < m → D k = E k) : dval D m = dval E m := by
  induction m with
  | zero => rfl
  | succ m ih => rw [dval, dval, ih (fun k hk => h k (by omega)), h m (by omega)]
theorem dval_zero {D : Nat → Nat} (a : Nat) : ∀ m, a ≤ m → (∀ k, a ≤ k → k < m → D k = 0) → dval D m = dval D a := by
  intro m hm h
  induction m with
  | zero => have : a = 0 := by omega
            rw [this]
  | succ m ih =>
    by_cases e : a = m + 1
    · rw [e]
    · rw [dval, ih (by omega) (fun k h1 h2 => h k h1 (by omega)), h m (by omega) (by omega)]
      omega
theorem digits_suffice (m : Nat) (hm : m ≤ 44) : 256 ^ m ≤ 58 ^ (m * 138 / 100 + 1) := by
  have h : ∀ m : Fin 45, 256 ^ m.val ≤ 58 ^ (m.val * 138 / 100 + 1) := by decide
  exact h ⟨m, by omega⟩
def setD (D : Nat → Nat) (i v : Nat) : Nat → Nat := fun k => if k = i then v else D k
theorem carry_step (D0 D : Nat → Nat) (t c x : Nat) (h : dval D t + c * 58 ^ t = x + 256 * dval D0 t) :
    dval (setD D t ((c + 256 * D0 t) % 58)) (t + 1) + (c + 256 * D0 t) / 58 * 58 ^ (t + 1) = x + 256 * dval D0 (t + 1) := by
  have h1 : dval (setD D t ((c + 256 * D0 t) % 58)) t = dval D t := dval_congr t (fun k hk => by unfold setD; rw [if_neg (by omega)])
  have h2 : setD D t ((c + 256 * D0 t) % 58) t = (c + 256 * D0 t) % 58 := by unfold setD; rw [if_pos rfl]
  rw [dval, dval, h1, h2]
  have e := Nat.div_add_mod (c + 256 * D0 t) 58
  generalize hq : (c + 256 * D0 t) / 58 = q at *
  generalize hr : (c + 256 * D0 t) % 58 = r at *
  have hp : (58 : Nat) ^ (t + 1) = 58 * 58 ^ t := by rw [Nat.pow_succ, Nat.mul_comm]
  rw [hp]
  generalize 58 ^ t = p at *
  have e2 : r * p + q * (58 * p) = (c + 256 * D0 t) * p := by
    rw [← e, Nat.add_mul, Nat.mul_assoc 58 q p, Nat.mul_left_comm 58 q p]
    omega
  have e3 : (c + 256 * D0 t) * p = c * p + 256 * (D0 t * p) := by rw [Nat.add_mul, Nat.mul_assoc]
  rw [Nat.mul_add]
  omega
structure Buf (w : World) (b S Z : Nat) (D : Nat → Nat) : Prop where
  blk : ∃ ys, Blk w b 5 ys ∧ ys.size = S * 2 + Z
  lo : ∀ j, j < S + Z → ∃ u : UInt8, w.cell? ⟨b, j, none⟩ = some (.int .u8 u.toNat)
  hi : ∀ e, e < S → w.cell? ⟨b, S + Z + e, none⟩ = some (.int .u8 (D (S - 1 - e)))
  dig : ∀ k, D k < 58
theorem Buf.frozen {w : World} {b S Z : Nat} {D : Nat → Nat} (h : Buf w b S Z D) (i : Nat) : w.frozen? ⟨b, i, none⟩ = false := by
  obtain ⟨ys, hb, _⟩ := h.blk
  exact hb.frozen i
theorem blk_set_cell {w : World} {b : Nat} {t : TypeId} {ys : Array Value} (h : Blk w b t ys) (i j : Nat) (v : Value) (hij : j ≠ i) : (w.setCell ⟨b, i, none⟩ v).cell? ⟨b, j, none⟩ = w.cell? ⟨b, j, none⟩ := by
  rw [(h.set_ i v).cell j, h.cell j, Array.getElem?_setIfInBounds_ne (by omega)]
theorem blk_set_same {w : World} {b : Nat} {t : TypeId} {ys : Array Value} (h : Blk w b t ys) (i : Nat) (v : Value) (hi : i < ys.size) : (w.setCell ⟨b, i, none⟩ v).cell? ⟨b, i, none⟩ = some v := by
  rw [(h.set_ i v).cell i, Array.getElem?_setIfInBounds_self_of_lt hi]
theorem Buf.set {w : World} {b S Z : Nat} {D : Nat → Nat} (h : Buf w b S Z D) (t e : Nat) (he : e = S - 1 - t) (ht : t < S) (v : Nat) (hv : v < 58) : Buf (w.setCell ⟨b, S + Z + e, none⟩ (.int .u8 v)) b S Z (setD D t v) := by
  obtain ⟨ys, hb, hs⟩ := h.blk
  refine ⟨⟨_, hb.set_ _ _, by simp [hs]⟩, fun j hj => ?_, fun e' he' => ?_, fun k => ?_⟩
  · rw [blk_set_cell hb _ _ _ (by omega)]
    exact h.lo j hj
  · by_cases h1 : e' = e
    · rw [h1, blk_set_same hb _ _ (by omega)]
      unfold setD
      rw [if_pos (by omega)]
    · rw [blk_set_cell hb _ _ _ (by omega), h.hi e' he']
      unfold setD
      rw [if_neg (by omega)]
  · unfold setD
    split
    · exact hv
    · exact h.dig k
theorem Buf.put {w : World} {b S Z : Nat} {D : Nat → Nat} (h : Buf w b S Z D) (j : Nat) (hj : j < S + Z) (u : UInt8) : Buf (w.setCell ⟨b, j, none⟩ (.int .u8 u.toNat)) b S Z D := by
  obtain ⟨ys, hb, hs⟩ := h.blk
  refine ⟨⟨_, hb.set_ _ _, by simp [hs]⟩, fun j' hj' => ?_, fun e' he' => ?_, h.dig⟩
  · by_cases h1 : j' = j
    · rw [h1, blk_set_same hb _ _ (by omega)]
      exact ⟨u, rfl⟩
    · rw [blk_set_cell hb _ _ _ h1]
      exact h.lo j' hj'
  · rw [blk_set_cell hb _ _ _ (by omega)]
    exact h.hi e' he'
theorem Buf.new (w : World) (S Z : Nat) : Buf (w.alloc (.cells (madeCells (Value.int .u8 0).cells ((S * 2 + Z) * 1)) 5)) w.heap.size S Z (fun _ => 0) := by
  have hb := Blk.new w 5 (madeCells (Value.int .u8 0).cells ((S * 2 + Z) * 1))
  have hs : (madeCells (Value.int .u8 0).cells ((S * 2 + Z) * 1)).size = S * 2 + Z := by rw [size_madeCells]; omega
  have hc : ∀ j, j < S * 2 + Z → (madeCells (Value.int .u8 0).cells ((S * 2 + Z) * 1))[j]? = some (.int .u8 0) := fun j hj => by
    show ((Array.range ((S * 2 + Z) * 1)).map (fun i => (#[Value.int .u8 0] : Array Value)[i % 1]!))[j]? = _
    rw [Array.getElem?_map, Array.getElem?_range, if_pos (by omega)]
    simp [Nat.mod_one]
  exact ⟨⟨_, hb, hs⟩, fun j hj => ⟨0, by rw [hb.cell, hc j (by omega)]; rfl⟩, fun e he => by rw [hb.cell, hc _ (by omega)]; rfl, fun _ => by decide⟩
theorem Buf.drew {w : World} {b S Z : Nat} {D : Nat → Nat} (h : Buf w b S Z D) : Buf w.drew b S Z D := ⟨h.blk, h.lo, h.hi, h.dig⟩
theorem conv_buf {w : World} {b S Z : Nat} {D : Nat → Nat} (h : Buf w b S Z D) (L N : Nat) (hL : L ≤ S + Z) : ∃ s : ByteArray, s.size = L ∧ (convert 22 9 (.slice (some ⟨b, 0, none⟩) L N)).run Tryz.prog w = .ok (.string s) w := by
  have hf : ∃ f : Nat → UInt8, ∀ j, j < S + Z → w.cell? ⟨b, j, none⟩ = some (.int .u8 (f j).toNat) :=
    ⟨fun j => if hj : j < S + Z then Classical.choose (h.lo j hj) else 0, fun j hj => by
      simp only [dif_pos hj]
      exact Classical.choose_spec (h.lo j hj)⟩
  obtain ⟨f, hf⟩ := hf
  have hl : ((List.range L).map f).length = L := by simp
  refine ⟨⟨((List.range L).map f).toArray⟩, by simp [ByteArray.size], ?_⟩
  have := run_convert_bytes_back (P := Tryz.prog) w 22 9 5 ⟨b, 0, none⟩ N ((List.range L).map f) Tryz.underlying22 Tryz.underlying5 Tryz.underlying9 (fun j hj => by
    rw [hl] at hj
    have hadd : (⟨b, 0, none⟩ : Addr).add j = ⟨b, j, none⟩ := by unfold Addr.add; split <;> simp_all
    rw [hadd, hf j (by omega)]
    simp)
  rw [hl] at this
  exact this
end Go.Proofs.YtghddiboggdhcaaGreatDoor
