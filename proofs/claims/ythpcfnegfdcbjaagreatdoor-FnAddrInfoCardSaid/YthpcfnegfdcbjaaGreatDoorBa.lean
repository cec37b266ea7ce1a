/- The alphabet of base58, letter by letter, both ways. -/
import Derived.Test.YthpcfnegfdcbjaaGreatDoorPh
namespace Go.Proofs.YthpcfnegfdcbjaaGreatDoor
open Go.RowKit
attribute [local go_sem ↓] Go.wp_at_zero Go.wp_at_succ
/-- The k-th letter. -/
def letter (k : Nat) : UInt8 := lit58.data.toList.getD k 0
theorem letter_small (k : Nat) (hk : k < 58) : (letter k).toNat < 128 := by
  have h : ∀ k : Fin 58, (letter k.val).toNat < 128 := by decide
  exact h ⟨k, hk⟩
theorem letter_inj (a b : Nat) (ha : a < 58) (hb : b < 58) (h : letter a = letter b) : a = b := by
  have hn : lit58.data.toList.Nodup := by decide
  have hl : lit58.data.toList.length = 58 := by rfl
  unfold letter at h
  simp only [List.getD, List.getElem?_eq_getElem (show a < lit58.data.toList.length by omega), List.getElem?_eq_getElem (show b < lit58.data.toList.length by omega), Option.getD_some] at h
  exact (List.getElem_inj hn).1 h
/-- The cells of the alphabet; the way back is laid for the first k letters. -/
structure AlpX (xs : Array Value) (k : Nat) : Prop where
  size : xs.size = 186
  enc : ∀ j, j < 58 → xs[128 + j]? = some (.int .u8 (letter j).toNat)
  dec : ∀ j, j < k → j < 58 → xs[(letter j).toNat]? = some (.int .i8 j)
theorem AlpX.alp {xs : Array Value} {k : Nat} (h : AlpX xs k) : Alp xs := ⟨h.size, fun j hj => ⟨letter j, letter_small j hj, h.enc j hj⟩⟩
theorem AlpX.set0 {xs : Array Value} (h : AlpX xs 0) (i : Nat) (hi : i < 128) (v : Value) : AlpX (xs.setIfInBounds i v) 0 :=
  ⟨by simp [h.size], fun j hj => by rw [Array.getElem?_setIfInBounds_ne (by omega)]; exact h.enc j hj, fun j hj => absurd hj (by omega)⟩
theorem AlpX.set1 {xs : Array Value} {k : Nat} (h : AlpX xs k) (hk : k < 58) : AlpX (xs.setIfInBounds (letter k).toNat (.int .i8 k)) (k + 1) := by
  have hs := letter_small k hk
  refine ⟨by simp [h.size], fun j hj => by rw [Array.getElem?_setIfInBounds_ne (by omega)]; exact h.enc j hj, fun j hj h58 => ?_⟩
  by_cases e : j = k
  · subst e
    rw [Array.getElem?_setIfInBounds_self_of_lt (by rw [h.size]; omega)]
  · rw [Array.getElem?_setIfInBounds_ne (fun e2 => e (letter_inj j k h58 hk (UInt8.toNat_inj.1 e2.symm)))]
    exact h.dec j (by omega) h58
theorem alpx_of (zs : Array Value) (hz : zs.size = 186) : AlpX (zs.toList.take 128 ++ Lib.byteCells lit58.data.toList ++ zs.toList.drop (128 + 58)).toArray 0 := by
  have h1 : (zs.toList.take 128).length = 128 := by simp [hz]
  have h2 : (Lib.byteCells lit58.data.toList).length = 58 := by rfl
  refine ⟨by simp only [List.size_toArray, List.length_append, h1, h2, List.length_drop, Array.length_toList, hz], fun k hk => ?_, fun j hj => absurd hj (by omega)⟩
  have h3 : k < lit58.data.toList.length := hk
  rw [List.getElem?_toArray, List.getElem?_append_left (by rw [List.length_append, h1, h2]; omega), List.getElem?_append_right (by omega), h1, Nat.add_sub_cancel_left]
  unfold Lib.byteCells letter
  rw [List.getElem?_map, List.getElem?_eq_getElem h3]
  simp [List.getD, List.getElem?_eq_getElem h3]
theorem encx_at {xs : Array Value} (h : AlpX xs 0) (k : Nat) (hk : k < 58) : (xs.toList.drop 128).toArray[k]? = some (.int .u8 (letter k).toNat) := by
  simpa using h.enc k hk
set_option maxHeartbeats 2000000 in
set_option maxRecDepth 100000 in
theorem newalpha_x (w : World) : Calls Tryz.prog 333 #[.string lit58] w fun e w' => ∃ xs, e = .returned (.pointer (some ⟨w.heap.size, 0, none⟩)) ∧ Blk w' w.heap.size 337 xs ∧ AlpX xs 58 ∧ Below w.heap.size w w' := by
  have hsz : lit58.size = 58 := by rfl
  have hz : (Tryz.zeroCells337).size = 186 := by rfl
  have ha := alpx_of _ hz
  have hcp := fun ty => Lib.run_copy_row_string (P := Tryz.prog) (w.alloc (.cells Tryz.zeroCells337 337)) 26 9 ty 5 w.heap.size 128 58 58 lit58 _ 337 Tryz.underlying26 (by kernel_rfl) (heap_alloc_new _ _) (by rw [hsz]; decide) (by rw [hsz, hz]; decide)
  rw [hsz] at hcp
  obtain ⟨X, hX⟩ : ∃ X, X = ((Tryz.zeroCells337).toList.take 128 ++ Lib.byteCells lit58.data.toList ++ (Tryz.zeroCells337).toList.drop (128 + 58)).toArray := ⟨_, rfl⟩
  rw [← hX] at ha hcp
  simp only [alloc_setRow] at hcp
  have HA := Lib.hid ha
  clear ha hX hz
  generalize hL : lit58 = L at *
  go_enter Tryz.func333, Tryz.ntmps333
  go_wp2_with fail
  go_loopw [18] (fun i wr => ∃ (k : Nat) (xs : Array Value), k ≤ 128 ∧ i = .int .i64 k ∧ Blk wr w.heap.size 337 xs ∧ AlpX xs 0 ∧ Below w.heap.size w wr) (fun i _ => 128 - (intOf i).toNat)
  case atStart => exact ⟨0, X, by omega, rfl, Blk.new _ _ _, HA.out, (Below.refl _ w).alloc (Nat.le_refl _) _⟩
  case round =>
    obtain ⟨k, xs, hk, rfl, hblk, halp, hb⟩ := hrel
    have HK := Lib.hid hblk
    have HA := Lib.hid halp
    have HB := Lib.hid hb
    clear hb hblk halp
    by_cases hlt : k < 128
    · have c0 : wr.cell? ⟨w.heap.size, k, none⟩ = some (xs[k]'(by rw [HA.out.size]; omega)) := by rw [HK.out.cell k]; exact Array.getElem?_eq_getElem _
      have f0 := HK.out.frozen k
      go_wp2_with fail
      go_roundw
      case rel => exact ⟨k + 1, _, by omega, by go_num, HK.out.set_ k _, HA.out.set0 k hlt _, HB.out.setCell (p := ⟨w.heap.size, k, none⟩) (Nat.le_refl _) _⟩
      case measure => simp [intOf]; omega
    · have hld := load_enc (P := Tryz.prog) wr w.heap.size _ xs HK.out HA.out.size
      have hlv : (loadVar 335 ⟨w.heap.size, 128, none⟩).run Tryz.prog wr = .ok (.agg (xs.toList.drop 128).toArray) wr := by
        have a1 : (isAgg 335).run Tryz.prog wr = .ok true wr := by kernel_rfl
        have a2 : (sizeOf 335).run Tryz.prog wr = .ok 58 wr := by kernel_rfl
        simp only [loadVar, Sem.run_bind, a1, Result.andThen_ok, if_true, a2, loadCells, hld, Sem.run_pure]
      have hla : (Instr.loadAt 335 (.pointer (some ⟨w.heap.size, 128, none⟩))).run Tryz.prog wr = .ok (.agg (xs.toList.drop 128).toArray) wr := by
        simp only [Instr.loadAt, Instr.sureAddr, Sem.run_bind, Sem.run_pure, Result.andThen]
        exact hlv
      have hys := fun k hk => encx_at HA.out k hk
      have hysz : (xs.toList.drop 128).toArray.size = 58 := by simp [HA.out.size]
      generalize (xs.toList.drop 128).toArray = ys at *
      have HY := Lib.hid hys
      have HLA := Lib.hid hla
      clear hys hld hlv hla
      go_wp2_with (refine step_load rfl (.tmp 29) 335 rfl _ _ rfl HLA.out ?_)
      go_loopw [31] (fun i wr => ∃ (k : Nat) (xs : Array Value), k ≤ 58 ∧ i = .int .i64 k ∧ Blk wr w.heap.size 337 xs ∧ AlpX xs k ∧ Below w.heap.size w wr) (fun i _ => 58 - (intOf i).toNat)
      case atStart => exact ⟨0, xs, by omega, rfl, HK.out, HA.out, HB.out⟩
      case round =>
        obtain ⟨k, xs, hk, rfl, hblk, halp, hb⟩ := hrel
        have HK := Lib.hid hblk
        have HA := Lib.hid halp
        have HB := Lib.hid hb
        clear hb hblk halp
        by_cases hlt : k < 58
        · have hyk := HY.out k hlt
          have hu := letter_small k hlt
          have hw8 : IntKind.i8.wrap (k : Int) = (k : Int) := IntWalk.i8_in _ (by omega)
          have hnx := Lib.hid (HA.out.set1 hlt)
          generalize hul : letter k = u at *
          have c0 : wr.cell? ⟨w.heap.size, u.toNat, none⟩ = some (xs[u.toNat]'(by rw [HA.out.size]; omega)) := by rw [HK.out.cell u.toNat]; exact Array.getElem?_eq_getElem _
          have f0 := HK.out.frozen u.toNat
          have hix := idx58 ys k hlt _ hyk
          clear hyk
          go_wp2_with fail
          exact ⟨⟨k + 1, _, by omega, by go_num, HK.out.set_ u.toNat _, hnx.out, HB.out.setCell (p := ⟨w.heap.size, u.toNat, none⟩) (Nat.le_refl _) _⟩, by simp [intOf]; omega⟩
        · obtain rfl : k = 58 := by omega
          go_wp2_with fail
          go_ret
          exact ⟨xs, rfl, HK.out, HA.out, HB.out⟩
set_option maxHeartbeats 2000000 in
set_option maxRecDepth 100000 in
theorem btc_x (w : World) : Calls Tryz.prog 273 #[] w fun e w' => ∃ xs, e = .returned (.pointer (some ⟨w.heap.size, 0, none⟩)) ∧ Blk w' w.heap.size 337 xs ∧ AlpX xs 58 ∧ Below w.heap.size w w' := by
  have HN := Lib.hid (newalpha_x w)
  go_enter Tryz.func273, Tryz.ntmps273
  go_wp2_with fail
  refine HN.out.mono ?_
  rintro e w1 ⟨xs, rfl, hb, ha, hbe⟩
  have H := Lib.hid (And.intro hb (And.intro ha hbe))
  clear hb ha hbe
  go_wp2_with fail
  go_ret
  exact ⟨xs, rfl, H.out.1, H.out.2.1, H.out.2.2⟩
end Go.Proofs.YthpcfnegfdcbjaaGreatDoor
