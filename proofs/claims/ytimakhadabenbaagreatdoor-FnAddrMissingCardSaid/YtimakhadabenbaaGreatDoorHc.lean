/- slices.Clone and slices.Insert at lists of parts. -/
import Derived.Test.YtimakhadabenbaaGreatDoorQm
import Derived.Test.YtimakhadabenbaaGreatDoorEr
import Derived.Shelf.Spec.SlicesInsertGrow
namespace Go.Proofs.YtimakhadabenbaaGreatDoor
open Go Go.RowKit
attribute [local go_sem ↓] Go.wp_at_zero Go.wp_at_succ
theorem hl_info : (Tryz.prog.info? 23).map (fun i => (i.zero, i.size, i.bytes)) = some (some (.slice none 0 0), 1, 24) := by kernel_rfl
def rowCells (rs : List Row) : List Value := rs.map Row.v
theorem rowCells_length (rs : List Row) : (rowCells rs).length = rs.length := by simp [rowCells]
theorem rowCells_one (rs : List Row) : ∀ u ∈ rowCells rs, u.oneCell' = true := by
  intro u hu
  simp only [rowCells, List.mem_map] at hu
  obtain ⟨t, _, rfl⟩ := hu
  rfl
/-- What an own row's block holds. -/
theorem own_cells {w : World} {base : Nat} {e : TypeId} {g n c : Nat} {xs : List Value} (h : w.ownsRow base e 1 (.slice (some ⟨g, 0, none⟩) n c) n xs) :
    base ≤ g ∧ n ≤ c ∧ c ≤ maxLen ∧ xs.length = n ∧ ∃ cur, w.heap[g]? = some (.cells cur e (0, 0)) ∧ cur.size = c := by
  obtain ⟨hl, h | ⟨g', cap, cur, hv, hbg, hh, hnc, hm, hs, _⟩⟩ := h
  · cases h.1
  · injection hv with e1 e2 e3
    injection e1 with e1
    injection e1 with e1
    subst e1 e3
    exact ⟨hbg, hnc, hm, by omega, cur, hh, by omega⟩
set_option maxRecDepth 100000 in
set_option maxHeartbeats 4000000 in
theorem insert_shift {base : Nat} (g n c i vb : Nat) (x : Value) (xs : List Value) (w : World) (ho : w.ownsRow base 23 1 (.slice (some ⟨g, 0, none⟩) n c) n xs) (hb : Blk w vb 23 #[x]) (hne : vb ≠ g) (hi : i < n) (hc : n + 1 ≤ c)
    (h1 : ∀ u ∈ xs, u.oneCell' = true) (hx : x.oneCell' = true) :
    Calls Tryz.prog 10 #[.slice (some ⟨g, 0, none⟩) n c, .int .i64 i, .slice (some ⟨vb, 0, none⟩) 1 1] w fun e w' =>
      e = .returned (.slice (some ⟨g, 0, none⟩) (n + 1) c) ∧ w' = (w.drew.setCells g (i + 1) (xs.drop i)).setCells g i [x] := by
  obtain ⟨hbg, hnc, hcm, hxl, cur, hh, hcs⟩ := own_cells ho
  have hcell : ∀ j, j < n → w.cell? ⟨g, j, none⟩ = xs[j]? := fun j hj => ho.cellAt j (by omega)
  have hfr : ∀ j, w.frozen? ⟨g, j, none⟩ = false := fun j => ho.frozenAt j
  have hsp : ∀ j, j < n + 1 → (w.cell? ⟨g, j, none⟩).isSome = true := fun j hj => by
    simp [World.cell?, hh]
    omega
  have hsz : (Tryz.prog.info? 23).map (·.size) = some 1 := by
    obtain ⟨i0, hi0, h0, h1, h2⟩ := info_parts hl_info
    rw [hi0]; simp [h1]
  have hsa : w.shape? vb = some (23, 1) := by
    unfold Blk at hb
    simp [World.shape?, hb]
  have hsb : w.shape? g = some (23, c) := by simp [World.shape?, hh, hcs]
  have hov : ∀ lb cb, (callFunc 22 #[.slice (some ⟨vb, 0, none⟩) 1 1, .slice (some ⟨g, i + 1, none⟩) lb cb]).run Tryz.prog w = .ok (.value (.bool false)) w := fun lb cb => by
    rw [run_callFunc_extern Tryz.func22 (by kernel_rfl) (by kernel_rfl) (by kernel_rfl) (e := Extern.SlicesOverlaps.overlaps #[22, 22] #[4]) (by kernel_rfl),
      Lib.run_overlaps_apart w 22 4 23 Tryz.underlying22 1 (fun _ => by kernel_rfl) ⟨vb, 0, none⟩ ⟨g, i + 1, none⟩ 1 1 lb cb hne 23 23 1 c hsa hsb (by omega) (hb.frozen 0) (hb.frozen 1)]
    rfl
  have hdl : (xs.drop i).length = n - i := by rw [List.length_drop, hxl]
  have hcp1 : ∀ ty dc sc, (Builtin.copy_ #[22, 22] ty #[.slice (some ⟨g, i + 1, none⟩) (n - i) dc, .slice (some ⟨g, i, none⟩) (n + 1 - i) sc]).run Tryz.prog w.drew = .ok (goInt (xs.drop i).length) (w.drew.setCells g (i + 1) (xs.drop i)) := fun ty dc sc =>
    run_copy_cells w.drew _ _ ty 23 g (i + 1) (n - i) dc ⟨g, i, none⟩ (n + 1 - i) sc (xs.drop i) Tryz.underlying22 hsz (by rw [hdl]; simp only [Nat.min_def]; split <;> omega)
      (fun j v hj => by
        rw [List.getElem?_drop] at hj
        have hlt := (List.getElem?_eq_some_iff.1 hj).1
        rw [Addr.add_lit]
        exact (hcell (i + j) (by omega)).trans hj)
      (fun j hj => hsp _ (by rw [hdl] at hj; omega)) (fun j hj => hfr _) (fun v hv => h1 v (List.mem_of_mem_drop hv))
  obtain ⟨W1, hW1⟩ : ∃ W1, W1 = w.drew.setCells g (i + 1) (xs.drop i) := ⟨_, rfl⟩
  have hsp1 : ∀ k, k < n + 1 → (W1.cell? ⟨g, k, none⟩).isSome = true := fun k hk => by
    rw [hW1]
    exact isSome_setCells g _ _ w.drew (fun j hj => hsp (i + 1 + j) (by have hj2 : j < (xs.drop i).length := hj; rw [hdl] at hj2; omega)) _ (hsp k hk)
  have hcp2 : ∀ (W : World), (∀ a, W.cell? a = W1.cell? a) → (∀ a, W.frozen? a = W1.frozen? a) → ∀ ty dc, (Builtin.copy_ #[22, 22] ty #[.slice (some ⟨g, i, none⟩) (n + 1 - i) dc, .slice (some ⟨vb, 0, none⟩) 1 1]).run Tryz.prog W = .ok (goInt [x].length) (W.setCells g i [x]) := fun W hWc hWf ty dc =>
    run_copy_cells W _ _ ty 23 g i (n + 1 - i) dc ⟨vb, 0, none⟩ 1 1 [x] Tryz.underlying22 hsz (by simp only [List.length_singleton, Nat.min_def]; split <;> omega)
      (fun j v hj => by
        obtain rfl : j = 0 := by have := (List.getElem?_eq_some_iff.1 hj).1; simp at this; omega
        rw [Addr.add_lit, hWc, hW1, World.cell?_setCells_out g _ _ _ _ (fun h _ => absurd h hne)]
        exact (hb.cell 0).trans hj)
      (fun j hj => by rw [hWc]; exact hsp1 _ (by simp at hj; omega)) (fun j hj => by rw [hWf, hW1, World.frozen?_setCells]; exact hfr _) (fun v hv => by simp at hv; rw [hv]; exact hx)
  rw [← hW1] at hcp1 ⊢
  have hw1 : IntKind.i64.wrap ((i : Int) + 1) = (i : Int) + 1 := by unfold maxLen at hcm; rw [IntKind.wrap_i64]; omega
  have hw2 : IntKind.i64.wrap ((n : Int) + 1) = (n : Int) + 1 := by unfold maxLen at hcm; rw [IntKind.wrap_i64]; omega
  have hz2 : ¬ ((i : Int) = (n : Int)) := by omega
  have hz3 : decide ((c : Int) < (n : Int) + 1) = false := by simp; omega
  have hb1 : (0 : Int) ≤ (i : Int) + 1 := by omega
  have htn : ((i : Int) + 1).toNat = i + 1 := by omega
  have hin : i ≤ n := by omega
  have hb3 : (i : Int) ≤ (n : Int) + 1 := by omega
  have mixed : Tryz.prog.follows Departure.mixedOrders = true := by kernel_rfl
  have hb2 : ¬ (c = i + 1) := by omega
  have hb4 : ¬ (c = i) := by omega
  have hc63 : c ≤ 9223372036854775807 := by unfold maxLen at hcm; omega
  go_enter Tryz.func10, Tryz.ntmps10
  go_wp2_with (simp only [hov])
  go_region_law_o (refine step_copy_runI rfl _ _ 22 22 rfl _ _ (by simp [Act.eval, Act.put]) (by simp [Act.eval, Act.put]) (hcp1 _ _ _) ?_)
  go_wp2_with (at_builtin; refine wpList_copy_runI _ rfl _ _ 22 22 rfl _ _ rfl rfl (hcp2 _ (fun _ => rfl) (fun _ => rfl) _ _) ?_)
  go_ret
  first | exact ⟨rfl, rfl⟩ | exact ⟨rfl, by rw [hW1]⟩
set_option maxRecDepth 100000 in
set_option maxHeartbeats 4000000 in
theorem insert_grow {base : Nat} (g n c i vb : Nat) (x : Value) (xs : List Value) (w : World) (ho : w.ownsRow base 23 1 (.slice (some ⟨g, 0, none⟩) n c) n xs) (hb : Blk w vb 23 #[x]) (hi : i < n) (hc : c < n + 1) (hn : n ≤ 1000)
    (h1 : ∀ u ∈ xs, u.oneCell' = true) (hx : x.oneCell' = true) :
    Calls Tryz.prog 10 #[.slice (some ⟨g, 0, none⟩) n c, .int .i64 i, .slice (some ⟨vb, 0, none⟩) 1 1] w fun e w' =>
      ∃ (G : Nat) (ROW : Array Value), n + 1 ≤ G ∧ G ≤ maxLen ∧ n + 1 ≤ ROW.size ∧ (∀ (j : Nat) (v : Value), (xs.take i)[j]? = some v → ROW[j]? = some v) ∧ e = .returned (.slice (some ⟨w.heap.size, 0, none⟩) (n + 1) G) ∧
      w' = (((w.alloc (.cells ROW 23)).drew.setCells w.heap.size i [x]).drew).setCells w.heap.size (i + 1) (xs.drop i) := by
  obtain ⟨hbg, hnc, hcm, hxl, cur, hh, hcs⟩ := own_cells ho
  obtain ⟨i0, hi0, hz0, hzs, hzb⟩ := info_parts hl_info
  have mixed : Tryz.prog.follows Departure.mixedOrders = true := by kernel_rfl
  have hcell : ∀ j, j < n → w.cell? ⟨g, j, none⟩ = xs[j]? := fun j hj => ho.cellAt j (by omega)
  have hsz : (Tryz.prog.info? 23).map (·.size) = some 1 := by rw [hi0]; simp [hzs]
  have hgw : g < w.heap.size := (Array.getElem?_eq_some_iff.1 hh).1
  have hvw : vb < w.heap.size := hb.lt
  have hdl : (xs.drop i).length = n - i := by rw [List.length_drop, hxl]
  have hik : i + (n + 1 - i) = n + 1 := by omega
  have hkk : (n : Int) + 1 - (i : Int) = ((n + 1 - i : Nat) : Int) := by omega
  have hold : (Builtin.firstCells i0.size i (.slice (some ⟨g, 0, none⟩) i c)).run Tryz.prog w.drew = .ok (xs.take i).toArray w.drew := by
    rw [hzs]
    exact run_firstCells_some w.drew 1 i ⟨g, 0, none⟩ i c (xs.take i) (by rw [List.length_take]; omega) (fun j v hj => by
      rw [Addr.add_lit, Nat.zero_add]
      rw [List.getElem?_take] at hj
      split at hj
      · exact (hcell j (by omega)).trans hj
      · cases hj)
  have hG : grownCap w (n + 1) c 23 ≤ maxLen := grownCap_le_maxLen w (n + 1) c 23 (by unfold maxLen; omega)
  have hGn : n + 1 ≤ grownCap w (n + 1) c 23 := grownCap_ge w _ _ _
  have hrz : ∀ ty, (Builtin.append_ #[22, 3] ty #[.slice (some ⟨g, 0, none⟩) i c, .int .i64 ((n : Int) + 1 - (i : Int))]).run Tryz.prog w =
      .ok (.slice (some ⟨w.heap.size, 0, none⟩) (n + 1) (grownCap w (n + 1) c 23)) (w.drew.alloc (.cells ((xs.take i).toArray ++ Builtin.zeroCells (Value.slice none 0 0).cells (n + 1 - i) ++ Builtin.zeroCells (Value.slice none 0 0).cells (grownCap w (n + 1) c 23 - (n + 1))) 23)) := fun ty => by
    have h := Lib.run_append_grow_zeros w 22 3 ty 23 i0 _ .i64 .i64 Tryz.underlying22 Tryz.underlying3 hi0 hz0 (some ⟨g, 0, none⟩) i c (xs.take i) hold (n + 1 - i) (by omega) (by omega) (by omega) (by omega) (by rw [hzb]; omega) (by rw [hzb, hik]; exact growslice_fits (by omega) (by omega))
    rw [hik] at h
    rw [hkk]
    exact h
  generalize grownCap w (n + 1) c 23 = G at *
  obtain ⟨ROW, hROW⟩ : ∃ ROW : Array Value, ROW = (xs.take i).toArray ++ Builtin.zeroCells (Value.slice none 0 0).cells (n + 1 - i) ++ Builtin.zeroCells (Value.slice none 0 0).cells (G - (n + 1)) := ⟨_, rfl⟩
  rw [← hROW] at hrz
  have hRl : n + 1 ≤ ROW.size := by
    rw [hROW]
    simp [Builtin.zeroCells, Value.cells]
    omega
  have hRt : ∀ (j : Nat) (v : Value), (xs.take i)[j]? = some v → ROW[j]? = some v := fun j v hj => by
    rw [hROW]
    have hlt := (List.getElem?_eq_some_iff.1 hj).1
    rw [Array.getElem?_append_left (by simp at hlt ⊢; omega), Array.getElem?_append_left (by simpa using hlt)]
    simpa using hj
  obtain ⟨W1, hW1⟩ : ∃ W1, W1 = w.drew.alloc (.cells ROW 23) := ⟨_, rfl⟩
  rw [← hW1] at hrz
  have hN : ∀ j, j < n + 1 → (W1.cell? ⟨w.heap.size, j, none⟩).isSome = true := fun j hj => by
    rw [hW1, World.cell?_alloc_at (w := w.drew) ROW _ w.heap.size j rfl, Array.getElem?_eq_getElem (by omega)]; rfl
  have hNf : ∀ j, W1.frozen? ⟨w.heap.size, j, none⟩ = false := fun j => by rw [hW1]; exact World.frozen?_alloc_at (w := w.drew) ROW _ w.heap.size j rfl
  have hOg : ∀ j v, w.cell? ⟨g, j, none⟩ = some v → W1.cell? ⟨g, j, none⟩ = some v := fun j v h => by rw [hW1, World.cell?_alloc_past (w := w.drew) _ g j hgw]; exact h
  have hOv : ∀ j v, w.cell? ⟨vb, j, none⟩ = some v → W1.cell? ⟨vb, j, none⟩ = some v := fun j v h => by rw [hW1, World.cell?_alloc_past (w := w.drew) _ vb j hvw]; exact h
  have hcpA : ∀ (W : World), (∀ a, W.cell? a = W1.cell? a) → (∀ a, W.frozen? a = W1.frozen? a) → ∀ ty dc, (Builtin.copy_ #[22, 22] ty #[.slice (some ⟨w.heap.size, i, none⟩) (n + 1 - i) dc, .slice (some ⟨vb, 0, none⟩) 1 1]).run Tryz.prog W = .ok (goInt [x].length) (W.setCells w.heap.size i [x]) := fun W hWc hWf ty dc =>
    run_copy_cells W _ _ ty 23 w.heap.size i (n + 1 - i) dc ⟨vb, 0, none⟩ 1 1 [x] Tryz.underlying22 hsz (by simp only [List.length_singleton, Nat.min_def]; split <;> omega)
      (fun j v hj => by
        obtain rfl : j = 0 := by have := (List.getElem?_eq_some_iff.1 hj).1; simp at this; omega
        rw [Addr.add_lit, hWc]
        exact hOv _ v ((hb.cell 0).trans hj))
      (fun j hj => by rw [hWc]; exact hN _ (by simp at hj; omega)) (fun j hj => by rw [hWf]; exact hNf _) (fun v hv => by simp at hv; rw [hv]; exact hx)
  have hcpB : ∀ (W : World), (∀ a, W.cell? a = (W1.setCells w.heap.size i [x]).cell? a) → (∀ a, W.frozen? a = (W1.setCells w.heap.size i [x]).frozen? a) → ∀ ty dc sc, (Builtin.copy_ #[22, 22] ty #[.slice (some ⟨w.heap.size, i + 1, none⟩) (n - i) dc, .slice (some ⟨g, i, none⟩) (n - i) sc]).run Tryz.prog W = .ok (goInt (xs.drop i).length) (W.setCells w.heap.size (i + 1) (xs.drop i)) := fun W hWc hWf ty dc sc =>
    run_copy_cells W _ _ ty 23 w.heap.size (i + 1) (n - i) dc ⟨g, i, none⟩ (n - i) sc (xs.drop i) Tryz.underlying22 hsz (by rw [hdl]; simp only [Nat.min_def]; split <;> omega)
      (fun j v hj => by
        rw [List.getElem?_drop] at hj
        have hlt := (List.getElem?_eq_some_iff.1 hj).1
        rw [Addr.add_lit, hWc, World.cell?_setCells_out _ _ _ _ _ (fun h _ => absurd h (Nat.ne_of_lt hgw))]
        exact hOg _ v ((hcell (i + j) (by omega)).trans hj))
      (fun j hj => by rw [hWc]; exact isSome_setCells _ _ _ W1 (fun t ht => hN (i + t) (by simp at ht; omega)) _ (hN (i + 1 + j) (by have hj2 : j < (xs.drop i).length := hj; rw [hdl] at hj2; omega)))
      (fun j hj => by rw [hWf, World.frozen?_setCells]; exact hNf _) (fun v hv => h1 v (List.mem_of_mem_drop hv))
  subst hW1
  have hE1 : ∀ a, ((w.alloc (.cells ROW 23)).drew).cell? a = (w.drew.alloc (.cells ROW 23)).cell? a := fun a => rfl
  have hE2 : ∀ a, ((w.alloc (.cells ROW 23)).drew).frozen? a = (w.drew.alloc (.cells ROW 23)).frozen? a := fun a => rfl
  have hF1 : ∀ a, (((w.alloc (.cells ROW 23)).drew.setCells w.heap.size i [x]).drew).cell? a = ((w.drew.alloc (.cells ROW 23)).setCells w.heap.size i [x]).cell? a := fun a => rfl
  have hF2 : ∀ a, (((w.alloc (.cells ROW 23)).drew.setCells w.heap.size i [x]).drew).frozen? a = ((w.drew.alloc (.cells ROW 23)).setCells w.heap.size i [x]).frozen? a := fun a => rfl
  have hG63 : G ≤ 9223372036854775807 := by unfold maxLen at hG; omega
  have hc63 : c ≤ 9223372036854775807 := by omega
  have hz2 : ¬ ((i : Int) = (n : Int)) := by omega
  have hz3 : (c : Int) < (n : Int) + 1 := by omega
  have hw1 : IntKind.i64.wrap ((i : Int) + 1) = (i : Int) + 1 := by rw [IntKind.wrap_i64]; omega
  have hw2 : IntKind.i64.wrap ((n : Int) + 1) = (n : Int) + 1 := by rw [IntKind.wrap_i64]; omega
  have hb1 : (0 : Int) ≤ (i : Int) + 1 := by omega
  have hin : i ≤ n := by omega
  have htn : ((i : Int) + 1).toNat = i + 1 := by omega
  have hb3 : (i : Int) ≤ (n : Int) := by omega
  have hGi : ¬ (G = i) := by omega
  have hGim : ¬ (G = i + 1) := by omega
  have hci : ¬ (c = i) := by omega
  clear hkk hik hold hROW
  go_enter Tryz.func10, Tryz.ntmps10
  go_wp2_with (first
    | (at_builtin; refine Lib.wpList_append_run _ rfl _ _ _ _ rfl _ _ rfl rfl _ _ (hrz _) ?_)
    | (at_builtin; refine wpList_copy_runI _ rfl _ _ 22 22 rfl _ _ rfl rfl (hcpA _ hE1 hE2 _ _) ?_)
    | (at_builtin; refine wpList_copy_runI _ rfl _ _ 22 22 rfl _ _ rfl rfl (hcpA _ (fun _ => rfl) (fun _ => rfl) _ _) ?_))
  go_region_law_o (refine step_copy_runI rfl _ _ 22 22 rfl (.slice (some ⟨w.heap.size, i + 1, none⟩) (n - i) (G - (i + 1))) (.slice (some ⟨g, i, none⟩) (n - i) (c - i)) (by simp [Act.eval, Act.put]) (by simp [Act.eval, Act.put]) (hcpB _ hF1 hF2 3 (G - (i + 1)) (c - i)) ?_)
  go_wp2
  go_ret
  exact ⟨G, ROW, hGn, hG, hRl, hRt, rfl, rfl⟩
theorem below_sc {B b : Nat} {a : World} (hb : B ≤ b) : ∀ (vs : List Value) (o : Nat) (w : World), Below B a w → Below B a (w.setCells b o vs)
  | [], _, _, h => h
  | v :: r, o, _w, h => below_sc hb r (o + 1) _ (h.setCell (p := ⟨b, o, none⟩) hb v)
/-- What stands in a row behind the two copies. -/
theorem put_read (W : World) (g i : Nat) (T D : List Value) (x : Value) (hT : T.length = i) (h0 : ∀ j v, T[j]? = some v → W.cell? ⟨g, j, none⟩ = some v) (h1 : W.cell? ⟨g, i, none⟩ = some x) (h2 : ∀ j v, D[j]? = some v → W.cell? ⟨g, i + 1 + j, none⟩ = some v) :
    ∀ j u, (T ++ x :: D)[j]? = some u → W.cell? ⟨g, j, none⟩ = some u := by
  intro j u hu
  rcases Nat.lt_trichotomy j i with h | h | h
  · rw [List.getElem?_append_left (by omega)] at hu
    exact h0 j u hu
  · subst h
    rw [List.getElem?_append_right (by omega), hT, Nat.sub_self] at hu
    injection hu with hu
    rw [← hu]; exact h1
  · rw [List.getElem?_append_right (by omega), hT, show j - i = (j - (i + 1)) + 1 by omega, List.getElem?_cons_succ] at hu
    have := h2 (j - (i + 1)) u hu
    rwa [show i + 1 + (j - (i + 1)) = j by omega] at this
theorem sc_shift (W : World) (g i : Nat) (T D : List Value) (x : Value) (hs : ∀ j, j < i + 1 + D.length → (W.cell? ⟨g, j, none⟩).isSome = true) (hT : T.length = i) (h0 : ∀ j v, T[j]? = some v → W.cell? ⟨g, j, none⟩ = some v) :
    ∀ j u, (T ++ x :: D)[j]? = some u → ((W.setCells g (i + 1) D).setCells g i [x]).cell? ⟨g, j, none⟩ = some u := by
  have hin := World.cell?_setCells_in g D (i + 1) W (fun j hj => hs _ (by omega))
  refine put_read _ g i T D x hT (fun j v hv => ?_) ?_ (fun j v hv => ?_)
  · have hlt := (List.getElem?_eq_some_iff.1 hv).1
    rw [World.cell?_setCells_out g _ _ _ ⟨g, j, none⟩ (fun _ _ => by show j < i ∨ i + [x].length ≤ j; omega), World.cell?_setCells_out g _ _ _ ⟨g, j, none⟩ (fun _ _ => by show j < i + 1 ∨ i + 1 + D.length ≤ j; omega)]
    exact h0 j v hv
  · exact World.cell?_setCells_in g [x] i _ (fun j hj => isSome_setCells g _ _ W (fun t ht => hs _ (by omega)) _ (hs _ (by simp at hj; omega))) 0 (by simp)
  · have hlt := (List.getElem?_eq_some_iff.1 hv).1
    rw [World.cell?_setCells_out g _ _ _ ⟨g, i + 1 + j, none⟩ (fun _ _ => by show i + 1 + j < i ∨ i + [x].length ≤ i + 1 + j; simp)]
    rw [hin j hlt, ← hv, List.getElem?_eq_getElem hlt]
theorem sc_grow (W W' : World) (g i : Nat) (T D : List Value) (x : Value) (hs : ∀ j, j < i + 1 + D.length → (W.cell? ⟨g, j, none⟩).isSome = true) (hT : T.length = i) (h0 : ∀ j v, T[j]? = some v → W.cell? ⟨g, j, none⟩ = some v) (hW : ∀ a, W'.cell? a = (W.setCells g i [x]).cell? a) :
    ∀ j u, (T ++ x :: D)[j]? = some u → (W'.setCells g (i + 1) D).cell? ⟨g, j, none⟩ = some u := by
  have hsx : ∀ j, j < i + 1 + D.length → ((W.setCells g i [x]).cell? ⟨g, j, none⟩).isSome = true := fun j hj => isSome_setCells g _ _ W (fun t ht => hs _ (by simp at ht; omega)) _ (hs _ hj)
  have hin := World.cell?_setCells_in g D (i + 1) W' (fun j hj => by rw [hW]; exact hsx _ (by omega))
  refine put_read _ g i T D x hT (fun j v hv => ?_) ?_ (fun j v hv => ?_)
  · have hlt := (List.getElem?_eq_some_iff.1 hv).1
    rw [World.cell?_setCells_out g _ _ _ ⟨g, j, none⟩ (fun _ _ => by show j < i + 1 ∨ i + 1 + D.length ≤ j; omega), hW, World.cell?_setCells_out g _ _ _ ⟨g, j, none⟩ (fun _ _ => by show j < i ∨ i + [x].length ≤ j; omega)]
    exact h0 j v hv
  · rw [World.cell?_setCells_out g _ _ _ ⟨g, i, none⟩ (fun _ _ => by show i < i + 1 ∨ i + 1 + D.length ≤ i; omega), hW]
    exact World.cell?_setCells_in g [x] i _ (fun j hj => hs _ (by simp at hj; omega)) 0 (by simp)
  · have hlt := (List.getElem?_eq_some_iff.1 hv).1
    rw [hin j hlt, ← hv, List.getElem?_eq_getElem hlt]
/-- A row in memory of the call's own, read. -/
def OutIns (base n : Nat) (l : List Value) (w : World) (e : Ending) (w' : World) : Prop :=
  ∃ b c, e = .returned (.slice (some ⟨b, 0, none⟩) n c) ∧ n ≤ c ∧ c ≤ maxLen ∧ b < w'.heap.size ∧ (∀ j u, l[j]? = some u → w'.cell? ⟨b, j, none⟩ = some u) ∧ Below base w w'
set_option maxRecDepth 100000 in
set_option maxHeartbeats 4000000 in
theorem out_ins {base n c : Nat} {A : Option Addr} {xs l : List Value} {x v' : Value} {w w' : World} (h : w'.ownsRow base 23 1 v' (n + 1) (xs ++ [x])) (hg : w.grownBy w' (Value.slice A n c).ownBlock) (ho : w.ownsRow base 23 1 (.slice A n c) n xs) (hb : base ≤ w.heap.size) (hl : l = xs ++ [x]) :
    OutIns base (n + 1) l w (.returned v') w' := by
  have hB := (Below.refl base w).grown hg hb (fun k hk => (ho.lt k hk).1)
  obtain ⟨A', c', rfl⟩ := own_slice h
  rcases A' with _ | ad
  · exfalso
    rcases h.2 with ⟨hv, h0⟩ | ⟨g, cap, cur, hv, _⟩
    · omega
    · cases hv
  obtain ⟨g, rfl⟩ : ∃ g, ad = ⟨g, 0, none⟩ := by
    rcases h.2 with ⟨hv, h0⟩ | ⟨g, cap, cur, hv, _⟩
    · cases hv
    · injection hv with e1
      injection e1 with e1
      exact ⟨g, e1⟩
  obtain ⟨hbg, hnc, hcm, hxl, cur, hh, hcs⟩ := own_cells h
  exact ⟨g, c', rfl, hnc, hcm, (Array.getElem?_eq_some_iff.1 hh).1, fun j u hu => by rw [hl] at hu; exact (h.cellAt j (by have := (List.getElem?_eq_some_iff.1 hu).1; omega)).trans hu, hB⟩
set_option maxRecDepth 100000 in
set_option maxHeartbeats 4000000 in
theorem insert_any {base : Nat} (A : Option Addr) (n c i vb : Nat) (x : Value) (xs : List Value) (w : World) (ho : w.ownsRow base 23 1 (.slice A n c) n xs) (hb : Blk w vb 23 #[x]) (hne : (Value.slice A n c).ownBlock ≠ some vb) (hi : i ≤ n) (hn : n ≤ 1000) (hbw : base ≤ w.heap.size)
    (h1 : ∀ u ∈ xs, u.oneCell' = true) (hx : x.oneCell' = true) :
    Calls Tryz.prog 10 #[.slice A n c, .int .i64 i, .slice (some ⟨vb, 0, none⟩) 1 1] w (OutIns base (n + 1) (xs.take i ++ x :: xs.drop i) w) := by
  by_cases hin : i = n
  · subst hin
    obtain ⟨i0, hi0, hz0, hz1, hz2⟩ := info_parts hl_info
    have hxl : xs.length = i := by have := ho.1; omega
    have HO := Lib.hid ho
    have HR := Lib.hid (show Reads w (vb + 1) 1 (some ⟨vb, 0, none⟩) 1 [x] from ⟨rfl, fun _ => ⟨_, rfl, Nat.lt_succ_self _, fun j u hu => by
      obtain rfl : j = 0 := by have := (List.getElem?_eq_some_iff.1 hu).1; simp at this; omega
      exact (hb.cell 0).trans hu⟩⟩)
    have hcap := ho.2
    have hic : i ≤ c ∧ c ≤ maxLen := by
      rcases hcap with ⟨hv, h0⟩ | ⟨g, cap, cur, hv, _, _, hle, hmx, _⟩
      · injection hv with _ e1 e2
        subst e2
        exact ⟨by omega, by simp [maxLen]⟩
      · injection hv with _ _ e2
        subst e2
        exact ⟨hle, hmx⟩
    have HXL := Lib.hid hxl
    obtain ⟨hic1, hic2⟩ := hic
    unfold maxLen at hic2
    have HX := Lib.hid hx
    clear ho hb hne h1 hcap hxl hx
    have htd : xs.take i ++ x :: xs.drop i = xs ++ [x] := by have := HXL.out; rw [List.take_of_length_le (by omega), List.drop_of_length_le (by omega)]
    have HTD := Lib.hid htd
    rcases A with _ | ⟨ab, ao, asp⟩
    · obtain ⟨rfl, rfl⟩ : i = 0 ∧ c = 0 := by
        rcases HO.out.2 with ⟨hv, h0⟩ | ⟨g, cap, cur, hv, _⟩
        · injection hv with _ _ e2
          exact ⟨h0, e2⟩
        · cases hv
      go_enter Tryz.func10, Tryz.ntmps10
      go_wp2_with (at_builtin; go_loud (refine wpList_append_any _ rfl _ _ _ rfl base 23 i0 _ 1 24 Tryz.underlying22 hi0 hz0 hz1 hz2 rfl (by decide) _ _ _ rfl HO.out _ _ 1 1 _ rfl HR.out ?c0 ?c1 ?c2 ?c3 ?_))
      case c0 => intro u hu; simp at hu; rw [hu]; exact HX.out
      case c1 => unfold maxLen; omega
      case c2 => omega
      case c3 => exact hbw
      intro v' w' hown hgrow _hat
      have HF := Lib.hid (out_ins hown hgrow HO.out hbw HTD.out)
      clear hown hgrow _hat
      go_wp2_with fail
      go_ret
      exact HF.out
    · by_cases hci : c = i
      · subst hci
        go_enter Tryz.func10, Tryz.ntmps10
        go_wp2_with (at_builtin; go_loud (refine wpList_append_any _ rfl _ _ _ rfl base 23 i0 _ 1 24 Tryz.underlying22 hi0 hz0 hz1 hz2 rfl (by decide) _ _ _ rfl HO.out _ _ 1 1 _ rfl HR.out ?c0 ?c1 ?c2 ?c3 ?_))
        case c0 => intro u hu; simp at hu; rw [hu]; exact HX.out
        case c1 => unfold maxLen; omega
        case c2 => omega
        case c3 => exact hbw
        intro v' w' hown hgrow _hat
        have HF := Lib.hid (out_ins hown hgrow HO.out hbw HTD.out)
        clear hown hgrow _hat
        go_wp2_with fail
        go_ret
        exact HF.out
      · have hci2 : ¬ (i = c) := fun e => hci e.symm
        go_enter Tryz.func10, Tryz.ntmps10
        go_wp2_with (at_builtin; go_loud (refine wpList_append_any _ rfl _ _ _ rfl base 23 i0 _ 1 24 Tryz.underlying22 hi0 hz0 hz1 hz2 rfl (by decide) _ _ _ rfl HO.out _ _ 1 1 _ rfl HR.out ?c0 ?c1 ?c2 ?c3 ?_))
        case c0 => intro u hu; simp at hu; rw [hu]; exact HX.out
        case c1 => unfold maxLen; omega
        case c2 => omega
        case c3 => exact hbw
        intro v' w' hown hgrow _hat
        have HF := Lib.hid (out_ins hown hgrow HO.out hbw HTD.out)
        clear hown hgrow _hat
        go_wp2_with fail
        go_ret
        exact HF.out
  · have hlt : i < n := by omega
    rcases A with _ | ad
    · exfalso
      rcases ho.2 with ⟨hv, h0⟩ | ⟨g, cap, cur, hv, _⟩
      · omega
      · cases hv
    obtain ⟨g, rfl⟩ : ∃ g, ad = ⟨g, 0, none⟩ := by
      rcases ho.2 with ⟨hv, h0⟩ | ⟨g, cap, cur, hv, _⟩
      · cases hv
      · injection hv with e1
        injection e1 with e1
        exact ⟨g, e1⟩
    obtain ⟨hbg, hnc, hcm, hxl, cur, hh, hcs⟩ := own_cells ho
    have hgw : g < w.heap.size := (Array.getElem?_eq_some_iff.1 hh).1
    have hTl : (xs.take i).length = i := by rw [List.length_take]; omega
    have hDl : (xs.drop i).length = n - i := by rw [List.length_drop, hxl]
    have hT : ∀ j v, (xs.take i)[j]? = some v → w.cell? ⟨g, j, none⟩ = some v := fun j v hv => by
      have hl := (List.getElem?_eq_some_iff.1 hv).1
      rw [List.getElem?_take_of_lt (by omega)] at hv
      exact (ho.cellAt j (by omega)).trans hv
    by_cases hc : n + 1 ≤ c
    · refine (insert_shift g n c i vb x xs w ho hb (fun e => hne (by rw [e]; rfl)) hlt hc h1 hx).mono ?_
      rintro e w' ⟨rfl, rfl⟩
      refine ⟨g, c, rfl, hc, hcm, ?_, sc_shift w.drew g i _ _ x (fun j hj => ?_) hTl hT, ?_⟩
      · have := (below_sc (B := base) (a := w) hbg [x] i _ (below_sc hbg (xs.drop i) (i + 1) _ ((Below.refl _ w).drew))).size
        omega
      · have : (w.cell? ⟨g, j, none⟩).isSome = true := by simp [World.cell?, hh]; omega
        exact this
      · exact below_sc hbg [x] i _ (below_sc hbg (xs.drop i) (i + 1) _ ((Below.refl _ w).drew))
    · refine (insert_grow g n c i vb x xs w ho hb hlt (by omega) hn h1 hx).mono ?_
      rintro e w' ⟨G, ROW, hG, hGm, hRl, hRt, rfl, rfl⟩
      have hB : Below base w ((((w.alloc (.cells ROW 23)).drew.setCells w.heap.size i [x]).drew).setCells w.heap.size (i + 1) (xs.drop i)) :=
        below_sc hbw _ _ _ ((below_sc hbw _ _ _ (((Below.refl _ w).alloc hbw _).drew)).drew)
      have hB2 := (below_sc (B := base) (a := w.alloc (.cells ROW 23)) hbw (xs.drop i) (i + 1) _ ((below_sc hbw [x] i _ ((Below.refl _ (w.alloc (.cells ROW 23))).drew)).drew)).size
      rw [World.size_alloc] at hB2
      have hcl : ∀ j, ((w.alloc (.cells ROW 23)).drew).cell? ⟨w.heap.size, j, none⟩ = ROW[j]? := fun j => World.cell?_alloc_at (w := w) ROW _ w.heap.size j rfl
      refine ⟨w.heap.size, G, rfl, hG, hGm, by omega, sc_grow ((w.alloc (.cells ROW 23)).drew) _ w.heap.size i _ _ x (fun j hj => ?_) hTl (fun j v hv => ?_) (fun a => rfl), hB⟩
      · rw [hcl, Array.getElem?_eq_getElem (by omega)]; rfl
      · rw [hcl]; exact hRt j v hv
end Go.Proofs.YtimakhadabenbaaGreatDoor
