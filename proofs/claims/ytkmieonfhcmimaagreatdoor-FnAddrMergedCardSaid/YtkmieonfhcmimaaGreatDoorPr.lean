/- Multiaddr.Bytes: the bytes of components, one after the other. -/
import Derived.Test.YtkmieonfhcmimaaGreatDoorPq
import Derived.Room.AppendFits
namespace Go.Proofs.YtkmieonfhcmimaaGreatDoor
open Go.RowKit
open Go.Lib (strCells strCells_length strCells_oneCell)
theorem strCells_bv (l : List UInt8) : strCells ⟨l.toArray⟩ = bv l := by simp [strCells, bv]
/-- A string's bytes behind a row in whose block there is room; the block's type may be another one than the slice's element (an array's). -/
theorem run_append_room_string2 {P : Program} (w : World) (t u ty e eb : TypeId) (i : TypeInfo) (ht : P.underlying t = some (.slice e)) (hu : P.underlying u = some .string) (hi : P.info? e = some i) (hs1 : i.size = 1)
    (g sLen sCap : Nat) (cur : Array Value) (hg : w.heap[g]? = some (.cells cur eb (0, 0))) (s : ByteArray)
    (hroom : sLen + s.size ≤ sCap) (hfit : sLen + s.size ≤ cur.size) :
    (Builtin.append_ #[t, u] ty #[.slice (some ⟨g, 0, none⟩) sLen sCap, .string s]).run P w =
      .ok (.slice (some ⟨g, 0, none⟩) (sLen + s.size) sCap) (w.setRow g (cur.toList.take sLen ++ strCells s ++ cur.toList.drop (sLen + s.size)).toArray) := by
  have hf := Lib.run_firstCells_string (P := P) w 1 s
  have hst := run_storeCells_at P g sLen eb (strCells s) 0 cur w hg (by simpa [strCells_length] using hfit) (strCells_oneCell s)
  simp only [Nat.add_zero, strCells_length] at hst
  simp [Builtin.append_, run_underlying ht, run_underlying hu, sizeOf, typeInfo, hi, hs1, Builtin.lenOf, hroom, hf, Addr.add_lit, hst]
theorem run_append_fits_string2 {P : Program} (w : World) (base : Nat) (t u ty e eb : TypeId) (i : TypeInfo) (ht : P.underlying t = some (.slice e)) (hu : P.underlying u = some .string) (hi : P.info? e = some i)
    (hsize : i.size = 1)
    (p : Option Addr) (n cap : Nat) (xs : List Value) (hown : w.ownsRow base eb 1 (.slice p n cap) n xs) (s : ByteArray) (h1 : 0 < cap) (hroom : n + s.size ≤ cap) :
    ∃ w', (Builtin.append_ #[t, u] ty #[.slice p n cap, .string s]).run P w = .ok (.slice p (n + s.size) cap) w' ∧ w'.ownsRow base eb 1 (.slice p (n + s.size) cap) (n + s.size) (xs ++ strCells s) ∧ w.grownBy w' (Value.ownBlock (.slice p n cap)) := by
  have hxl : xs.length = n := by simpa using hown.1
  have hlen : (xs ++ strCells s).length = (n + s.size) * 1 := by rw [List.length_append, hxl, strCells_length, Nat.mul_one]
  rcases hown.2 with ⟨hv, _⟩ | ⟨g, cap', cur, hv, hbg, hg, hnc, hcm, hcs, htake⟩
  · cases hv
    omega
  · cases hv
    have hcs' : cur.size = cap := by simpa using hcs
    have hr := run_append_room_string2 (P := P) w t u ty e eb i ht hu hi hsize g n cap cur hg s hroom (by omega)
    refine ⟨_, hr, ⟨hlen, .inr ⟨g, cap, _, rfl, hbg, setRow_heap w g cur _ eb _ hg, hroom, hcm, ?_, ?_⟩⟩, ⟨rfl, rfl, rfl, by simp, fun k _ hk => setRow_other w g k _ (fun e => hk (by simp [Value.ownBlock, e]))⟩⟩
    · simp only [List.size_toArray, List.length_append, List.length_take, List.length_drop, Array.length_toList, strCells_length]
      omega
    · have ht' : cur.toList.take n = xs := by simpa using htake
      rw [ht', ← hlen]
      exact List.take_left
theorem step_append_string {P : Program} {w : World} {ops : Array Oper} {rest : List Oper} {o : Oper} {a : Act} {Q : Exit → Act → World → Prop} (hgd : o.guard = none) (sl x : Operand) (t u : TypeId)
    (ho : o.op = .call { callee := .builtin .append, args := #[sl, x], argTypes := #[t, u] })
    (base : Nat) (e eb : TypeId) (i : TypeInfo) (ht : P.underlying t = some (.slice e)) (hu : P.underlying u = some .string) (hi : P.info? e = some i)
    (hsize : i.size = 1)
    (p : Option Addr) (n cap : Nat) (xs : List Value) (hs : a.eval sl = .slice p n cap) (hown : w.ownsRow base eb 1 (.slice p n cap) n xs) (s : ByteArray) (hx : a.eval x = .string s) (h1 : 0 < cap) (hroom : n + s.size ≤ cap)
    (h : ∀ w', w'.ownsRow base eb 1 (.slice p (n + s.size) cap) (n + s.size) (xs ++ strCells s) → w.grownBy w' (Value.ownBlock (.slice p n cap)) → wpList P ops Q rest (a.put o.dst (.slice p (n + s.size) cap)) w') : wpList P ops Q (o :: rest) a w := by
  refine wpList_plain hgd fun K hK => ?_
  obtain ⟨w', hr, h2, h3⟩ := run_append_fits_string2 (P := P) w base t u o.type e eb i ht hu hi hsize p n cap xs hown s h1 hroom
  unfold Oper.wp execOp
  simp only [ho, resolve, invoke, builtin, Sem.run_bind, Sem.run_pure, Result.andThen_ok, List.map_toArray, List.map_cons, List.map_nil, hs, hx, hr]
  exact hK _ _ (h w' h2 h3)
theorem compCells_get (cs : List (Hop × Nat)) (k : Nat) (hk : k < cs.length) (j : Nat) (hj : j < 3) : (compCells cs)[k * 3 + j]? = ([.string ⟨(cs[k]).1.bytes.toArray⟩, .pointer (some ⟨(cs[k]).2, 0, none⟩), .int .i64 (vsOf (cs[k]).1.kd)] : List Value)[j]? := by
  have e : cs = cs.take k ++ [cs[k]] ++ cs.drop (k + 1) := by simp
  have hl : (cs.take k).length = k := by rw [List.length_take]; omega
  have h1 := compCells_at (cs.take k) (cs[k]) j hj
  rw [hl] at h1
  rw [← h1]
  conv => lhs; rw [e]
  have e2 : compCells (cs.take k ++ [cs[k]] ++ cs.drop (k + 1)) = compCells (cs.take k ++ [cs[k]]) ++ compCells (cs.drop (k + 1)) := by unfold compCells; rw [List.flatMap_append]
  rw [e2, List.getElem?_append_left]
  rw [compCells_length, List.length_append, hl]
  simp
  omega
/-- The bytes of components. -/
def compBytes (cs : List (Hop × Nat)) : List UInt8 := addrBytes (cs.map (·.1))
theorem compBytes_take (cs : List (Hop × Nat)) (k : Nat) (h : k < cs.length) : compBytes (cs.take (k + 1)) = compBytes (cs.take k) ++ (cs[k]).1.bytes := by
  unfold compBytes
  rw [List.map_take, List.map_take, addrBytes_take _ k (by simpa using h)]
  simp
theorem compBytes_le (cs : List (Hop × Nat)) : (compBytes cs).length ≤ 50 * cs.length := by
  have := addrBytes_le (cs.map (·.1))
  rwa [List.length_map] at this
theorem compBytes_take_le (cs : List (Hop × Nat)) (k : Nat) : (compBytes (cs.take k)).length ≤ (compBytes cs).length := by
  conv => rhs; rw [← List.take_append_drop k cs]
  unfold compBytes addrBytes
  rw [List.map_append, List.flatMap_append, List.length_append]
  omega
set_option maxRecDepth 100000 in
set_option maxHeartbeats 2000000 in
theorem bytes_any (g n c : Nat) (cs : List (Hop × Nat)) (w : World) (h : MS w g n c cs) (hn : n ≤ 1000) :
    Calls Tryz.prog 45 #[.slice (some ⟨g, 0, none⟩) n c] w (OutB (compBytes cs) w) := by
  obtain ⟨i0, hi0, hz0, hz1, hz2⟩ := info_parts u8_info
  have HM := Lib.hid h
  have HL := Lib.hid h.len
  have hlen : cs.length ≤ 1000 := by rw [h.len]; exact hn
  clear h
  go_enter Tryz.func45, Tryz.ntmps45
  go_wp2_with fail
  go_loopw [3, 12] (fun s i wr => ∃ k : Nat, k ≤ n ∧ i = .int .i64 k ∧ s = .int .i64 (compBytes (cs.take k)).length ∧ Below w.heap.size w wr) (fun _ i _ => n - (intOf i).toNat)
  case atStart => exact ⟨0, by omega, rfl, rfl, Below.refl _ _⟩
  case round =>
    obtain ⟨k, hk, rfl, rfl, hb⟩ := hrel
    have HB := Lib.hid hb
    clear hb
    by_cases hlt : k < n
    · have hlt' : k < cs.length := by rw [HL.out]; exact hlt
      have hm := HM.out.below HB.out
      have c0 := hm.cell (k * 3 + 0) _ (compCells_get cs k hlt' 0 (by decide))
      have c1 := hm.cell (k * 3 + 1) _ (compCells_get cs k hlt' 1 (by decide))
      have c2 := hm.cell (k * 3 + 2) _ (compCells_get cs k hlt' 2 (by decide))
      rw [Nat.add_zero] at c0
      have htk := compBytes_take cs k hlt'
      have hle := compBytes_le (cs.take k)
      have hle2 := (hopBytes_le (cs[k]).1.kd (cs[k]).1.l).2
      have hltk : (cs.take k).length ≤ 1000 := by rw [List.length_take]; omega
      have hts : (compBytes (cs.take (k + 1))).length = (compBytes (cs.take k)).length + (cs[k]).1.bytes.length := by rw [htk, List.length_append]
      have hsz := size_toArray (cs[k]).1.bytes
      generalize hX : (cs[k]).1.bytes = X at *
      have hX2 : X.length ≤ 100 := by rw [← hX]; unfold Hop.bytes; omega
      have HTS := Lib.hid hts
      generalize (compBytes (cs.take k)).length = S0 at *
      have hS0 : S0 ≤ 50000 := by omega
      clear hts htk hle hle2 hm hX
      go_wp2_with fail
      exact ⟨⟨k + 1, by omega, by go_num, by rw [HTS.out]; go_num, HB.out.alloc HB.out.size _⟩, by simp [intOf]; omega⟩
    · obtain rfl : n = k := by omega
      have htk : cs.take n = cs := by rw [← HL.out]; exact List.take_length
      rw [htk]
      clear htk
      obtain ⟨S, hS⟩ : ∃ S, S = (compBytes cs).length := ⟨_, rfl⟩
      have hS1 : S ≤ 50000 := by have := compBytes_le cs; omega
      rw [← hS]
      have hmk : ∀ W : World, (Instr.makeSlice 32 (.int .i64 0) (.int .i64 (S : Int))).run Tryz.prog W = .ok (.slice (some ⟨W.heap.size, 0, none⟩) 0 S) (W.alloc (.cells (madeCells (Value.int .u8 0).cells (S * 1)) 5)) := fun W => by
        have := run_make_rowN (P := Tryz.prog) 32 5 i0 (.int .u8 0) Tryz.underlying32 hi0 hz0 .i64 .i64 0 S (Nat.zero_le _) (by rw [hz2]; omega) (by omega) W
        rwa [hz1] at this
      have HS := Lib.hid hS
      clear hS
      by_cases hlt128 : S < 128
      · have hd0 : decide ((S : Int) < 128) = true := by simp; omega
        have hn0 : 0 < 128 := by decide
        have hob : ∀ X : Array Value, X.size = 128 → (wr.alloc (.cells X 127)).ownsRow w.heap.size 127 1 (.slice (some ⟨wr.heap.size, 0, none⟩) 0 128) 0 [] := fun X hX => ⟨rfl, .inr ⟨_, _, _, rfl, HB.out.size, heap_alloc_new _ _, by omega, by unfold maxLen; omega, by omega, rfl⟩⟩
        have HOB := Lib.hid hob
        clear hob
        go_wp2_with fail
        go_loopw [6, 29] (fun v i wq => ∃ k : Nat, k ≤ n ∧ i = .int .i64 k ∧ v = .slice (some ⟨wr.heap.size, 0, none⟩) (compBytes (cs.take k)).length 128 ∧ wq.ownsRow w.heap.size 127 1 v (compBytes (cs.take k)).length (bv (compBytes (cs.take k))) ∧ Below w.heap.size w wq) (fun _ i _ => n - (intOf i).toNat)
        case atStart => exact ⟨0, by omega, rfl, rfl, HOB.out _ (by rfl), HB.out.alloc HB.out.size _⟩
        case round =>
          obtain ⟨k, hk, rfl, rfl, hown, hb⟩ := hrel
          have HO := Lib.hid hown
          have HB := Lib.hid hb
          clear hb hown
          by_cases hlt : k < n
          · have hlt' : k < cs.length := by rw [HL.out]; exact hlt
            have hm := HM.out.below HB.out
            have c0 := hm.cell (k * 3 + 0) _ (compCells_get cs k hlt' 0 (by decide))
            have c1 := hm.cell (k * 3 + 1) _ (compCells_get cs k hlt' 1 (by decide))
            have c2 := hm.cell (k * 3 + 2) _ (compCells_get cs k hlt' 2 (by decide))
            rw [Nat.add_zero] at c0
            have htk := compBytes_take cs k hlt'
            have hle := compBytes_take_le cs (k + 1)
            have hts : (compBytes (cs.take (k + 1))).length = (compBytes (cs.take k)).length + (cs[k]).1.bytes.length := by rw [htk, List.length_append]
            rw [hts, ← HS.out] at hle
            have hsz := size_toArray (cs[k]).1.bytes
            generalize hX : (cs[k]).1.bytes = X at *
            have HTK := Lib.hid htk
            have HTS := Lib.hid hts
            have HLE := Lib.hid hle
            have hbw : Below w.heap.size w (wr.alloc (.cells #[.string ⟨X.toArray⟩, .pointer (some ⟨(cs[k]).2, 0, none⟩), .int .i64 (vsOf (cs[k]).1.kd)] 126)) := HB.out.alloc HB.out.size _
            have HBW := Lib.hid hbw
            have HOO := Lib.hid (own_below HO.out ((Below.refl _ wr).alloc (Nat.le_refl _) (.cells #[.string ⟨X.toArray⟩, .pointer (some ⟨(cs[k]).2, 0, none⟩), .int .i64 (vsOf (cs[k]).1.kd)] 126)))
            clear hts htk hle hm hX hbw
            go_wp2_with (at_builtin; refine step_append_string rfl (.tmp 33) (.tmp 35) _ _ rfl w.heap.size 5 127 i0 Tryz.underlying32 Tryz.underlying9 hi0 hz1 _ _ _ _ rfl HOO.out _ rfl ?c1 ?c2 ?_)
            case c1 => omega
            case c2 => have := HLE.out; omega
            intro w' hown hgrow
            rw [strCells_bv, ← bv_append, ← HTK.out, ← HTS.out] at hown
            have HOF := Lib.hid hown
            have HBF := Lib.hid (HBW.out.grown hgrow HBW.out.size (fun g hg => (HOO.out.lt g hg).1))
            have hts' := HTS.out
            rw [← hts']
            clear hown hgrow hts'
            go_wp2_with fail
            go_roundw
            case rel => exact ⟨k + 1, by omega, by go_num, rfl, HOF.out, HBF.out⟩
            case measure => simp [intOf]; omega
          · obtain rfl : k = n := by omega
            have htk : cs.take k = cs := by rw [← HL.out]; exact List.take_length
            rw [htk] at HO ⊢
            clear htk
            go_wp2_with fail
            go_ret
            exact OutB.of_own HO.out HB.out
      · have hd0 : decide ((S : Int) < 128) = false := by simp; omega
        have hn0 : 0 < S := by omega
        have hob : ∀ X : Array Value, X.size = S → (wr.alloc (.cells X 5)).ownsRow w.heap.size 5 1 (.slice (some ⟨wr.heap.size, 0, none⟩) 0 S) 0 [] := fun X hX => ⟨rfl, .inr ⟨_, _, _, rfl, HB.out.size, heap_alloc_new _ _, by omega, by unfold maxLen; omega, by omega, rfl⟩⟩
        have HOB := Lib.hid hob
        clear hob
        go_wp2_with fail
        go_loopw [6, 29] (fun v i wq => ∃ k : Nat, k ≤ n ∧ i = .int .i64 k ∧ v = .slice (some ⟨wr.heap.size, 0, none⟩) (compBytes (cs.take k)).length S ∧ wq.ownsRow w.heap.size 5 1 v (compBytes (cs.take k)).length (bv (compBytes (cs.take k))) ∧ Below w.heap.size w wq) (fun _ i _ => n - (intOf i).toNat)
        case atStart => exact ⟨0, by omega, rfl, rfl, HOB.out _ (by rw [size_madeCells]), HB.out.alloc HB.out.size _⟩
        case round =>
          obtain ⟨k, hk, rfl, rfl, hown, hb⟩ := hrel
          have HO := Lib.hid hown
          have HB := Lib.hid hb
          clear hb hown
          by_cases hlt : k < n
          · have hlt' : k < cs.length := by rw [HL.out]; exact hlt
            have hm := HM.out.below HB.out
            have c0 := hm.cell (k * 3 + 0) _ (compCells_get cs k hlt' 0 (by decide))
            have c1 := hm.cell (k * 3 + 1) _ (compCells_get cs k hlt' 1 (by decide))
            have c2 := hm.cell (k * 3 + 2) _ (compCells_get cs k hlt' 2 (by decide))
            rw [Nat.add_zero] at c0
            have htk := compBytes_take cs k hlt'
            have hle := compBytes_take_le cs (k + 1)
            have hts : (compBytes (cs.take (k + 1))).length = (compBytes (cs.take k)).length + (cs[k]).1.bytes.length := by rw [htk, List.length_append]
            rw [hts, ← HS.out] at hle
            have hsz := size_toArray (cs[k]).1.bytes
            generalize hX : (cs[k]).1.bytes = X at *
            have HTK := Lib.hid htk
            have HTS := Lib.hid hts
            have HLE := Lib.hid hle
            have hbw : Below w.heap.size w (wr.alloc (.cells #[.string ⟨X.toArray⟩, .pointer (some ⟨(cs[k]).2, 0, none⟩), .int .i64 (vsOf (cs[k]).1.kd)] 126)) := HB.out.alloc HB.out.size _
            have HBW := Lib.hid hbw
            have HOO := Lib.hid (own_below HO.out ((Below.refl _ wr).alloc (Nat.le_refl _) (.cells #[.string ⟨X.toArray⟩, .pointer (some ⟨(cs[k]).2, 0, none⟩), .int .i64 (vsOf (cs[k]).1.kd)] 126)))
            clear hts htk hle hm hX hbw
            go_wp2_with (at_builtin; refine step_append_string rfl (.tmp 33) (.tmp 35) _ _ rfl w.heap.size 5 5 i0 Tryz.underlying32 Tryz.underlying9 hi0 hz1 _ _ _ _ rfl HOO.out _ rfl ?c1 ?c2 ?_)
            case c1 => omega
            case c2 => have := HLE.out; omega
            intro w' hown hgrow
            rw [strCells_bv, ← bv_append, ← HTK.out, ← HTS.out] at hown
            have HOF := Lib.hid hown
            have HBF := Lib.hid (HBW.out.grown hgrow HBW.out.size (fun g hg => (HOO.out.lt g hg).1))
            have hts' := HTS.out
            rw [← hts']
            clear hown hgrow hts'
            go_wp2_with fail
            go_roundw
            case rel => exact ⟨k + 1, by omega, by go_num, rfl, HOF.out, HBF.out⟩
            case measure => simp [intOf]; omega
          · obtain rfl : k = n := by omega
            have htk : cs.take k = cs := by rw [← HL.out]; exact List.take_length
            rw [htk] at HO ⊢
            clear htk
            go_wp2_with fail
            go_ret
            exact OutB.of_own HO.out HB.out
end Go.Proofs.YtkmieonfhcmimaaGreatDoor
