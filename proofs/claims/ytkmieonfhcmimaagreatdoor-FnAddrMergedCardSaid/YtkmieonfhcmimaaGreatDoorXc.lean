/- Bytes in memory: a slice that reads as a list of bytes, and what stays of it. No condition. -/
import Derived.Test.YtkmieonfhcmimaaGreatDoorWa
import Derived.Laws.Rows
import Derived.Test.YtkmieonfhcmimaaGreatDoorProg
import Derived.Lib.SliceRun
import Derived.WalkSpells
import Derived.Handy
namespace Go.Proofs.YtkmieonfhcmimaaGreatDoor
open Go.RowKit

/-- The cells of bytes. -/
def bv (l : List UInt8) : List Value := l.map fun b => Value.int .u8 b.toNat
theorem bv_length (l : List UInt8) : (bv l).length = l.length := by simp [bv]
theorem bv_append (a b : List UInt8) : bv (a ++ b) = bv a ++ bv b := by simp [bv]
theorem bv_drop (l : List UInt8) (n : Nat) : (bv l).drop n = bv (l.drop n) := by simp [bv]
theorem bv_take (l : List UInt8) (n : Nat) : (bv l).take n = bv (l.take n) := by simp [bv]
theorem bv_get (l : List UInt8) (k : Nat) (h : k < l.length) : (bv l)[k]? = some (.int .u8 (l[k]).toNat) := by simp [bv, h]
theorem bv_one (l : List UInt8) : ∀ u ∈ bv l, u.oneCell' = true := by
  intro u hu
  simp only [bv, List.mem_map] at hu
  obtain ⟨b, _, rfl⟩ := hu
  rfl

section
variable {w w' : World} {B size n : Nat} {A : Option Addr} {xs : List Value}
/-- What was there is there behind a call that leaves old memory alone. -/
theorem Reads.next (h : Reads w w.heap.size size A n xs) (hb : Below w.heap.size w w') : Reads w' w'.heap.size size A n xs := (h.below hb).more hb.size
theorem Reads.take (h : Reads w B size A n xs) {k : Nat} (hk : k ≤ n) : Reads w B size A k (xs.take (k * size)) := by
  refine ⟨by rw [List.length_take, h.1]; exact Nat.min_eq_left (Nat.mul_le_mul_right _ hk), fun hn => ?_⟩
  obtain ⟨ad, e, hb, hc⟩ := h.2 (by omega)
  exact ⟨ad, e, hb, fun j u hu => hc j u (by
    rw [List.getElem?_take] at hu
    split at hu
    · exact hu
    · cases hu)⟩
end

/-- A slice value, below block B, that reads as bytes. -/
structure RB (w : World) (B : Nat) (A : Option Addr) (n c : Nat) (l : List UInt8) : Prop where
  reads : Reads w B 1 A n (bv l)
  cap : n ≤ c
  max : c ≤ maxLen

section
variable {w w' : World} {B B' n c : Nat} {A : Option Addr} {l : List UInt8}
theorem RB.len (h : RB w B A n c l) : l.length = n := by have := h.reads.1; rw [bv_length] at this; omega
theorem RB.more (h : RB w B A n c l) (hB : B ≤ B') : RB w B' A n c l := ⟨h.reads.more hB, h.cap, h.max⟩
theorem RB.below (h : RB w B A n c l) (hb : Below B w w') : RB w' B A n c l := ⟨h.reads.below hb, h.cap, h.max⟩
theorem RB.next (h : RB w w.heap.size A n c l) (hb : Below w.heap.size w w') : RB w' w'.heap.size A n c l := ⟨h.reads.next hb, h.cap, h.max⟩
theorem RB.drop (h : RB w B A n c l) {k : Nat} (hk : k ≤ n) : RB w B (if c = k then A else A.map (·.add k)) (n - k) (c - k) (l.drop k) :=
  ⟨by have := h.reads.cut hk h.cap; rw [Nat.mul_one] at this; rwa [bv_drop] at this, by have := h.cap; omega, by have := h.max; omega⟩
theorem RB.take (h : RB w B A n c l) {k : Nat} (hk : k ≤ n) : RB w B A k c (l.take k) :=
  ⟨by have := h.reads.take hk; rw [Nat.mul_one] at this; rwa [bv_take] at this, by have := h.cap; omega, h.max⟩
theorem RB.at_ (h : RB w B A n c l) {k : Nat} (hk : k < n) (hl : k < l.length) : ∃ ad, A = some ad ∧ ad.block < B ∧ w.cell? (ad.add k) = some (.int .u8 (l[k]).toNat) := by
  obtain ⟨ad, u, e, hb, hx, hc⟩ := h.reads.at_ hk
  rw [bv_get l k hl] at hx
  injection hx with hx
  subst hx
  exact ⟨ad, e, hb, hc⟩
theorem RB.nil_ (w : World) (B : Nat) : RB w B none 0 0 [] := ⟨⟨by simp [bv], fun h => absurd h (by omega)⟩, Nat.le_refl _, by simp [maxLen]⟩
/-- A row that the call owns reads as what it holds. -/
theorem RB.of_own {base : Nat} {e : TypeId} (h : w.ownsRow base e 1 (.slice A n c) n (bv l)) : RB w w.heap.size A n c l := by
  refine ⟨Reads.of_own h, ?_, ?_⟩
  · rcases h.2 with ⟨hv, h0⟩ | ⟨g, cap, cur, hv, _, _, hle, _⟩
    · injection hv with _ _ hc; omega
    · injection hv with _ _ hc; omega
  · rcases h.2 with ⟨hv, h0⟩ | ⟨g, cap, cur, hv, _, _, _, hle, _⟩
    · injection hv with _ _ hc; subst hc; simp [maxLen]
    · injection hv with _ _ hc; subst hc; exact hle
theorem own_slice {base : Nat} {e : TypeId} {size : Nat} {v : Value} {xs : List Value} (h : w.ownsRow base e size v n xs) : ∃ A c, v = .slice A n c := by
  rcases h.2 with ⟨rfl, rfl⟩ | ⟨g, cap, cur, rfl, _⟩
  · exact ⟨_, _, rfl⟩
  · exact ⟨_, _, rfl⟩
end

/-- 'string(b)' of bytes, nil too. -/
theorem run_convert_RB {P : Program} {w : World} {B n c : Nat} {A : Option Addr} {l : List UInt8} (h : RB w B A n c l) (src e : TypeId) (hs : P.underlying src = some (.slice e)) (he : P.underlying e = some (.int .u8)) :
    ∀ dst, P.underlying dst = some .string → (convert src dst (.slice A n c)).run P w = .ok (.string ⟨l.toArray⟩) w := by
  intro dst hd
  have hlen := h.len
  rcases A with _ | a
  · have h0 : n = 0 := by
      rcases Nat.eq_zero_or_pos n with h0 | h0
      · exact h0
      · obtain ⟨ad, e1, _⟩ := h.reads.2 h0
        cases e1
    have hl : l = [] := List.eq_nil_of_length_eq_zero (by omega)
    subst hl
    exact run_convert_bytes_nil w src e hs he n c dst hd
  · have hl : (loadCells a n).run P w = .ok (bv l).toArray w := by
      have := run_loadCells_list (P := P) w a (bv l) (fun j v hj => by
        have hjl : j < l.length := by
          rcases Nat.lt_or_ge j l.length with h' | h'
          · exact h'
          · simp [bv, List.getElem?_eq_none h'] at hj
        obtain ⟨ad, e1, _, hc⟩ := h.at_ (k := j) (by omega) hjl
        injection e1 with e1
        subst e1
        rw [bv_get l j hjl] at hj
        injection hj with hj
        rw [hc, hj])
      rw [bv_length, hlen] at this
      exact this
    have hm : bv l = (l.map fun b => (b.toNat : Int)).map (Value.int .u8) := by simp [bv]
    rw [hm] at hl
    rw [run_convert_bytes_string w src dst e _ n c hs he hd, run_bytesToString w a n c _ hl, foldl_push_bytes]
    have hid : l.map ((fun n : Int => UInt8.ofNat n.toNat) ∘ fun b : UInt8 => (b.toNat : Int)) = l := by
      rw [show ((fun n : Int => UInt8.ofNat n.toNat) ∘ fun b : UInt8 => (b.toNat : Int)) = id from funext fun b => by simp]
      exact List.map_id l
    simp [ByteArray.empty, ByteArray.emptyWithCapacity, hid]
    rfl

/-- '[]byte(s)': the bytes in a new block. -/
theorem RB.of_bytesWorld (w : World) (e : TypeId) (l : List UInt8) (hm : l.length ≤ maxLen) :
    RB (Lib.bytesWorld w e ⟨l.toArray⟩) (Lib.bytesWorld w e ⟨l.toArray⟩).heap.size (some ⟨w.heap.size, 0, none⟩) l.length (grownCap w l.length 0 e) l := by
  refine ⟨⟨by simp [bv], fun _ => ⟨_, rfl, by rw [Lib.bytesWorld_size]; simp, fun j u hu => ?_⟩⟩, grownCap_ge _ _ _ _, grownCap_le_maxLen _ _ _ _ hm⟩
  have hj : j < l.length := by
    rcases Nat.lt_or_ge j l.length with h' | h'
    · exact h'
    · simp [bv, List.getElem?_eq_none h'] at hu
  rw [bv_get l j hj] at hu
  injection hu with hu
  subst hu
  have hadd : (⟨w.heap.size, 0, none⟩ : Addr).add j = ⟨w.heap.size, j, none⟩ := by unfold Addr.add; split <;> simp_all
  rw [hadd, Lib.bytesWorld_cell w e ⟨l.toArray⟩ j (by simpa [ByteArray.size] using hj)]
  simp [List.getD, List.getElem?_eq_getElem hj]
theorem below_bytesWorld (w : World) (e : TypeId) (s : ByteArray) : Below w.heap.size w (Lib.bytesWorld w e s) :=
  ⟨rfl, rfl, rfl, by rw [Lib.bytesWorld_size]; omega, fun k hk => Lib.bytesWorld_at_old w e s k hk⟩

/-- A block just laid reads as its cells. -/
theorem reads_new (w : World) (cs : Array Value) (t : TypeId) (size n : Nat) (hn : cs.size = n * size) : Reads (w.alloc (.cells cs t)) (w.heap.size + 1) size (some ⟨w.heap.size, 0, none⟩) n cs.toList := by
  refine ⟨by simpa using hn, fun _ => ⟨_, rfl, Nat.lt_succ_self _, fun j u hu => ?_⟩⟩
  have hadd : (⟨w.heap.size, 0, none⟩ : Addr).add j = ⟨w.heap.size, j, none⟩ := by unfold Addr.add; split <;> simp_all
  rw [hadd, (Blk.new w t cs).cell j]
  simpa using hu
theorem Blk.new_ {w : World} {g : Nat} (h : w.heap.size = g) (t : TypeId) (cs : Array Value) : Blk (w.alloc (.cells cs t)) g t cs := by subst h; exact Blk.new w t cs
theorem RB.new (w : World) (l : List UInt8) (t : TypeId) (hm : l.length ≤ maxLen) : RB (w.alloc (.cells (bv l).toArray t)) (w.heap.size + 1) (some ⟨w.heap.size, 0, none⟩) l.length l.length l :=
  ⟨by have := reads_new w (bv l).toArray t 1 l.length (by simp [bv]); simpa using this, Nat.le_refl _, hm⟩
end Go.Proofs.YtkmieonfhcmimaaGreatDoor

/- Words for whole blocks: a row stored, a row loaded. No condition. -/
namespace Go.Proofs.YtkmieonfhcmimaaGreatDoor
open Go.RowKit
theorem below_setRow {B : Nat} {a w : World} (h : Below B a w) {g : Nat} (hg : B ≤ g) (cs : Array Value) : Below B a (w.setRow g cs) :=
  h.trans ⟨rfl, rfl, rfl, by simp [World.setRow], fun k hk => by simp only [World.setRow, Array.getElem?_modify]; rw [if_neg (by omega)]⟩
theorem Blk.row {w : World} {g : Nat} {t : TypeId} {cs : Array Value} (h : Blk w g t cs) (ds : Array Value) : Blk (w.setRow g ds) g t ds := by
  unfold Blk at h ⊢
  simp [World.setRow, Array.getElem?_modify, h]
theorem Blk.rowFar {w : World} {g g' : Nat} {t : TypeId} {cs : Array Value} (h : Blk w g t cs) (hne : g ≠ g') (ds : Array Value) : Blk (w.setRow g' ds) g t cs := by
  unfold Blk at h ⊢
  simp only [World.setRow, Array.getElem?_modify]
  rw [if_neg (fun e => hne e.symm)]
  exact h

theorem run_storeCells_row {P : Program} (w : World) (g : Nat) (t : TypeId) (old cells : Array Value) (hg : w.heap[g]? = some (.cells old t (0, 0)))
    (ho : old.size = cells.size) (h1 : cells.all (·.oneCell') = true) : (storeCells ⟨g, 0, none⟩ cells.toList).run P w = .ok () (w.setRow g cells) := by
  have := run_storeCells_from (P := P) g t cells.toList 0 old w hg (by simp; omega) (fun v hv => (Array.all_eq_true_iff_forall_mem.1 h1) v (by simpa using hv))
  simpa [ho] using this
theorem alloc_setRow (w : World) (old cs : Array Value) (t : TypeId) : (w.alloc (.cells old t)).setRow w.heap.size cs = w.alloc (.cells cs t) := by
  unfold World.setRow World.alloc
  congr 1
  apply Array.ext
  · simp
  · intro i h1 h2
    simp only [Array.getElem_modify, Array.getElem_push]
    simp at h1
    by_cases hi : i < w.heap.size
    · simp [hi]; intro hc; omega
    · have : i = w.heap.size := by omega
      subst this
      simp
theorem run_storeCells_new {P : Program} (w : World) (t : TypeId) (old cells : Array Value) (ho : old.size = cells.size) (h1 : cells.all (·.oneCell') = true) :
    (storeCells ⟨w.heap.size, 0, none⟩ cells.toList).run P (w.alloc (.cells old t)) = .ok () (w.alloc (.cells cells t)) := by
  rw [run_storeCells_row _ w.heap.size t old cells (heap_alloc_new _ _) ho h1, alloc_setRow]
theorem run_loadCells_row {P : Program} (w : World) (g n : Nat) (t : TypeId) (cs : Array Value) (hg : w.heap[g]? = some (.cells cs t (0, 0))) (hn : cs.size = n) :
    (loadCells ⟨g, 0, none⟩ n).run P w = .ok cs w := by
  subst hn
  have := run_loadCells_list (P := P) w ⟨g, 0, none⟩ cs.toList (fun j v hv => by
      have hadd : (⟨g, 0, none⟩ : Addr).add j = ⟨g, j, none⟩ := by unfold Addr.add; split <;> simp_all
      rw [hadd, cell_of_row w g j cs t (0, 0) hg]
      simpa using hv)
  simpa using this

theorem results_cell_tmp {P : Program} {fn : Func} {p q : Tmp} {ty : TypeId} (h : fn.results = #[.cell p ty, .tmp q]) (tmps : Array Value) (w : World) (g : Nat) (t : TypeId) (cs : Array Value) (fr : Nat × Nat) (d : TypeDesc)
    (hp : tmps.getD p undef = .pointer (some ⟨g, 0, none⟩)) (hg : w.heap[g]? = some (.cells cs t fr))
    (hu : P.underlying ty = some d) (hd : (match d with | .struct _ | .array _ _ => true | _ => false) = true) (hi : (P.info? ty).map (·.size) = some cs.size) :
    (results fn tmps).run P w = .ok (.tuple #[.agg cs, tmps.getD q undef]) w := by
  have hp' : tmps[p]?.getD undef = .pointer (some ⟨g, 0, none⟩) := by simpa using hp
  simp [results, h, hp', asAddr, run_loadVar_row w g t ty cs fr d hg hu hd hi]
end Go.Proofs.YtkmieonfhcmimaaGreatDoor

/- bytes.Clone, bytes.Equal, errors.New: what they return, for all bytes. No condition beyond the bytes' number. -/
namespace Go.Proofs.YtkmieonfhcmimaaGreatDoor
open Go.RowKit

theorem u8_info : (Tryz.prog.info? 5).map (fun i => (i.zero, i.size, i.bytes)) = some (some (.int .u8 0), 1, 1) := by kernel_rfl

/-- A slice of new memory that reads as bytes. -/
def OutB (l : List UInt8) (w : World) (e : Ending) (w' : World) : Prop :=
  ∃ A c, e = .returned (.slice A l.length c) ∧ RB w' w'.heap.size A l.length c l ∧ Below w.heap.size w w'

theorem OutB.of_own {l : List UInt8} {w w' : World} {v : Value} {n : Nat} {base : Nat} {ty : TypeId} (h : w'.ownsRow base ty 1 v n (bv l)) (hb : Below w.heap.size w w') : OutB l w (.returned v) w' := by
  have hn : l.length = n := by have := h.1; rw [bv_length] at this; omega
  subst hn
  obtain ⟨A, c, rfl⟩ := own_slice h
  exact ⟨A, c, rfl, RB.of_own h, hb⟩

set_option maxRecDepth 100000 in
set_option maxHeartbeats 1000000 in
theorem clone_any (A : Option Addr) (n c : Nat) (l : List UInt8) (w : World) (h : RB w w.heap.size A n c l) (hn : n ≤ 140737488355328) :
    Calls Tryz.prog 44 #[.slice A n c] w (OutB l w) := by
  obtain ⟨i0, hi0, hz0, hz1, hz2⟩ := info_parts u8_info
  have q : ∀ (w : World) (a : Option Addr) (n c n' c' : Nat), (binOp .eql 32 (.slice a n c) (.slice none n' c')).run Tryz.prog w = .ok (.bool a.isNone) w := fun w a n c n' c' => Lib.run_eql_slice_nil w _ _ a n c n' c' Tryz.underlying32
  have hlen := Lib.hid h.len
  rcases A with _ | a
  · have h0 : l = [] := by
      rcases Nat.eq_zero_or_pos n with h0 | h0
      · exact List.eq_nil_of_length_eq_zero (by rw [hlen.out, h0])
      · obtain ⟨ad, e1, _⟩ := h.reads.2 h0
        cases e1
    have H := Lib.hid h
    clear h
    go_enter Tryz.func44, Tryz.ntmps44
    go_wp2
    go_ret
    subst h0
    exact ⟨none, 0, rfl, RB.nil_ _ _, Below.refl _ _⟩
  · have H := Lib.hid h
    have hB := Lib.hid hn
    clear h hn
    go_enter Tryz.func44, Tryz.ntmps44
    go_wp2_with (at_builtin; refine wpList_append_any _ rfl (.tmp 5) (.tmp 6) _ rfl w.heap.size 5 i0 _ 1 1 Tryz.underlying32 hi0 hz0 hz1 hz2 rfl (by decide) _ _ _ rfl (World.ownsRow_made w #[] 0 (Nat.le_refl _) (Nat.zero_le _) rfl) w.heap.size (some a) n c (bv l) rfl (H.out.reads.alloc (Nat.le_refl _) _) (bv_one l) ?c1 ?c2 ?c3 ?_)
    case c1 => have := hB.out; unfold maxLen; omega
    case c2 => have := hB.out; omega
    case c3 => simp
    intro v' w1 hown hgrow _hat
    go_wp2
    go_ret
    exact OutB.of_own hown (((Below.refl _ w).alloc (Nat.le_refl _) _).grown hgrow (by simp) (by intro k hk; simp [Value.ownBlock] at hk; omega))

theorem equal_any (A B : Option Addr) (n c m d : Nat) (l k : List UInt8) (w : World) (h : RB w w.heap.size A n c l) (h' : RB w w.heap.size B m d k) :
    Calls Tryz.prog 14 #[.slice A n c, .slice B m d] w fun e w' => e = .returned (.bool (l == k)) ∧ w = w' := by
  have c1 := run_convert_RB h 32 5 Tryz.underlying32 Tryz.underlying5 9 Tryz.underlying9
  have c2 := run_convert_RB h' 32 5 Tryz.underlying32 Tryz.underlying5 9 Tryz.underlying9
  clear h h'
  go_enter Tryz.func14, Tryz.ntmps14
  go_wp2
  go_ret
  exact ⟨rfl, rfl⟩
end Go.Proofs.YtkmieonfhcmimaaGreatDoor
