/- SHA-256 as the reference has it: each function by its own Lean function. -/
import Derived.Test.YtghddiboggdhcaaGreatDoorXf
import Derived.Deep.QuietTactic
import Derived.BigQuiet
import Derived.StillTailTactics
import Derived.Deep.RegionHeld3
import Derived.Handy
set_option maxRecDepth 100000
set_option maxHeartbeats 2000000
namespace Go.Proofs.YtghddiboggdhcaaGreatDoor
open Go.RowKit
def tn (x : Int) (n : Nat) : Int := bits BinOp.or IntKind.u32 (x / 2 ^ n) (x * 2 ^ (32 - n) % 4294967296)
theorem turn_any (x m : Int) (n : Nat) (w : World) (hm : m = n) (hn : n < 32) (hn0 : 0 < n) : Calls Tryz.prog 66 #[.int .u32 x, .int .i64 m] w fun e w' => e = .returned (.int .u32 (tn x n)) ∧ ∃ q, w' = w.drewN q := by
  subst hm
  have e1 : IntKind.i64.wrap (32 - (n : Int)) = 32 - (n : Int) := IntWalk.i64_in _ (by omega)
  have e2 : (0 : Int) ≤ 32 - (n : Int) := by omega
  go_enter Tryz.func66, Tryz.ntmps66
  go_wp2
  go_quiet (fail)
  go_wp2
  go_ret
  exact ⟨rfl, nq, rfl⟩
theorem turn_int (x m : Int) (w : World) (h0 : 0 < m) (h1 : m < 32) : Calls Tryz.prog 66 #[.int .u32 x, .int .i64 m] w fun e w' => e = .returned (.int .u32 (tn x m.toNat)) ∧ ∃ q, w' = w.drewN q :=
  turn_any x m m.toNat w (by omega) (by omega) (by omega)
def held (w : World) (a : Addr) : Value := (w.cell? a).getD undef
theorem held_there {w : World} {a : Addr} {v : Value} (h : w.cell? a = some v) : w.cell? a = some (held w a) := by rw [held, h]; rfl
theorem held_drew (w : World) (a : Addr) : held w.drew a = held w a := rfl
theorem held_drewN (w : World) (n : Nat) (a : Addr) : held (w.drewN n) a = held w a := rfl
theorem held_same (w : World) (a : Addr) (u : Value) (h : (w.cell? a).isSome = true) : held (w.setCell a u) a = u := by
  rw [held, World.cell?_setCell_same' w a u h]; rfl
attribute [local go_sem] held_drew held_drewN held_same
def by_ (l : List UInt8) (j : Nat) : Int := (l.getD j 0).toNat
def word (l : List UInt8) (k : Nat) : Int :=
  bits BinOp.or IntKind.u32 (bits BinOp.or IntKind.u32 (bits BinOp.or IntKind.u32 (by_ l (4 * k) % 4294967296 * 16777216 % 4294967296) (by_ l (4 * k + 1) % 4294967296 * 65536 % 4294967296))
    (by_ l (4 * k + 2) % 4294967296 * 256 % 4294967296)) (by_ l (4 * k + 3) % 4294967296)
def W1 (l : List UInt8) : Nat → List Int
  | 0 => List.replicate 64 0
  | k + 1 => (W1 l k).set k (word l k)
theorem W1_length (l : List UInt8) : ∀ k, (W1 l k).length = 64
  | 0 => by simp [W1]
  | k + 1 => by simp [W1, W1_length l k]
def wmix (x16 x7 x15 x2 : Int) : Int :=
  IntKind.u32.wrap (IntKind.u32.wrap (IntKind.u32.wrap (x16 + x7) + bits BinOp.xor IntKind.u32 (bits BinOp.xor IntKind.u32 (tn x15 7) (tn x15 18)) (x15 / 8)) + bits BinOp.xor IntKind.u32 (bits BinOp.xor IntKind.u32 (tn x2 17) (tn x2 19)) (x2 / 1024))
def wstep (W : List Int) (i : Nat) : Int := wmix (W.getD (i - 16) 0) (W.getD (i - 7) 0) (W.getD (i - 15) 0) (W.getD (i - 2) 0)
def W2 (l : List UInt8) : Nat → List Int
  | 0 => W1 l 16
  | j + 1 => (W2 l j).set (16 + j) (wstep (W2 l j) (16 + j))
theorem W2_length (l : List UInt8) : ∀ k, (W2 l k).length = 64
  | 0 => W1_length l 16
  | k + 1 => by simp [W2, W2_length l k]
def c32 (l : List Int) : Array Value := (l.map (Value.int .u32)).toArray
theorem c32_set (l : List Int) (k : Nat) (x : Int) : (c32 l).setIfInBounds k (.int .u32 x) = c32 (l.set k x) := by simp [c32, List.map_set]
theorem c32_get (l : List Int) (k : Nat) (h : k < l.length) : (c32 l)[k]? = some (.int .u32 (l.getD k 0)) := by simp [c32, List.getD, h]
theorem RB.byte {w : World} {B n c : Nat} {a : Addr} {l : List UInt8} (h : RB w B (some a) n c l) (j : Nat) (hj : j < n) (z : Int) (hz : z.toNat = j) : w.cell? (a.add z.toNat) = some (.int .u8 (by_ l j)) := by
  subst hz
  have hl := h.len
  obtain ⟨ad, e, _, hc⟩ := h.at_ hj (by omega)
  injection e with e
  subst e
  rw [hc]
  unfold by_
  rw [List.getD_eq_getElem?_getD, List.getElem?_eq_getElem (by omega)]
  rfl
theorem c32_size (l : List Int) : (c32 l).size = l.length := by simp [c32]
theorem c32_one (l : List Int) : (c32 l).all (·.oneCell') = true := by simp [c32, Value.oneCell']
def keysL : List Int := [1116352408, 1899447441, 3049323471, 3921009573, 961987163, 1508970993, 2453635748, 2870763221, 3624381080, 310598401, 607225278, 1426881987, 1925078388, 2162078206, 2614888103, 3248222580, 3835390401, 4022224774, 264347078, 604807628, 770255983, 1249150122, 1555081692, 1996064986, 2554220882, 2821834349, 2952996808, 3210313671, 3336571891, 3584528711, 113926993, 338241895, 666307205, 773529912, 1294757372, 1396182291, 1695183700, 1986661051, 2177026350, 2456956037, 2730485921, 2820302411, 3259730800, 3345764771, 3516065817, 3600352804, 4094571909, 275423344, 430227734, 506948616, 659060556, 883997877, 958139571, 1322822218, 1537002063, 1747873779, 1955562222, 2024104815, 2227730452, 2361852424, 2428436474, 2756734187, 3204031479, 3329325298]
theorem size_u32x64 : (Tryz.prog.info? 132).map (·.size) = some 64 := by kernel_rfl
theorem size_u32x8 : (Tryz.prog.info? 122).map (·.size) = some 8 := by kernel_rfl
theorem keys_any (w : World) : Calls Tryz.prog 67 #[] w fun e w' => e = .returned (.agg (c32 keysL)) ∧ Below w.heap.size w w' := by
  go_enter Tryz.func67, Tryz.ntmps67
  go_wp2_with (with_reducible refine wpList_store_row rfl 132 (.tmp 0) (.tmp 1) rfl w.heap.size (c32 keysL) ?i0 ?i1 132 _ (heap_alloc_new w _) ?i2 ?i3 ?i4 ?_)
  case i0 => rfl
  case i1 => rfl
  case i2 => rw [c32_size]; exact size_u32x64
  case i3 => rw [c32_size]; rfl
  case i4 => exact c32_one _
  exact bodyPost_ret (results_cell_row rfl _ _ w.heap.size 132 (c32 keysL) (0, 0) _ rfl ((Blk.new w 132 _).row _) Tryz.underlying132 rfl (by rw [c32_size]; exact size_u32x64)) rfl ⟨rfl, below_setRow ((Below.refl _ w).alloc (Nat.le_refl _) _) (Nat.le_refl _) _⟩
end Go.Proofs.YtghddiboggdhcaaGreatDoor
