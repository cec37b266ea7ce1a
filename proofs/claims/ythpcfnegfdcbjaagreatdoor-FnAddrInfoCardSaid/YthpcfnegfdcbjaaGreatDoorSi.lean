/-
  DERIVED: THE SHELF's CONTRACTS AT THIS DUMP, IN PLAIN WORDS (tools/lay-plain.mjs out of 'TryzShelf3.lean', which tools/lay-shelf.mjs wrote): THE SAME DECLARATIONS UNDER THE SAME NAMES: 'import', 'namespace', 'open', 'def', 'theorem' AND NOTHING ELSE: no command of the shelf's: FOR A HAND-IN. Each laying: the table of numbers ('.._ren') and one theorem, a field a fact of the dump's own or the kernel's comparison; each contract: ONE APPLICATION.
-/
import Derived.Shelf.LaysM
import Derived.Shelf.Strings.Builder1
import Derived.Shelf.Bytes.Len
import Derived.Shelf.Bytes.TryGrow
import Derived.Shelf.Bytes.GrowSlice
import Derived.Shelf.Bytes.Bytes
import Derived.Shelf.Bin.BEPutUint16
import Derived.Shelf.Pu.ParseUintPublic10
import Derived.Ground.MnProg
import Derived.Ground.MpProg
import Derived.Test.YthpcfnegfdcbjaaGreatDoorProg
namespace Go.Proofs
open Go.Shelf
def Tryz.lays169_ren : Go.Shelf.Ren := ⟨fun | 169 => 42 | n => n, fun | 70 => 86 | 9 => 9 | 0 => 0 | 72 => 88 | 37 => 26 | 127 => 119 | 3 => 3 | 5 => 5 | n => n, fun | n => n⟩
theorem Tryz.lays169 : Go.Proofs.Lays.n169 Tryz.prog Tryz.lays169_ren := {
  mixed := by kernel_rfl
  f169 := Tryz.func42.trans (congrArg some (by kernel_rfl))
  t0 := Tryz.underlying0
  a0 := Tryz.isAgg0
  z0 := Tryz.sizeOf0
  v0 := Tryz.zeroValue0
  t3 := Tryz.underlying3
  a3 := Tryz.isAgg3
  z3 := Tryz.sizeOf3
  v3 := Tryz.zeroValue3
  t9 := Tryz.underlying9
  a9 := Tryz.isAgg9
  z9 := Tryz.sizeOf9
  v9 := Tryz.zeroValue9
  t37 := Tryz.underlying26
  a37 := Tryz.isAgg26
  z37 := Tryz.sizeOf26
  v37 := Tryz.zeroValue26
  t70 := Tryz.underlying86
  a70 := Tryz.isAgg86
  z70 := Tryz.sizeOf86
  v70 := Tryz.zeroValue86
  t72 := Tryz.underlying88
  a72 := Tryz.isAgg88
  z72 := Tryz.sizeOf88
  v72 := Tryz.zeroValue88
  t127 := Tryz.underlying119
  a127 := Tryz.isAgg119
  z127 := Tryz.sizeOf119
  v127 := Tryz.zeroValue119 }
theorem Tryz.Builder_Extra_169 : Builder.Extra Tryz.prog Tryz.lays169_ren := {
  sizeBuilder := by kernel_rfl
  liesBuilder := by kernel_rfl
  t5 := Tryz.underlying5
  a5 := Tryz.isAgg5
  z5 := Tryz.sizeOf5
  v5 := Tryz.zeroValue5
  infoByte := by kernel_rfl
  cellsByte := by kernel_rfl
  sizeByte := by kernel_rfl
  neB5 := by decide }
open Go.RowKit in
/-- (*strings.Builder).String: "String returns the accumulated string.": WHATEVER THE BUILDER HOLDS. (LAID: no walk: one application.) -/
theorem Tryz.Builder_String_any (B b : Nat) (l : List UInt8) (w : World) (h : Lib.IsBuilder 88 5 B b (Lib.byteCells l) w) (hBw : B ≤ w.heap.size) :
    Calls Tryz.prog 42 #[.pointer (some ⟨b, 0, none⟩)] w fun e w' => e = .returned (.string ⟨l.toArray⟩) ∧ Below B w w' := Any.Builder_String_any Tryz.lays169 Tryz.Builder_Extra_169 B b l w h hBw
def Tryz.laysM181_ren : Go.Shelf.Ren := ⟨fun | 181 => 144 | n => n, fun | 130 => 168 | 3 => 3 | 0 => 0 | 93 => 144 | 37 => 26 | 91 => 142 | 5 => 5 | n => n, fun | n => n⟩
theorem Tryz.laysM181 : Go.Proofs.LaysM.n181 Tryz.prog Tryz.laysM181_ren := {
  mixed := by kernel_rfl
  f181 := Tryz.func144.trans (congrArg some (by kernel_rfl))
  t0 := Tryz.underlying0
  a0 := Tryz.isAgg0
  z0 := Tryz.sizeOf0
  v0 := Tryz.zeroValue0
  t3 := Tryz.underlying3
  a3 := Tryz.isAgg3
  z3 := Tryz.sizeOf3
  v3 := Tryz.zeroValue3
  t37 := Tryz.underlying26
  a37 := Tryz.isAgg26
  z37 := Tryz.sizeOf26
  v37 := Tryz.zeroValue26
  t93 := Tryz.underlying144
  a93 := Tryz.isAgg144
  z93 := Tryz.sizeOf144
  v93 := Tryz.zeroValue144
  t130 := Tryz.underlying168
  a130 := Tryz.isAgg168
  z130 := Tryz.sizeOf168
  v130 := Tryz.zeroValue168
  t5 := Tryz.underlying5
  a5 := Tryz.isAgg5
  z5 := Tryz.sizeOf5
  v5 := Tryz.zeroValue5
  t91 := Tryz.underlying142
  a91 := Tryz.isAgg142
  z91 := Tryz.sizeOf142
  v91 := Tryz.zeroValue142
  i0 := by kernel_rfl
  i3 := by kernel_rfl
  i5 := by kernel_rfl
  i37 := by kernel_rfl
  i91 := by kernel_rfl
  i93 := by kernel_rfl
  i130 := by kernel_rfl }
open Go.RowKit in
/-- (*bytes.Buffer).Len: "Len returns the number of bytes of the unread portion of the buffer; b.Len() == len(b.Bytes()).": the world is as it was but for the count of draws (the statement has two reads: its order is drawn). (LAID: no walk: one application.) -/
theorem Tryz.Buffer_Len (B b : Nat) (bs : List Value) (w : World) (h : Lib.IsBuffer 144 5 B b bs w) :
    Calls Tryz.prog 144 #[.pointer (some ⟨b, 0, none⟩)] w fun e w' => e = .returned (.int .i64 bs.length) ∧ ∃ n, w' = w.drewN n := Any.Buffer_Len Tryz.laysM181 B b bs w h
def Tryz.laysM251_ren : Go.Shelf.Ren := ⟨fun | 251 => 97 | n => n, fun | 130 => 168 | 3 => 3 | 4 => 4 | 0 => 0 | 93 => 144 | 37 => 26 | 91 => 142 | 5 => 5 | n => n, fun | n => n⟩
theorem Tryz.laysM251 : Go.Proofs.LaysM.n251 Tryz.prog Tryz.laysM251_ren := {
  mixed := by kernel_rfl
  f251 := Tryz.func97.trans (congrArg some (by kernel_rfl))
  t0 := Tryz.underlying0
  a0 := Tryz.isAgg0
  z0 := Tryz.sizeOf0
  v0 := Tryz.zeroValue0
  t3 := Tryz.underlying3
  a3 := Tryz.isAgg3
  z3 := Tryz.sizeOf3
  v3 := Tryz.zeroValue3
  t4 := Tryz.underlying4
  a4 := Tryz.isAgg4
  z4 := Tryz.sizeOf4
  v4 := Tryz.zeroValue4
  t37 := Tryz.underlying26
  a37 := Tryz.isAgg26
  z37 := Tryz.sizeOf26
  v37 := Tryz.zeroValue26
  t93 := Tryz.underlying144
  a93 := Tryz.isAgg144
  z93 := Tryz.sizeOf144
  v93 := Tryz.zeroValue144
  t130 := Tryz.underlying168
  a130 := Tryz.isAgg168
  z130 := Tryz.sizeOf168
  v130 := Tryz.zeroValue168
  t5 := Tryz.underlying5
  a5 := Tryz.isAgg5
  z5 := Tryz.sizeOf5
  v5 := Tryz.zeroValue5
  t91 := Tryz.underlying142
  a91 := Tryz.isAgg142
  z91 := Tryz.sizeOf142
  v91 := Tryz.zeroValue142
  i0 := by kernel_rfl
  i3 := by kernel_rfl
  i4 := by kernel_rfl
  i5 := by kernel_rfl
  i37 := by kernel_rfl
  i91 := by kernel_rfl
  i93 := by kernel_rfl
  i130 := by kernel_rfl }
open Go.RowKit in
/-- (*bytes.Buffer).tryGrowByReslice: "tryGrowByReslice is an inlineable version of grow for the fast-case where the internal buffer only needs to be resliced. It returns the index where bytes should be written and whether it succeeded.": THERE IS ROOM: 'buf' is resliced to l + n. (LAID: no walk: one application.) -/
theorem Tryz.Buffer_tryGrow_room (b : Nat) (ao : Option Addr) (l cap n : Nat) (w : World) (c0 : w.cell? ⟨b, 0, none⟩ = some (.slice ao l cap)) (f0 : w.frozen? ⟨b, 0, none⟩ = false) (hlc : l ≤ cap) (hcap : cap ≤ maxLen) (hn : n ≤ cap - l) :
    Calls Tryz.prog 97 #[.pointer (some ⟨b, 0, none⟩), .int .i64 n] w fun e w' => e = .returned (.tuple #[.int .i64 l, .bool true]) ∧ w' = w.setCell ⟨b, 0, none⟩ (.slice ao (l + n) cap) := Any.Buffer_tryGrow_room Tryz.laysM251 b ao l cap n w c0 f0 hlc hcap hn
open Go.RowKit in
/-- .. THERE IS NONE: nothing turns. (LAID: no walk: one application.) -/
theorem Tryz.Buffer_tryGrow_none (b : Nat) (ao : Option Addr) (l cap n : Nat) (w : World) (c0 : w.cell? ⟨b, 0, none⟩ = some (.slice ao l cap)) (hlc : l ≤ cap) (hcap : cap ≤ maxLen) (hn : cap - l < n) :
    Calls Tryz.prog 97 #[.pointer (some ⟨b, 0, none⟩), .int .i64 n] w fun e w' => e = .returned (.tuple #[.int .i64 0, .bool false]) ∧ w' = w := Any.Buffer_tryGrow_none Tryz.laysM251 b ao l cap n w c0 hlc hcap hn
def Tryz.laysM290_ren : Go.Shelf.Ren := ⟨fun | 290 => 146 | 324 => 164 | n => n, fun | 37 => 26 | 3 => 3 | 0 => 0 | 4 => 4 | 20 => 20 | 75 => 56 | 5 => 5 | 80 => 65 | 9 => 9 | n => n, fun | 14 => 4 | n => n⟩
theorem Tryz.laysM290 : Go.Proofs.LaysM.n290 Tryz.prog Tryz.laysM290_ren := {
  mixed := by kernel_rfl
  f290 := Tryz.func146.trans (congrArg some (by kernel_rfl))
  f324 := Tryz.func164.trans (congrArg some (by kernel_rfl))
  t0 := Tryz.underlying0
  a0 := Tryz.isAgg0
  z0 := Tryz.sizeOf0
  v0 := Tryz.zeroValue0
  t3 := Tryz.underlying3
  a3 := Tryz.isAgg3
  z3 := Tryz.sizeOf3
  v3 := Tryz.zeroValue3
  t4 := Tryz.underlying4
  a4 := Tryz.isAgg4
  z4 := Tryz.sizeOf4
  v4 := Tryz.zeroValue4
  t20 := Tryz.underlying20
  a20 := Tryz.isAgg20
  z20 := Tryz.sizeOf20
  v20 := Tryz.zeroValue20
  t37 := Tryz.underlying26
  a37 := Tryz.isAgg26
  z37 := Tryz.sizeOf26
  v37 := Tryz.zeroValue26
  t75 := Tryz.underlying56
  a75 := Tryz.isAgg56
  z75 := Tryz.sizeOf56
  v75 := Tryz.zeroValue56
  g14 := by kernel_rfl
  t5 := Tryz.underlying5
  a5 := Tryz.isAgg5
  z5 := Tryz.sizeOf5
  v5 := Tryz.zeroValue5
  t9 := Tryz.underlying9
  a9 := Tryz.isAgg9
  z9 := Tryz.sizeOf9
  v9 := Tryz.zeroValue9
  t80 := Tryz.underlying65
  a80 := Tryz.isAgg65
  z80 := Tryz.sizeOf65
  v80 := Tryz.zeroValue65
  i0 := by kernel_rfl
  i3 := by kernel_rfl
  i4 := by kernel_rfl
  i5 := by kernel_rfl
  i9 := by kernel_rfl
  i20 := by kernel_rfl
  i37 := by kernel_rfl
  i75 := by kernel_rfl
  i80 := by kernel_rfl
  m14 := by kernel_rfl }
open Go.RowKit in
/-- bytes.growSlice: "growSlice grows b by n, preserving the original content of b.": OF A SLICE THAT LIES AT THE HEAD OF A ROW: a new row, number 'w.heap.size': it begins with b's l cells; its capacity has room for n more; whatever lay below is as it was. (LAID: no walk: one application.) -/
theorem Tryz.bytes_growSlice_row (g l c n : Nat) (cur : Array Value) (w : World) (hg : w.heap[g]? = some (.cells cur 5 (0, 0))) (hcs : cur.size = c) (hlc : l ≤ c) (hn : 1 ≤ n) (hlim : l + n ≤ 140737488355328) (hc2 : c ≤ 140737488355328) (h1 : ∀ v ∈ cur.toList.take l, v.oneCell' = true) :
    Calls Tryz.prog 146 #[.slice (some ⟨g, 0, none⟩) l c, .int .i64 n] w fun e w' => ∃ cap2 cells, e = .returned (.slice (some ⟨w.heap.size, 0, none⟩) l cap2) ∧ w'.heap[w.heap.size]? = some (.cells cells 5 (0, 0)) ∧
      cells.size = cap2 ∧ cells.toList.take l = cur.toList.take l ∧ l + n ≤ cap2 ∧ cap2 ≤ maxLen ∧ Below w.heap.size w w' := Any.bytes_growSlice_row Tryz.laysM290 g l c n cur w hg hcs hlc hn hlim hc2 h1
def Tryz.laysM183_ren : Go.Shelf.Ren := ⟨fun | 183 => 81 | n => n, fun | 130 => 168 | 37 => 26 | 0 => 0 | 93 => 144 | 3 => 3 | 5 => 5 | 91 => 142 | n => n, fun | n => n⟩
theorem Tryz.laysM183 : Go.Proofs.LaysM.n183 Tryz.prog Tryz.laysM183_ren := {
  mixed := by kernel_rfl
  f183 := Tryz.func81.trans (congrArg some (by kernel_rfl))
  t0 := Tryz.underlying0
  a0 := Tryz.isAgg0
  z0 := Tryz.sizeOf0
  v0 := Tryz.zeroValue0
  t3 := Tryz.underlying3
  a3 := Tryz.isAgg3
  z3 := Tryz.sizeOf3
  v3 := Tryz.zeroValue3
  t37 := Tryz.underlying26
  a37 := Tryz.isAgg26
  z37 := Tryz.sizeOf26
  v37 := Tryz.zeroValue26
  t93 := Tryz.underlying144
  a93 := Tryz.isAgg144
  z93 := Tryz.sizeOf144
  v93 := Tryz.zeroValue144
  t130 := Tryz.underlying168
  a130 := Tryz.isAgg168
  z130 := Tryz.sizeOf168
  v130 := Tryz.zeroValue168
  t5 := Tryz.underlying5
  a5 := Tryz.isAgg5
  z5 := Tryz.sizeOf5
  v5 := Tryz.zeroValue5
  t91 := Tryz.underlying142
  a91 := Tryz.isAgg142
  z91 := Tryz.sizeOf142
  v91 := Tryz.zeroValue142
  i0 := by kernel_rfl
  i3 := by kernel_rfl
  i5 := by kernel_rfl
  i37 := by kernel_rfl
  i91 := by kernel_rfl
  i93 := by kernel_rfl
  i130 := by kernel_rfl }
open Go.RowKit in
/-- (*bytes.Buffer).Bytes: "Bytes returns a slice of length b.Len() holding the unread portion of the buffer. .. The slice aliases the buffer content at least until the next buffer modification": A SLICE THAT OWNS THE CELLS bs ('World.ownsRow': nil where nothing was ever written). The world is as it was but for the count of draws. (LAID: no walk: one application.) -/
theorem Tryz.Buffer_Bytes (B b : Nat) (bs : List Value) (w : World) (h : Lib.IsBuffer 144 5 B b bs w) :
    Calls Tryz.prog 81 #[.pointer (some ⟨b, 0, none⟩)] w fun e w' => ∃ v, e = .returned v ∧ w'.ownsRow B 5 1 v bs.length bs ∧ ∃ n, w' = w.drewN n := Any.Buffer_Bytes Tryz.laysM183 B b bs w h
def Tryz.laysBin37_ren : Go.Shelf.Ren := ⟨fun | 37 => 213 | n => n, fun | 37 => 193 | 22 => 26 | 23 => 195 | 0 => 0 | 5 => 5 | 45 => 108 | n => n, fun | n => n⟩
theorem Tryz.laysBin37 : Go.Proofs.LaysBin.n37 Tryz.prog Tryz.laysBin37_ren := {
  mixed := by kernel_rfl
  f37 := Tryz.func213.trans (congrArg some (by kernel_rfl))
  t0 := Tryz.underlying0
  a0 := Tryz.isAgg0
  z0 := Tryz.sizeOf0
  v0 := Tryz.zeroValue0
  i0 := by kernel_rfl
  t5 := Tryz.underlying5
  a5 := Tryz.isAgg5
  z5 := Tryz.sizeOf5
  v5 := Tryz.zeroValue5
  i5 := by kernel_rfl
  t22 := Tryz.underlying26
  a22 := Tryz.isAgg26
  z22 := Tryz.sizeOf26
  v22 := Tryz.zeroValue26
  i22 := by kernel_rfl
  t23 := Tryz.underlying195
  a23 := Tryz.isAgg195
  z23 := Tryz.sizeOf195
  v23 := Tryz.zeroValue195
  i23 := by kernel_rfl
  t37 := Tryz.underlying193
  a37 := Tryz.isAgg193
  z37 := Tryz.sizeOf193
  v37 := Tryz.zeroValue193
  i37 := by kernel_rfl
  t45 := Tryz.underlying108
  a45 := Tryz.isAgg108
  z45 := Tryz.sizeOf108
  v45 := Tryz.zeroValue108
  i45 := by kernel_rfl }
open Go.RowKit in
/-- binary.BigEndian.PutUint16: "PutUint16 stores v into b[0:2].": v's 2 BYTES, the greatest first ('Lib.beBytes 2 v'), ARE LAID IN THE SLICE's FIRST 2 CELLS ('World.setCells'); nothing else turns (the receiver, an empty struct, is laid in a new block without cells). (LAID: no walk: one application.) -/
theorem Tryz.binary_BE_PutUint16 (g o n c v : Nat) (hv : v < 65536) (x0 x1 : Value) (w : World) (hn : 2 ≤ n) (c0 : w.cell? ⟨g, o, none⟩ = some x0) (c1 : w.cell? ⟨g, o + 1, none⟩ = some x1) (f0 : w.frozen? ⟨g, o, none⟩ = false) (f1 : w.frozen? ⟨g, o + 1, none⟩ = false) :
    Calls Tryz.prog 213 #[.agg #[], .slice (some ⟨g, o, none⟩) n c, .int .u16 v] w fun e w' => e = .returned (.tuple #[]) ∧ w' = (w.alloc (.cells #[] 193)).setCells g o (Lib.byteCells (Lib.beBytes 2 v)) := Any.binary_BE_PutUint16 Tryz.laysBin37 g o n c v hv x0 x1 w hn c0 c1 f0 f1
def Tryz.laysPu14_ren : Go.Shelf.Ren := ⟨fun | 14 => 212 | 16 => 247 | 17 => 248 | 19 => 306 | 20 => 307 | 21 => 308 | 22 => 309 | 23 => 310 | 24 => 311 | 25 => 356 | 27 => 219 | 26 => 54 | 28 => 252 | 29 => 316 | 30 => 312 | 31 => 313 | 32 => 314 | 33 => 315 | 35 => 71 | 34 => 357 | 36 => 358 | 37 => 359 | 38 => 360 | 39 => 370 | 40 => 371 | n => n, fun | 9 => 9 | 3 => 3 | 22 => 132 | 24 => 56 | 25 => 190 | 4 => 4 | 34 => 263 | 5 => 5 | 36 => 108 | 37 => 26 | 0 => 0 | 39 => 266 | 21 => 21 | 44 => 318 | 47 => 119 | 50 => 137 | 48 => 135 | 2 => 2 | 52 => 269 | 55 => 270 | 59 => 320 | 60 => 130 | 20 => 20 | 61 => 321 | 65 => 109 | 66 => 278 | 67 => 65 | n => n, fun | 0 => 13 | 1 => 14 | 2 => 15 | 3 => 24 | 4 => 25 | n => n⟩
theorem Tryz.laysPu14 : Go.Proofs.LaysPu.n14 Tryz.prog Tryz.laysPu14_ren := {
  mixed := by kernel_rfl
  f14 := Tryz.func212.trans (congrArg some (by kernel_rfl))
  f16 := Tryz.func247.trans (congrArg some (by kernel_rfl))
  f17 := Tryz.func248.trans (congrArg some (by kernel_rfl))
  f19 := Tryz.func306.trans (congrArg some (by kernel_rfl))
  f20 := Tryz.func307.trans (congrArg some (by kernel_rfl))
  f21 := Tryz.func308.trans (congrArg some (by kernel_rfl))
  f22 := Tryz.func309.trans (congrArg some (by kernel_rfl))
  f23 := Tryz.func310.trans (congrArg some (by kernel_rfl))
  f24 := Tryz.func311.trans (congrArg some (by kernel_rfl))
  f25 := Tryz.func356.trans (congrArg some (by kernel_rfl))
  f26 := Tryz.func54.trans (congrArg some (by kernel_rfl))
  f27 := Tryz.func219.trans (congrArg some (by kernel_rfl))
  f28 := Tryz.func252.trans (congrArg some (by kernel_rfl))
  f29 := Tryz.func316.trans (congrArg some (by kernel_rfl))
  f30 := Tryz.func312.trans (congrArg some (by kernel_rfl))
  f31 := Tryz.func313.trans (congrArg some (by kernel_rfl))
  f32 := Tryz.func314.trans (congrArg some (by kernel_rfl))
  f33 := Tryz.func315.trans (congrArg some (by kernel_rfl))
  f34 := Tryz.func357.trans (congrArg some (by kernel_rfl))
  f35 := Tryz.func71.trans (congrArg some (by kernel_rfl))
  f36 := Tryz.func358.trans (congrArg some (by kernel_rfl))
  f37 := Tryz.func359.trans (congrArg some (by kernel_rfl))
  f38 := Tryz.func360.trans (congrArg some (by kernel_rfl))
  f39 := Tryz.func370.trans (congrArg some (by kernel_rfl))
  f40 := Tryz.func371.trans (congrArg some (by kernel_rfl))
  t0 := Tryz.underlying0
  a0 := Tryz.isAgg0
  z0 := Tryz.sizeOf0
  v0 := Tryz.zeroValue0
  i0 := by kernel_rfl
  t2 := Tryz.underlying2
  a2 := Tryz.isAgg2
  z2 := Tryz.sizeOf2
  v2 := Tryz.zeroValue2
  i2 := by kernel_rfl
  t3 := Tryz.underlying3
  a3 := Tryz.isAgg3
  z3 := Tryz.sizeOf3
  v3 := Tryz.zeroValue3
  i3 := by kernel_rfl
  t4 := Tryz.underlying4
  a4 := Tryz.isAgg4
  z4 := Tryz.sizeOf4
  v4 := Tryz.zeroValue4
  i4 := by kernel_rfl
  t5 := Tryz.underlying5
  a5 := Tryz.isAgg5
  z5 := Tryz.sizeOf5
  v5 := Tryz.zeroValue5
  i5 := by kernel_rfl
  t9 := Tryz.underlying9
  a9 := Tryz.isAgg9
  z9 := Tryz.sizeOf9
  v9 := Tryz.zeroValue9
  i9 := by kernel_rfl
  t20 := Tryz.underlying20
  a20 := Tryz.isAgg20
  z20 := Tryz.sizeOf20
  v20 := Tryz.zeroValue20
  i20 := by kernel_rfl
  t21 := Tryz.underlying21
  a21 := Tryz.isAgg21
  z21 := Tryz.sizeOf21
  v21 := Tryz.zeroValue21
  i21 := by kernel_rfl
  t22 := Tryz.underlying132
  a22 := Tryz.isAgg132
  z22 := Tryz.sizeOf132
  v22 := Tryz.zeroValue132
  i22 := by kernel_rfl
  t24 := Tryz.underlying56
  a24 := Tryz.isAgg56
  z24 := Tryz.sizeOf56
  v24 := Tryz.zeroValue56
  i24 := by kernel_rfl
  t25 := Tryz.underlying190
  a25 := Tryz.isAgg190
  z25 := Tryz.sizeOf190
  v25 := Tryz.zeroValue190
  i25 := by kernel_rfl
  t34 := Tryz.underlying263
  a34 := Tryz.isAgg263
  z34 := Tryz.sizeOf263
  v34 := Tryz.zeroValue263
  i34 := by kernel_rfl
  c34 := by kernel_rfl
  t36 := Tryz.underlying108
  a36 := Tryz.isAgg108
  z36 := Tryz.sizeOf108
  v36 := Tryz.zeroValue108
  i36 := by kernel_rfl
  t37 := Tryz.underlying26
  a37 := Tryz.isAgg26
  z37 := Tryz.sizeOf26
  v37 := Tryz.zeroValue26
  i37 := by kernel_rfl
  t39 := Tryz.underlying266
  a39 := Tryz.isAgg266
  z39 := Tryz.sizeOf266
  v39 := Tryz.zeroValue266
  i39 := by kernel_rfl
  t44 := Tryz.underlying318
  a44 := Tryz.isAgg318
  z44 := Tryz.sizeOf318
  v44 := Tryz.zeroValue318
  i44 := by kernel_rfl
  t47 := Tryz.underlying119
  a47 := Tryz.isAgg119
  z47 := Tryz.sizeOf119
  v47 := Tryz.zeroValue119
  i47 := by kernel_rfl
  t48 := Tryz.underlying135
  a48 := Tryz.isAgg135
  z48 := Tryz.sizeOf135
  v48 := Tryz.zeroValue135
  i48 := by kernel_rfl
  t50 := Tryz.underlying137
  a50 := Tryz.isAgg137
  z50 := Tryz.sizeOf137
  v50 := Tryz.zeroValue137
  i50 := by kernel_rfl
  t52 := Tryz.underlying269
  a52 := Tryz.isAgg269
  z52 := Tryz.sizeOf269
  v52 := Tryz.zeroValue269
  i52 := by kernel_rfl
  t55 := Tryz.underlying270
  a55 := Tryz.isAgg270
  z55 := Tryz.sizeOf270
  v55 := Tryz.zeroValue270
  i55 := by kernel_rfl
  t59 := Tryz.underlying320
  a59 := Tryz.isAgg320
  z59 := Tryz.sizeOf320
  v59 := Tryz.zeroValue320
  i59 := by kernel_rfl
  t60 := Tryz.underlying130
  a60 := Tryz.isAgg130
  z60 := Tryz.sizeOf130
  v60 := Tryz.zeroValue130
  i60 := by kernel_rfl
  t61 := Tryz.underlying321
  a61 := Tryz.isAgg321
  z61 := Tryz.sizeOf321
  t65 := Tryz.underlying109
  a65 := Tryz.isAgg109
  z65 := Tryz.sizeOf109
  v65 := Tryz.zeroValue109
  i65 := by kernel_rfl
  t66 := Tryz.underlying278
  a66 := Tryz.isAgg278
  z66 := Tryz.sizeOf278
  v66 := Tryz.zeroValue278
  i66 := by kernel_rfl
  t67 := Tryz.underlying65
  a67 := Tryz.isAgg65
  z67 := Tryz.sizeOf65
  v67 := Tryz.zeroValue65
  i67 := by kernel_rfl
  g0 := by kernel_rfl
  m0 := by kernel_rfl
  g1 := by kernel_rfl
  m1 := by kernel_rfl
  g2 := by kernel_rfl
  m2 := by kernel_rfl
  g3 := by kernel_rfl
  m3 := by kernel_rfl
  g4 := by kernel_rfl
  m4 := by kernel_rfl }
open Go.RowKit in
/-- strconv.ParseUint(s, 10, 16), AT EVERY STRING THAT SPELLS A uint16 ('Lib.parseUintB 16 s.data.toList = .ok u'): u, AND NO ERROR. (LAID: no walk: one application.) -/
theorem Tryz.strconv_ParseUint_10_at16_ok (s : ByteArray) (hmax : s.size ≤ 9223372036854775806) (u : Nat) (h : Lib.parseUintB 16 s.data.toList = .ok u) (w : World) :
    Calls Tryz.prog 212 #[.string s, .int .i64 10, .int .i64 16] w fun e w' => e = .returned (.tuple #[.int .u64 u, .nilIface]) ∧ (w' = w ∨ w' = Lib.bytesWorld w 5 s) := Any.strconv_ParseUint_10_at16_ok Tryz.laysPu14 s hmax u h w
end Go.Proofs
