/- A component of a known protocol stands its check. -/
import Derived.Test.YtghddiboggdhcaaGreatDoorPi
namespace Go.Proofs.YtghddiboggdhcaaGreatDoor
open Go.RowKit
variable {K : Nat}
attribute [local go_sem ↓] Go.wp_at_zero Go.wp_at_succ
def pc (nm : ByteArray) (code : Int) (m : Nat) (z : Int) (tc : Value) (g : Nat) : Array Value := #[.string nm, .int .i64 code, .slice (some ⟨g, 0, none⟩) m m, .int .i64 z, .bool false, tc]
structure Cmp (w : World) (q : Nat) (l : List UInt8) (p vs g : Nat) (nm : ByteArray) (code z : Int) (tc : Value) (vc : List UInt8) : Prop where
  comp : Blk w q 81 (ccells l p vs)
  prot : Blk w p 77 (pc nm code vc.length z tc g)
  vco : Blk w g 5 (bv vc).toArray
section
variable {w w' : World} {q : Nat} {l : List UInt8} {p vs g : Nat} {nm : ByteArray} {code z : Int} {tc : Value} {vc : List UInt8}
theorem Cmp.below (h : Cmp w q l p vs g nm code z tc vc) (hb : Below w.heap.size w w') : Cmp w' q l p vs g nm code z tc vc := ⟨h.comp.below hb h.comp.lt, h.prot.below hb h.prot.lt, h.vco.below hb h.vco.lt⟩
theorem Cmp.drewN (h : Cmp w q l p vs g nm code z tc vc) (n : Nat) : Cmp (w.drewN n) q l p vs g nm code z tc vc := ⟨h.comp, h.prot, h.vco⟩
theorem Cmp.drew (h : Cmp w q l p vs g nm code z tc vc) : Cmp w.drew q l p vs g nm code z tc vc := ⟨h.comp, h.prot, h.vco⟩
theorem Cmp.cells (h : Cmp w q l p vs g nm code z tc vc) : w.cell? ⟨q, 0, none⟩ = some (.string ⟨l.toArray⟩) ∧ w.cell? ⟨q, 1, none⟩ = some (.pointer (some ⟨p, 0, none⟩)) ∧ w.cell? ⟨q, 2, none⟩ = some (.int .i64 vs) ∧
    w.cell? ⟨p, 2, none⟩ = some (.slice (some ⟨g, 0, none⟩) vc.length vc.length) ∧ w.cell? ⟨p, 3, none⟩ = some (.int .i64 z) ∧ w.cell? ⟨p, 5, none⟩ = some tc :=
  ⟨h.comp.cell 0, h.comp.cell 1, h.comp.cell 2, h.prot.cell 2, h.prot.cell 3, h.prot.cell 5⟩
theorem RB.of_blk {vc : List UInt8} (h : Blk w g 5 (bv vc).toArray) (hm : vc.length ≤ maxLen) : RB w w.heap.size (some ⟨g, 0, none⟩) vc.length vc.length vc := by
  refine ⟨⟨by simp [bv], fun _ => ⟨_, rfl, h.lt, fun j u hu => ?_⟩⟩, Nat.le_refl _, hm⟩
  have hadd : (⟨g, 0, none⟩ : Addr).add j = ⟨g, j, none⟩ := by unfold Addr.add; split <;> simp_all
  rw [hadd, h.cell j]
  simpa using hu
def Car (K : Nat) (w0 w : World) (q : Nat) (l : List UInt8) (p vs g : Nat) (nm : ByteArray) (code z : Int) (tc : Value) (vc : List UInt8) : Prop := Below w0.heap.size w0 w ∧ Tab K w ∧ Cmp w q l p vs g nm code z tc vc
theorem Car.below {w0 : World} (h : Car K w0 w q l p vs g nm code z tc vc) (hb : Below w.heap.size w w') : Car K w0 w' q l p vs g nm code z tc vc := ⟨h.1.trans (hb.mono h.1.size), h.2.1.below hb, h.2.2.below hb⟩
theorem Car.drewN {w0 : World} (h : Car K w0 w q l p vs g nm code z tc vc) (n : Nat) : Car K w0 (w.drewN n) q l p vs g nm code z tc vc := ⟨below_drewN h.1 n, h.2.1.drewN n, h.2.2.drewN n⟩
theorem Car.drew {w0 : World} (h : Car K w0 w q l p vs g nm code z tc vc) : Car K w0 w.drew q l p vs g nm code z tc vc := ⟨h.1.drew, h.2.1.drew, h.2.2.drew⟩
theorem Car.held {w0 : World} (h : Car K w0 w q l p vs g nm code z tc vc) : Car K w0 w q l p vs g nm code z tc vc ∧ w.cell? ⟨q, 0, none⟩ = some (.string ⟨l.toArray⟩) ∧ w.cell? ⟨q, 1, none⟩ = some (.pointer (some ⟨p, 0, none⟩)) ∧ w.cell? ⟨q, 2, none⟩ = some (.int .i64 vs) ∧
    w.cell? ⟨p, 2, none⟩ = some (.slice (some ⟨g, 0, none⟩) vc.length vc.length) ∧ w.cell? ⟨p, 3, none⟩ = some (.int .i64 z) ∧ w.cell? ⟨p, 5, none⟩ = some tc := ⟨h, h.2.2.cells⟩
end
theorem wp_gen {P : Program} {c : Code} {Q : Exit → Act → World → Prop} {a : Act} {W : World} (C : World → Prop) (hC : C W) (h : ∀ w1, C w1 → c.wp P Q a w1) : c.wp P Q a W := h W hC
theorem method_val (a b : Nat) (v : Value) (n : Nat) (w : World) : (method (n + 1) 147 (.agg #[.func (Fn.func a) #[] #[], .func (Fn.func b) #[] #[], v]) "ValidateBytes").run Tryz.prog w = .ok (371, .agg #[.func (Fn.func a) #[] #[], .func (Fn.func b) #[] #[], v]) w := by kernel_rfl
end Go.Proofs.YtghddiboggdhcaaGreatDoor
