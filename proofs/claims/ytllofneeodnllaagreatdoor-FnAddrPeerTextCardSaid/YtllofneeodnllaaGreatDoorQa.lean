/- slices.Clone of parts of an address: a slice that reads as the same parts. -/
import Derived.Test.YtllofneeodnllaaGreatDoorXm
namespace Go.Proofs.YtllofneeodnllaaGreatDoor
open Go.RowKit
attribute [local go_sem ↓] Go.wp_at_zero Go.wp_at_succ
theorem hop_info : (Tryz.prog.info? 32).map (fun i => (i.zero, i.size, i.bytes)) = some (some (.agg #[.int .u8 0, .slice none 0 0]), 2, 32) := by kernel_rfl
/-- The cells of parts. -/
def hopCells (hs : List Hop) : List Value := hs.flatMap fun h => [.int .u8 h.kd, .slice h.A h.n h.c]
theorem hopCells_cons (h : Hop) (hs : List Hop) : hopCells (h :: hs) = .int .u8 h.kd :: .slice h.A h.n h.c :: hopCells hs := by simp [hopCells]
theorem hopCells_length (hs : List Hop) : (hopCells hs).length = hs.length * 2 := by
  induction hs with
  | nil => rfl
  | cons h hs ih => rw [hopCells_cons]; simp only [List.length_cons, ih]; omega
theorem hopCells_one (hs : List Hop) : ∀ u ∈ hopCells hs, u.oneCell' = true := by
  intro u hu
  simp only [hopCells, List.mem_flatMap] at hu
  obtain ⟨x, _, hx⟩ := hu
  simp at hx
  rcases hx with rfl | rfl <;> rfl
theorem hopCells_get (hs : List Hop) : ∀ i (hi : i < hs.length), (hopCells hs)[i * 2]? = some (.int .u8 (hs[i]).kd) ∧ (hopCells hs)[i * 2 + 1]? = some (.slice (hs[i]).A (hs[i]).n (hs[i]).c) := by
  induction hs with
  | nil => intro i hi; exact absurd hi (by simp)
  | cons h hs ih =>
    intro i hi
    rw [hopCells_cons]
    rcases i with _ | i
    · exact ⟨rfl, rfl⟩
    · have := ih i (by simpa using hi)
      rw [show (i + 1) * 2 = i * 2 + 1 + 1 by omega]
      simpa using this
theorem HS.reads {w : World} {B : Nat} {A : Option Addr} {n c : Nat} {hs : List Hop} (h : HS w B A n c hs) : Reads w B 2 A n (hopCells hs) := by
  refine ⟨by rw [hopCells_length, h.len], fun hn => ?_⟩
  obtain ⟨ad, e, hlt, _⟩ := h.at_ 0 (by rw [h.len]; exact hn)
  refine ⟨ad, e, hlt, fun j u hj => ?_⟩
  have hjl : j < hs.length * 2 := by rw [← hopCells_length]; exact (List.getElem?_eq_some_iff.1 hj).1
  obtain ⟨ad', e', _, c0, c1, _⟩ := h.at_ (j / 2) (by omega)
  rw [e] at e'
  injection e' with e'
  subst e'
  have hg := hopCells_get hs (j / 2) (by omega)
  rcases Nat.mod_two_eq_zero_or_one j with h0 | h1
  · have ej : j = j / 2 * 2 := by omega
    rw [ej, hg.1] at hj
    injection hj with hj
    rw [ej, c0, hj]
  · have ej : j = j / 2 * 2 + 1 := by omega
    rw [ej, hg.2] at hj
    injection hj with hj
    rw [ej, c1, hj]
theorem HS.of_own {w : World} {base : Nat} {e : TypeId} {A : Option Addr} {n c : Nat} {hs : List Hop} (h : w.ownsRow base e 2 (.slice A n c) n (hopCells hs)) (hr : ∀ i (hi : i < hs.length), RB w w.heap.size (hs[i]).A (hs[i]).n (hs[i]).c (hs[i]).l) : HS w w.heap.size A n c hs := by
  have hrd := Reads.of_own h
  have hln : hs.length = n := by have := hrd.1; rw [hopCells_length] at this; omega
  refine ⟨hln, ?_, ?_, fun i hi => ?_⟩
  · rcases h.2 with ⟨hv, h0⟩ | ⟨g, cap, cur, hv, _, _, hle, _⟩
    · injection hv with _ h1 hc; omega
    · injection hv with _ _ hc; omega
  · rcases h.2 with ⟨hv, h0⟩ | ⟨g, cap, cur, hv, _, _, _, hle, _⟩
    · injection hv with _ _ hc; subst hc; simp [maxLen]
    · injection hv with _ _ hc; subst hc; exact hle
  · obtain ⟨ad, e1, hlt, hc⟩ := hrd.2 (by omega)
    have hg := hopCells_get hs i hi
    exact ⟨ad, e1, hlt, hc _ _ hg.1, hc _ _ hg.2, hr i hi⟩
theorem HS.next {w w' : World} {A : Option Addr} {n c : Nat} {hs : List Hop} (h : HS w w.heap.size A n c hs) (hb : Below w.heap.size w w') : HS w' w'.heap.size A n c hs := (h.below hb).more hb.size
/-- A slice of new memory that reads as parts. -/
def OutH (hs : List Hop) (w : World) (e : Ending) (w' : World) : Prop :=
  ∃ A c, e = .returned (.slice A hs.length c) ∧ HS w' w'.heap.size A hs.length c hs ∧ Below w.heap.size w w'
set_option maxRecDepth 100000 in
set_option maxHeartbeats 1000000 in
theorem clone_hops (A : Option Addr) (n c : Nat) (hs : List Hop) (w : World) (h : HS w w.heap.size A n c hs) (hn : n ≤ 1000) :
    Calls Tryz.prog 10 #[.slice A n c] w (OutH hs w) := by
  obtain ⟨i0, hi0, hz0, hz1, hz2⟩ := info_parts hop_info
  have q : ∀ (w : World) (a : Option Addr) (n c n' c' : Nat), (binOp .eql 22 (.slice a n c) (.slice none n' c')).run Tryz.prog w = .ok (.bool a.isNone) w := fun w a n c n' c' => Lib.run_eql_slice_nil w _ _ a n c n' c' Tryz.underlying22
  have HL := Lib.hid h.len
  rcases A with _ | a
  · have h0 : hs = [] := by
      rcases Nat.eq_zero_or_pos hs.length with h0 | h0
      · exact List.eq_nil_of_length_eq_zero h0
      · obtain ⟨ad, e1, _⟩ := h.at_ 0 h0
        cases e1
    clear h
    go_enter Tryz.func10, Tryz.ntmps10
    go_wp2
    go_ret
    subst h0
    exact ⟨none, 0, rfl, ⟨rfl, Nat.le_refl _, by simp [maxLen], fun i hi => absurd hi (by simp)⟩, Below.refl _ _⟩
  · have H := Lib.hid h
    have hB := Lib.hid hn
    clear h hn
    go_enter Tryz.func10, Tryz.ntmps10
    go_wp2_with (at_builtin; refine wpList_append_any _ rfl (.tmp 5) (.tmp 6) _ rfl w.heap.size 32 i0 _ 2 32 Tryz.underlying22 hi0 hz0 hz1 hz2 rfl (by decide) _ _ _ rfl (own_made_at w _ rfl _ 2 (Nat.le_refl _)) w.heap.size (some a) n c (hopCells hs) rfl (H.out.reads.alloc (Nat.le_refl _) _) (hopCells_one hs) ?c1 ?c2 ?c3 ?_)
    case c1 => have := hB.out; unfold maxLen; omega
    case c2 => have := hB.out; omega
    case c3 => simp
    intro v' w1 hown hgrow _hat
    obtain rfl := HL.out
    obtain ⟨A1, c1, rfl⟩ := own_slice hown
    have hbw : Below w.heap.size w w1 := ((Below.refl _ w).alloc (Nat.le_refl _) _).grown hgrow (by simp) (by intro k hk; simp [Value.ownBlock] at hk; omega)
    have HS1 := Lib.hid (HS.of_own hown (fun i hi => by obtain ⟨_, _, _, _, _, hr⟩ := H.out.at_ i hi; exact hr.next hbw))
    have HB1 := Lib.hid hbw
    clear hown hgrow _hat hbw
    go_wp2
    go_ret
    exact ⟨A1, c1, rfl, HS1.out, HB1.out⟩
end Go.Proofs.YtllofneeodnllaaGreatDoor
