/- readComponent at any part of an address; readMultiaddr: all of them, in their order. -/
import Derived.Test.YtimakhadabenbaaGreatDoorPl
import Derived.Test.YtimakhadabenbaaGreatDoorXm
namespace Go.Proofs.YtimakhadabenbaaGreatDoor
open Go.RowKit
variable {K : Nat}
def codeOf (kd : Nat) : Nat := if kd % 8 = 0 then 4 else if kd % 8 = 1 then 6 else if kd % 8 = 2 then 273 else if kd % 8 = 3 then 461 else if kd % 8 = 4 then 477 else if kd % 8 = 5 then 290 else if kd % 8 = 6 then 421 else 41
def vsOf (kd : Nat) : Nat := if kd % 8 = 0 then 1 else if kd % 8 = 1 then 1 else if kd % 8 = 2 then 2 else if kd % 8 = 3 then 2 else if kd % 8 = 4 then 2 else if kd % 8 = 5 then 2 else if kd % 8 = 6 then 3 else 1
/-- An ID: its first two bytes, and the rest. -/
theorem id_form (l : List UInt8) : ∃ (x y : UInt8) (v : Nat) (d : List UInt8), idOf l = x :: y :: d ∧ x.toNat = v ∧ y.toNat = d.length ∧ d.length ≤ 42 ∧ (v = 0 ∨ v = 18 ∧ d.length = 32) := by
  unfold idOf
  split
  · exact ⟨0, UInt8.ofNat l.length, 0, l, rfl, rfl, by simp; omega, by omega, Or.inl rfl⟩
  · have hs : (shaSum l).length = 32 := by unfold shaSum; exact shaOut_length _ _
    generalize shaSum l = s at hs
    exact ⟨18, 32, 18, s, rfl, rfl, by rw [hs]; rfl, by omega, Or.inr ⟨rfl, hs⟩⟩

/-- The numbers that the text of a part shows are below K. -/
def HopOk (K kd : Nat) (l : List UInt8) : Prop := 65536 ≤ K ∨ ((kd % 8 = 0 → ∀ b ∈ filled l 4, b.toNat < K) ∧ (kd % 8 = 1 ∨ kd % 8 = 2 → Lib.beNat (filled l 2) < K) ∧ kd % 8 ≠ 7)
theorem HopOk.ip {K kd : Nat} {l : List UInt8} (h : HopOk K kd l) (e : kd % 8 = 0) : ∀ b ∈ filled l 4, b.toNat < K := by
  rcases h with h | h
  · exact fun b _ => Nat.lt_of_lt_of_le b.toNat_lt (by omega)
  · exact h.1 e
theorem HopOk.port {K kd : Nat} {l : List UInt8} (h : HopOk K kd l) (e : kd % 8 = 1 ∨ kd % 8 = 2) : Lib.beNat (filled l 2) < K := by
  rcases h with h | h
  · have f2 := filled_length l 2
    generalize filled l 2 = d at f2
    match d, f2 with
    | [b0, b1], _ => exact Nat.lt_of_lt_of_le (beNat_lt b0 b1) h
  · exact h.2.1 e
theorem HopOk.six {K kd : Nat} {l : List UInt8} (h : HopOk K kd l) (e : kd % 8 = 7) : 256 ≤ K := by
  rcases h with h | h
  · omega
  · exact absurd e h.2.2
theorem HopOk.id {K kd : Nat} {l : List UInt8} (e : kd % 8 = 6) : HopOk K kd l := Or.inr ⟨fun h => by omega, fun h => by omega, by omega⟩
theorem read_hop (kd : Nat) (l : List UInt8) (A : Option Addr) (c : Nat) (rs : List UInt8) (w : World) (ht : Tab K w) (hok : HopOk K kd l) (h : RB w w.heap.size A (rs.length + (hopBytes kd l).length) c (hopBytes kd l ++ rs)) :
    Calls Tryz.prog 58 #[.slice A (rs.length + (hopBytes kd l).length) c] w (OutC (codeOf kd) (hopBytes kd l) (vsOf kd) (hopBytes kd l).length w) := by
  have h8 : kd % 8 = 0 ∨ kd % 8 = 1 ∨ kd % 8 = 2 ∨ kd % 8 = 3 ∨ kd % 8 = 4 ∨ kd % 8 = 5 ∨ kd % 8 = 6 ∨ kd % 8 = 7 := by omega
  have f2 := filled_length l 2
  have f4 := filled_length l 4
  have f16 := filled_length l 16
  have k4 := hok.ip
  have k2 := hok.port
  have k16 := hok.six
  clear hok
  unfold hopBytes at h ⊢
  unfold codeOf vsOf
  rcases h8 with e | e | e | e | e | e | e | e <;> simp only [e, if_true, if_false, Nat.reduceEqDiff, Nat.succ_ne_zero] at h ⊢
  · have hl : ([4] ++ filled l 4).length = 5 := by simp [f4]
    rw [hl] at h ⊢
    exact read_4 A c _ rs w ht h f4 (k4 e)
  · have hl : ([6] ++ filled l 2).length = 3 := by simp [f2]
    rw [hl] at h ⊢
    exact read_6 A c _ rs w ht h f2 (k2 (Or.inl e))
  · have hl : ([145, 2] ++ filled l 2).length = 4 := by simp [f2]
    rw [hl] at h ⊢
    exact read_273 A c _ rs w ht h f2 (k2 (Or.inr e))
  · exact read_461 A c rs w ht h
  · exact read_477 A c rs w ht h
  · exact read_290 A c rs w ht h
  · obtain ⟨x, y, v, d, hid, hx, hy, hd, hv⟩ := id_form l
    rw [hid] at h ⊢
    have hl : ([165, 3] ++ [UInt8.ofNat (x :: y :: d).length] ++ x :: y :: d).length = d.length + 5 := by simp
    rw [hl] at h ⊢
    exact read_421 A c x y (UInt8.ofNat (x :: y :: d).length) v d rs w ht h (by simp; omega) hx hy hd hv
  · have hl : ([41] ++ filled l 16).length = 17 := by simp [f16]
    rw [hl] at h ⊢
    exact read_41 A c _ rs w ht h f16 (k16 e)
end Go.Proofs.YtimakhadabenbaaGreatDoor

/- readMultiaddr: the components of an address, in their order. -/
namespace Go.Proofs.YtimakhadabenbaaGreatDoor
open Go.RowKit
variable {K : Nat}
/-- Components, as cells: each part with the block of its protocol. -/
def compCells (cs : List (Hop × Nat)) : List Value := cs.flatMap fun x => [.string ⟨x.1.bytes.toArray⟩, .pointer (some ⟨x.2, 0, none⟩), .int .i64 (vsOf x.1.kd)]
/-- Their protocols are there. -/
def PR (w : World) (cs : List (Hop × Nat)) : Prop := ∀ x ∈ cs, ∃ g, Blk w x.2 83 (pcells (codeOf x.1.kd) g)
theorem PR.below {w w' : World} {cs : List (Hop × Nat)} (h : PR w cs) (hb : Below w.heap.size w w') : PR w' cs := fun x hx => by
  obtain ⟨g, hg⟩ := h x hx
  exact ⟨g, hg.below hb hg.lt⟩
theorem PR.grown {w w' : World} {cs : List (Hop × Nat)} {base n : Nat} {v : Value} {xs : List Value} (h : PR w cs) (ho : w.ownsRow base 87 3 v n xs) (hg : w.grownBy w' v.ownBlock) : PR w' cs := fun x hx => by
  obtain ⟨g, hk⟩ := h x hx
  exact ⟨g, hk.grown hg (fun e => own_blk_ne ho hk (by decide) e.symm)⟩
theorem PR.snoc {w : World} {cs : List (Hop × Nat)} (h : PR w cs) {x : Hop × Nat} {g : Nat} (hx : Blk w x.2 83 (pcells (codeOf x.1.kd) g)) : PR w (cs ++ [x]) := fun y hy => by
  rcases List.mem_append.1 hy with hy | hy
  · exact h y hy
  · simp at hy; subst hy; exact ⟨g, hx⟩
theorem compCells_snoc (cs : List (Hop × Nat)) (x : Hop × Nat) : compCells (cs ++ [x]) = compCells cs ++ [.string ⟨x.1.bytes.toArray⟩, .pointer (some ⟨x.2, 0, none⟩), .int .i64 (vsOf x.1.kd)] := by
  simp [compCells]
theorem compCells_length (cs : List (Hop × Nat)) : (compCells cs).length = cs.length * 3 := by
  induction cs with
  | nil => rfl
  | cons x cs ih => simp only [compCells, List.flatMap_cons, List.length_append, List.length_cons] at *; simp at *; omega
theorem addrBytes_cons (h : Hop) (hs : List Hop) : addrBytes (h :: hs) = h.bytes ++ addrBytes hs := rfl
/-- x[k:] of bytes, under a name. -/
theorem run_from (A : Option Addr) (n c k : Nat) (hk : k ≤ n) (_hc : n ≤ c) : ∃ A', (∀ w : World, (Instr.sliceAt 27 (.slice A n c) (some (.int .i64 (k : Int))) none none).run Tryz.prog w = .ok (.slice A' (n - k) (c - k)) w) ∧
    ∀ (w : World) (B : Nat) (l : List UInt8), RB w B A n c l → RB w B A' (n - k) (c - k) (l.drop k) := by
  refine ⟨if c = k then A else A.map (·.add k), fun w => ?_, fun w B l h => h.drop hk⟩
  rw [run_sliceAt_slice w 27 _ _ _ _ (by kernel_rfl), run_slice_l w 27 A n c (by kernel_rfl) .i64 (k : Int) (by omega) (by omega)]
  go_simp
theorem comp_info : (Tryz.prog.info? 87).map (fun i => (i.size, i.bytes)) = some (3, 32) := by kernel_rfl
theorem comp_info2 : (Tryz.prog.info? 87).map (fun i => (i.zero, i.size, i.bytes)) = some (some (.agg #[.string ⟨#[]⟩, .pointer none, .int .i64 0]), 3, 32) := by kernel_rfl
/-- An address, read. -/
def OutA (hs : List Hop) (w : World) (e : Ending) (w' : World) : Prop :=
  ∃ v cs, e = .returned (.tuple #[.int .i64 (addrBytes hs).length, v, .nilIface]) ∧ cs.map (·.1) = hs ∧ PR w' cs ∧ w'.ownsRow w.heap.size 87 3 v cs.length (compCells cs) ∧ Below w.heap.size w w'

set_option maxRecDepth 100000 in
set_option maxHeartbeats 4000000 in
theorem readma_any (A : Option Addr) (n c : Nat) (hs : List Hop) (w : World) (ht : Tab K w) (hok : ∀ x ∈ hs, HopOk K x.kd x.l) (h : RB w w.heap.size A n c (addrBytes hs)) (hn : hs.length ≤ 100) (hne : hs ≠ []) :
    Calls Tryz.prog 42 #[.slice A n c] w (OutA hs w) := by
  obtain ⟨i0, hi0, hz0, hz1, hz2⟩ := info_parts comp_info2
  have hlen := h.len
  have hle := addrBytes_le hs
  have hn0 : 0 < n := by
    rcases hs with _ | ⟨x, hs⟩
    · exact absurd rfl hne
    · have := (hopBytes_le x.kd x.l).1
      rw [addrBytes_cons, List.length_append] at hlen
      unfold Hop.bytes at hlen
      omega
  have HH := Lib.hid h
  have HT := Lib.hid ht
  have HOK := Lib.hid hok
  have HN := Lib.hid hlen
  have hn0b : ((n : Int) == 0) = false := by simp; omega
  clear h ht hok hne hlen
  go_enter Tryz.func42, Tryz.ntmps42
  go_wp2_with fail
  go_loopw [0, 5, 6, 7] (fun b res br sp wr => ∃ k : Nat, k ≤ hs.length ∧ (∃ A c, b = .slice A (addrBytes (hs.drop k)).length c ∧ RB wr w.heap.size A (addrBytes (hs.drop k)).length c (addrBytes (hs.drop k))) ∧ br = .int .i64 (addrBytes (hs.take k)).length ∧ sp = .bool false ∧
      (∃ cs, cs.map (·.1) = hs.take k ∧ PR wr cs ∧ wr.ownsRow w.heap.size 87 3 res cs.length (compCells cs)) ∧ Below w.heap.size w wr) (fun b _ _ _ _ => lenOf b)
  case atStart =>
    refine ⟨0, by omega, ⟨A, c, by rw [List.drop_zero, HN.out], by rw [List.drop_zero, HN.out]; exact HH.out⟩, rfl, rfl, ⟨[], rfl, fun x hx => by simp at hx, World.ownsRow_nil _ _ _ _⟩, Below.refl _ _⟩
  case round =>
    obtain ⟨k, hk, ⟨A1, c1, rfl, hr⟩, rfl, rfl, ⟨cs, hcs, hpr, hown⟩, hb⟩ := hrel
    have HB := Lib.hid hb
    have HO := Lib.hid hown
    have HP := Lib.hid hpr
    have HC := Lib.hid hcs
    clear hb hown hpr hcs
    by_cases hlt : k < hs.length
    · have hdk : hs.drop k = hs[k] :: hs.drop (k + 1) := List.drop_eq_getElem_cons hlt
      have htk := addrBytes_take hs k hlt
      generalize hhk : hs[k] = hp at *
      have hop2 := hopBytes_le hp.kd hp.l
      have hle2 := addrBytes_le (hs.take k)
      have hlk : (hs.take k).length ≤ 100 := by rw [List.length_take]; omega
      rw [hdk, addrBytes_cons, List.length_append, Nat.add_comm] at hr ⊢
      have hcap := hr.cap
      have hmax : c1 ≤ 9223372036854775807 := hr.max
      have hH : hp.bytes = hopBytes hp.kd hp.l := rfl
      obtain ⟨A2, hsl, hdr⟩ := run_from A1 ((addrBytes (hs.drop (k + 1))).length + hp.bytes.length) c1 hp.bytes.length (by omega) hcap
      rw [Nat.add_sub_cancel] at hsl hdr
      have hrest := hdr wr w.heap.size _ hr
      rw [List.drop_left] at hrest
      have hbl2 : 2 ≤ hp.bytes.length := hop2.1
      have hbl50 : hp.bytes.length ≤ 50 := hop2.2
      have hrl : (addrBytes (hs.drop (k + 1))).length ≤ 5000 := by
        have h1 := addrBytes_le (hs.drop (k + 1))
        have h2 : (hs.drop (k + 1)).length ≤ 100 := by rw [List.length_drop]; omega
        omega
      have hcl : cs.length ≤ 100 := by
        have := congrArg List.length HC.out
        rw [List.length_map] at this
        omega
      have hrd : Calls Tryz.prog 58 #[.slice A1 ((addrBytes (hs.drop (k + 1))).length + hp.bytes.length) c1] wr (OutC (codeOf hp.kd) hp.bytes (vsOf hp.kd) hp.bytes.length wr) := read_hop hp.kd hp.l A1 c1 _ wr (HT.out.below HB.out) (by have := HOK.out _ (List.getElem_mem hlt); rwa [hhk] at this) (hr.more HB.out.size)
      have HRD := Lib.hid hrd
      have HRE := Lib.hid hrest
      have HTK := Lib.hid htk
      have HHK := Lib.hid hhk
      obtain ⟨rs, hrs⟩ : ∃ rs, rs = addrBytes (hs.drop (k + 1)) := ⟨_, rfl⟩
      obtain ⟨hb, hhb⟩ : ∃ hb, hb = hp.bytes := ⟨_, rfl⟩
      obtain ⟨m, hm⟩ : ∃ m, m = (addrBytes (hs.take k)).length := ⟨_, rfl⟩
      have hm5 : m ≤ 5000 := by omega
      rw [← hrs, ← hhb] at HRD hsl
      rw [← hrs] at HRE
      rw [← hhb] at HTK hbl2 hbl50
      rw [← hrs, ← hhb, ← hm]
      rw [← hrs] at hrl
      have HRS := Lib.hid hrs
      have HHB := Lib.hid hhb
      have HM := Lib.hid hm
      clear hr hrd hrest hdr htk hhk hrs hhb hm hdk hH hop2 hle2 hlk hcap hmax
      go_wp2_with fail
      refine HRD.out.mono ?_
      rintro e w3 ⟨q, p, g, rfl, hC, hb3⟩
      obtain ⟨c0, c1', c2, _, _, _⟩ := hC.cells
      have p4 : w3.cell? ⟨p, 4, none⟩ = some (.bool false) := hC.prot.cell 4
      have HCC := Lib.hid hC
      have HB3 := Lib.hid hb3
      clear hC hb3
      have hbq := ((Below.refl _ w3).alloc (Nat.le_refl _) (.cells #[.string ⟨hb.toArray⟩, .pointer (some ⟨p, 0, none⟩), .int .i64 (vsOf hp.kd)] 87))
      have HOO := Lib.hid (own_below HO.out (HB3.out.trans (hbq.mono HB3.out.size)))
      have hrn := reads_new w3 #[.string ⟨hb.toArray⟩, .pointer (some ⟨p, 0, none⟩), .int .i64 (vsOf hp.kd)] 87 3 1 rfl
      have HBQ := Lib.hid hbq
      have HRN := Lib.hid hrn
      clear hbq hrn
      go_wp2_with (at_builtin; refine wpList_append_any _ rfl (.tmp 43) (.tmp 47) _ rfl w.heap.size 87 i0 _ 3 32 Tryz.underlying46 hi0 hz0 hz1 hz2 rfl (by decide) _ _ _ rfl HOO.out _ _ 1 1 _ rfl HRN.out ?c0 ?c1 ?c2 ?c3 ?_)
      case c0 => intro u hu; simp at hu; rcases hu with rfl | rfl | rfl <;> rfl
      case c1 => unfold maxLen; omega
      case c2 => omega
      case c3 => have := HB.out.size; have := HB3.out.size; simp; omega
      intro v' w' hown hgrow _hat
      have hbw : Below w.heap.size wr w' := ((HB3.out.mono HB.out.size).trans (HBQ.out.mono (Nat.le_trans HB.out.size HB3.out.size))).grown hgrow (by have := HB.out.size; have := HB3.out.size; simp; omega) (fun g hg => (HOO.out.lt g hg).1)
      have hpr2 := ((HP.out.below (HB3.out.trans (HBQ.out.mono HB3.out.size))).snoc (x := (hp, p)) (HCC.out.prot.below HBQ.out HCC.out.prot.lt)).grown HOO.out hgrow
      have HBW := Lib.hid hbw
      have HPR2 := Lib.hid hpr2
      have HOW := Lib.hid hown
      clear hbw hpr2 hown hgrow _hat c0 c1' c2 p4
      go_wp2_with fail
      go_roundw
      case rel =>
        refine ⟨k + 1, by omega, ⟨A2, c1 - hb.length, by rw [← HRS.out], ?_⟩, ?_, rfl, ⟨cs ++ [(hp, p)], ?_, HPR2.out, ?_⟩, HB.out.trans HBW.out⟩
        · rw [← HRS.out, HHB.out]; exact HRE.out.below HBW.out
        · rw [HTK.out, List.length_append, ← HM.out]; go_num
        · rw [List.map_append, HC.out, List.take_succ_eq_append_getElem hlt, HHK.out]; rfl
        · rw [compCells_snoc, List.length_append]
          have := HOW.out
          rw [HHB.out] at this
          exact this
      case measure => simp [lenOf]; omega
    · obtain rfl : k = hs.length := by omega
      have hc2 := HC.out
      have HRR := Lib.hid hr
      rw [List.drop_length] at hr ⊢
      rw [List.take_length] at hc2 ⊢
      have HC2 := Lib.hid hc2
      clear hr hc2
      rw [show (addrBytes []).length = 0 from rfl]
      go_wp2_with fail
      go_ret3
      exact ⟨_, cs, rfl, HC2.out, HP.out, HO.out, HB.out⟩
end Go.Proofs.YtimakhadabenbaaGreatDoor
