/- readComponent at any part of an address; readMultiaddr: all of them, in their order. -/
import Derived.Test.YthpcfnegfdcbjaaGreatDoorPl
import Derived.Test.YthpcfnegfdcbjaaGreatDoorXn
import Derived.Defers
import Derived.Recover
import Derived.WalkSpells
import Derived.Room.AppendFits
namespace Go.Proofs.YthpcfnegfdcbjaaGreatDoor
open Go.RowKit
variable {K : Nat}
def codeOf (kd : Nat) : Nat := if kd % 8 = 0 then 4 else if kd % 8 = 1 then 6 else if kd % 8 = 2 then 273 else if kd % 8 = 3 then 461 else if kd % 8 = 4 then 477 else if kd % 8 = 5 then 290 else if kd % 8 = 6 then 421 else 41
def vsOf (kd : Nat) : Nat := if kd % 8 = 0 then 1 else if kd % 8 = 1 then 1 else if kd % 8 = 2 then 2 else if kd % 8 = 3 then 2 else if kd % 8 = 4 then 2 else if kd % 8 = 5 then 2 else if kd % 8 = 6 then 3 else 1
/-- An ID: its first two bytes, and the rest. -/
theorem id_form (l : List UInt8) : ∃ (x y : UInt8) (v : Nat) (d : List UInt8), idOf l = x :: y :: d ∧ x.toNat = v ∧ y.toNat = d.length ∧ d.length ≤ 42 ∧ (v = 0 ∨ v = 18 ∧ d.length = 32) := by
  unfold idOf
  split
  · exact ⟨0, UInt8.ofNat l.length, 0, l, rfl, rfl, by simp; omega, by omega, Or.inl rfl⟩
  · have hs : (shaSum l).length = 32 := by unfold shaSum; exact shaOut_length _ _
    generalize shaSum l = s at hs
    exact ⟨18, 32, 18, s, rfl, rfl, by rw [hs]; rfl, by omega, Or.inr ⟨rfl, hs⟩⟩

/-- The numbers that the text of a part shows are below K. -/
def HopOk (K kd : Nat) (l : List UInt8) : Prop := 65536 ≤ K ∨ ((kd % 8 = 0 → ∀ b ∈ filled l 4, b.toNat < K) ∧ (kd % 8 = 1 ∨ kd % 8 = 2 → Lib.beNat (filled l 2) < K) ∧ kd % 8 ≠ 7)
theorem HopOk.ip {K kd : Nat} {l : List UInt8} (h : HopOk K kd l) (e : kd % 8 = 0) : ∀ b ∈ filled l 4, b.toNat < K := by
  rcases h with h | h
  · exact fun b _ => Nat.lt_of_lt_of_le b.toNat_lt (by omega)
  · exact h.1 e
theorem HopOk.port {K kd : Nat} {l : List UInt8} (h : HopOk K kd l) (e : kd % 8 = 1 ∨ kd % 8 = 2) : Lib.beNat (filled l 2) < K := by
  rcases h with h | h
  · have f2 := filled_length l 2
    generalize filled l 2 = d at f2
    match d, f2 with
    | [b0, b1], _ => exact Nat.lt_of_lt_of_le (beNat_lt b0 b1) h
  · exact h.2.1 e
theorem HopOk.six {K kd : Nat} {l : List UInt8} (h : HopOk K kd l) (e : kd % 8 = 7) : 256 ≤ K := by
  rcases h with h | h
  · omega
  · exact absurd e h.2.2
theorem HopOk.id {K kd : Nat} {l : List UInt8} (e : kd % 8 = 6) : HopOk K kd l := Or.inr ⟨fun h => by omega, fun h => by omega, by omega⟩
theorem read_hop (kd : Nat) (l : List UInt8) (A : Option Addr) (c : Nat) (rs : List UInt8) (w : World) (ht : Tab K w) (hok : HopOk K kd l) (h : RB w w.heap.size A (rs.length + (hopBytes kd l).length) c (hopBytes kd l ++ rs)) :
    Calls Tryz.prog 74 #[.slice A (rs.length + (hopBytes kd l).length) c] w (OutC (codeOf kd) (hopBytes kd l) (vsOf kd) (hopBytes kd l).length w) := by
  have h8 : kd % 8 = 0 ∨ kd % 8 = 1 ∨ kd % 8 = 2 ∨ kd % 8 = 3 ∨ kd % 8 = 4 ∨ kd % 8 = 5 ∨ kd % 8 = 6 ∨ kd % 8 = 7 := by omega
  have f2 := filled_length l 2
  have f4 := filled_length l 4
  have f16 := filled_length l 16
  have k4 := hok.ip
  have k2 := hok.port
  have k16 := hok.six
  clear hok
  unfold hopBytes at h ⊢
  unfold codeOf vsOf
  rcases h8 with e | e | e | e | e | e | e | e <;> simp only [e, if_true, if_false, Nat.reduceEqDiff, Nat.succ_ne_zero] at h ⊢
  · have hl : ([4] ++ filled l 4).length = 5 := by simp [f4]
    rw [hl] at h ⊢
    exact read_4 A c _ rs w ht h f4 (k4 e)
  · have hl : ([6] ++ filled l 2).length = 3 := by simp [f2]
    rw [hl] at h ⊢
    exact read_6 A c _ rs w ht h f2 (k2 (Or.inl e))
  · have hl : ([145, 2] ++ filled l 2).length = 4 := by simp [f2]
    rw [hl] at h ⊢
    exact read_273 A c _ rs w ht h f2 (k2 (Or.inr e))
  · exact read_461 A c rs w ht h
  · exact read_477 A c rs w ht h
  · exact read_290 A c rs w ht h
  · obtain ⟨x, y, v, d, hid, hx, hy, hd, hv⟩ := id_form l
    rw [hid] at h ⊢
    have hl : ([165, 3] ++ [UInt8.ofNat (x :: y :: d).length] ++ x :: y :: d).length = d.length + 5 := by simp
    rw [hl] at h ⊢
    exact read_421 A c x y (UInt8.ofNat (x :: y :: d).length) v d rs w ht h (by simp; omega) hx hy hd hv
  · have hl : ([41] ++ filled l 16).length = 17 := by simp [f16]
    rw [hl] at h ⊢
    exact read_41 A c _ rs w ht h f16 (k16 e)
end Go.Proofs.YthpcfnegfdcbjaaGreatDoor

/- readMultiaddr: the components of an address, in their order. -/
namespace Go.Proofs.YthpcfnegfdcbjaaGreatDoor
open Go.RowKit
variable {K : Nat}
/-- Components, as cells: each part with the block of its protocol. -/
def compCells (cs : List (Hop × Nat)) : List Value := cs.flatMap fun x => [.string ⟨x.1.bytes.toArray⟩, .pointer (some ⟨x.2, 0, none⟩), .int .i64 (vsOf x.1.kd)]
/-- Their protocols are there. -/
def PR (w : World) (cs : List (Hop × Nat)) : Prop := ∀ x ∈ cs, ∃ g, Blk w x.2 99 (pcells (codeOf x.1.kd) g)
theorem PR.below {w w' : World} {cs : List (Hop × Nat)} (h : PR w cs) (hb : Below w.heap.size w w') : PR w' cs := fun x hx => by
  obtain ⟨g, hg⟩ := h x hx
  exact ⟨g, hg.below hb hg.lt⟩
theorem PR.grown {w w' : World} {cs : List (Hop × Nat)} {base n : Nat} {v : Value} {xs : List Value} (h : PR w cs) (ho : w.ownsRow base 91 3 v n xs) (hg : w.grownBy w' v.ownBlock) : PR w' cs := fun x hx => by
  obtain ⟨g, hk⟩ := h x hx
  exact ⟨g, hk.grown hg (fun e => own_blk_ne ho hk (by decide) e.symm)⟩
theorem PR.snoc {w : World} {cs : List (Hop × Nat)} (h : PR w cs) {x : Hop × Nat} {g : Nat} (hx : Blk w x.2 99 (pcells (codeOf x.1.kd) g)) : PR w (cs ++ [x]) := fun y hy => by
  rcases List.mem_append.1 hy with hy | hy
  · exact h y hy
  · simp at hy; subst hy; exact ⟨g, hx⟩
theorem compCells_snoc (cs : List (Hop × Nat)) (x : Hop × Nat) : compCells (cs ++ [x]) = compCells cs ++ [.string ⟨x.1.bytes.toArray⟩, .pointer (some ⟨x.2, 0, none⟩), .int .i64 (vsOf x.1.kd)] := by
  simp [compCells]
theorem compCells_length (cs : List (Hop × Nat)) : (compCells cs).length = cs.length * 3 := by
  induction cs with
  | nil => rfl
  | cons x cs ih => simp only [compCells, List.flatMap_cons, List.length_append, List.length_cons] at *; simp at *; omega
theorem addrBytes_cons (h : Hop) (hs : List Hop) : addrBytes (h :: hs) = h.bytes ++ addrBytes hs := rfl
/-- x[k:] of bytes, under a name. -/
theorem run_from (A : Option Addr) (n c k : Nat) (hk : k ≤ n) (_hc : n ≤ c) : ∃ A', (∀ w : World, (Instr.sliceAt 26 (.slice A n c) (some (.int .i64 (k : Int))) none none).run Tryz.prog w = .ok (.slice A' (n - k) (c - k)) w) ∧
    ∀ (w : World) (B : Nat) (l : List UInt8), RB w B A n c l → RB w B A' (n - k) (c - k) (l.drop k) := by
  refine ⟨if c = k then A else A.map (·.add k), fun w => ?_, fun w B l h => h.drop hk⟩
  rw [run_sliceAt_slice w 26 _ _ _ _ (by kernel_rfl), run_slice_l w 26 A n c (by kernel_rfl) .i64 (k : Int) (by omega) (by omega)]
  go_simp
theorem comp_info : (Tryz.prog.info? 91).map (fun i => (i.size, i.bytes)) = some (3, 32) := by kernel_rfl
theorem comp_info2 : (Tryz.prog.info? 91).map (fun i => (i.zero, i.size, i.bytes)) = some (some (.agg #[.string ⟨#[]⟩, .pointer none, .int .i64 0]), 3, 32) := by kernel_rfl
/-- An address, read. -/
def OutA (hs : List Hop) (w : World) (e : Ending) (w' : World) : Prop :=
  ∃ v cs, e = .returned (.tuple #[.int .i64 (addrBytes hs).length, v, .nilIface]) ∧ cs.map (·.1) = hs ∧ PR w' cs ∧ w'.ownsRow w.heap.size 91 3 v cs.length (compCells cs) ∧ Below w.heap.size w w'

set_option maxRecDepth 100000 in
set_option maxHeartbeats 4000000 in
theorem readma_any (A : Option Addr) (n c : Nat) (hs : List Hop) (w : World) (ht : Tab K w) (hok : ∀ x ∈ hs, HopOk K x.kd x.l) (h : RB w w.heap.size A n c (addrBytes hs)) (hn : hs.length ≤ 100) (hne : hs ≠ []) :
    Calls Tryz.prog 55 #[.slice A n c] w (OutA hs w) := by
  obtain ⟨i0, hi0, hz0, hz1, hz2⟩ := info_parts comp_info2
  have hlen := h.len
  have hle := addrBytes_le hs
  have hn0 : 0 < n := by
    rcases hs with _ | ⟨x, hs⟩
    · exact absurd rfl hne
    · have := (hopBytes_le x.kd x.l).1
      rw [addrBytes_cons, List.length_append] at hlen
      unfold Hop.bytes at hlen
      omega
  have HH := Lib.hid h
  have HT := Lib.hid ht
  have HOK := Lib.hid hok
  have HN := Lib.hid hlen
  have hn0b : ((n : Int) == 0) = false := by simp; omega
  clear h ht hok hne hlen
  go_enter Tryz.func55, Tryz.ntmps55
  go_wp2_with fail
  go_loopw [0, 5, 6, 7] (fun b res br sp wr => ∃ k : Nat, k ≤ hs.length ∧ (∃ A c, b = .slice A (addrBytes (hs.drop k)).length c ∧ RB wr w.heap.size A (addrBytes (hs.drop k)).length c (addrBytes (hs.drop k))) ∧ br = .int .i64 (addrBytes (hs.take k)).length ∧ sp = .bool false ∧
      (∃ cs, cs.map (·.1) = hs.take k ∧ PR wr cs ∧ wr.ownsRow w.heap.size 91 3 res cs.length (compCells cs)) ∧ Below w.heap.size w wr) (fun b _ _ _ _ => lenOf b)
  case atStart =>
    refine ⟨0, by omega, ⟨A, c, by rw [List.drop_zero, HN.out], by rw [List.drop_zero, HN.out]; exact HH.out⟩, rfl, rfl, ⟨[], rfl, fun x hx => by simp at hx, World.ownsRow_nil _ _ _ _⟩, Below.refl _ _⟩
  case round =>
    obtain ⟨k, hk, ⟨A1, c1, rfl, hr⟩, rfl, rfl, ⟨cs, hcs, hpr, hown⟩, hb⟩ := hrel
    have HB := Lib.hid hb
    have HO := Lib.hid hown
    have HP := Lib.hid hpr
    have HC := Lib.hid hcs
    clear hb hown hpr hcs
    by_cases hlt : k < hs.length
    · have hdk : hs.drop k = hs[k] :: hs.drop (k + 1) := List.drop_eq_getElem_cons hlt
      have htk := addrBytes_take hs k hlt
      generalize hhk : hs[k] = hp at *
      have hop2 := hopBytes_le hp.kd hp.l
      have hle2 := addrBytes_le (hs.take k)
      have hlk : (hs.take k).length ≤ 100 := by rw [List.length_take]; omega
      rw [hdk, addrBytes_cons, List.length_append, Nat.add_comm] at hr ⊢
      have hcap := hr.cap
      have hmax : c1 ≤ 9223372036854775807 := hr.max
      have hH : hp.bytes = hopBytes hp.kd hp.l := rfl
      obtain ⟨A2, hsl, hdr⟩ := run_from A1 ((addrBytes (hs.drop (k + 1))).length + hp.bytes.length) c1 hp.bytes.length (by omega) hcap
      rw [Nat.add_sub_cancel] at hsl hdr
      have hrest := hdr wr w.heap.size _ hr
      rw [List.drop_left] at hrest
      have hbl2 : 2 ≤ hp.bytes.length := hop2.1
      have hbl50 : hp.bytes.length ≤ 50 := hop2.2
      have hrl : (addrBytes (hs.drop (k + 1))).length ≤ 5000 := by
        have h1 := addrBytes_le (hs.drop (k + 1))
        have h2 : (hs.drop (k + 1)).length ≤ 100 := by rw [List.length_drop]; omega
        omega
      have hcl : cs.length ≤ 100 := by
        have := congrArg List.length HC.out
        rw [List.length_map] at this
        omega
      have hrd : Calls Tryz.prog 74 #[.slice A1 ((addrBytes (hs.drop (k + 1))).length + hp.bytes.length) c1] wr (OutC (codeOf hp.kd) hp.bytes (vsOf hp.kd) hp.bytes.length wr) := read_hop hp.kd hp.l A1 c1 _ wr (HT.out.below HB.out) (by have := HOK.out _ (List.getElem_mem hlt); rwa [hhk] at this) (hr.more HB.out.size)
      have HRD := Lib.hid hrd
      have HRE := Lib.hid hrest
      have HTK := Lib.hid htk
      have HHK := Lib.hid hhk
      obtain ⟨rs, hrs⟩ : ∃ rs, rs = addrBytes (hs.drop (k + 1)) := ⟨_, rfl⟩
      obtain ⟨hb, hhb⟩ : ∃ hb, hb = hp.bytes := ⟨_, rfl⟩
      obtain ⟨m, hm⟩ : ∃ m, m = (addrBytes (hs.take k)).length := ⟨_, rfl⟩
      have hm5 : m ≤ 5000 := by omega
      rw [← hrs, ← hhb] at HRD hsl
      rw [← hrs] at HRE
      rw [← hhb] at HTK hbl2 hbl50
      rw [← hrs, ← hhb, ← hm]
      rw [← hrs] at hrl
      have HRS := Lib.hid hrs
      have HHB := Lib.hid hhb
      have HM := Lib.hid hm
      clear hr hrd hrest hdr htk hhk hrs hhb hm hdk hH hop2 hle2 hlk hcap hmax
      go_wp2_with fail
      refine HRD.out.mono ?_
      rintro e w3 ⟨q, p, g, rfl, hC, hb3⟩
      obtain ⟨c0, c1', c2, _, _, _⟩ := hC.cells
      have p4 : w3.cell? ⟨p, 4, none⟩ = some (.bool false) := hC.prot.cell 4
      have HCC := Lib.hid hC
      have HB3 := Lib.hid hb3
      clear hC hb3
      have hbq := ((Below.refl _ w3).alloc (Nat.le_refl _) (.cells #[.string ⟨hb.toArray⟩, .pointer (some ⟨p, 0, none⟩), .int .i64 (vsOf hp.kd)] 91))
      have HOO := Lib.hid (own_below HO.out (HB3.out.trans (hbq.mono HB3.out.size)))
      have hrn := reads_new w3 #[.string ⟨hb.toArray⟩, .pointer (some ⟨p, 0, none⟩), .int .i64 (vsOf hp.kd)] 91 3 1 rfl
      have HBQ := Lib.hid hbq
      have HRN := Lib.hid hrn
      clear hbq hrn
      go_wp2_with (at_builtin; refine wpList_append_any _ rfl (.tmp 43) (.tmp 47) _ rfl w.heap.size 91 i0 _ 3 32 Tryz.underlying51 hi0 hz0 hz1 hz2 rfl (by decide) _ _ _ rfl HOO.out _ _ 1 1 _ rfl HRN.out ?c0 ?c1 ?c2 ?c3 ?_)
      case c0 => intro u hu; simp at hu; rcases hu with rfl | rfl | rfl <;> rfl
      case c1 => unfold maxLen; omega
      case c2 => omega
      case c3 => have := HB.out.size; have := HB3.out.size; simp; omega
      intro v' w' hown hgrow _hat
      have hbw : Below w.heap.size wr w' := ((HB3.out.mono HB.out.size).trans (HBQ.out.mono (Nat.le_trans HB.out.size HB3.out.size))).grown hgrow (by have := HB.out.size; have := HB3.out.size; simp; omega) (fun g hg => (HOO.out.lt g hg).1)
      have hpr2 := ((HP.out.below (HB3.out.trans (HBQ.out.mono HB3.out.size))).snoc (x := (hp, p)) (HCC.out.prot.below HBQ.out HCC.out.prot.lt)).grown HOO.out hgrow
      have HBW := Lib.hid hbw
      have HPR2 := Lib.hid hpr2
      have HOW := Lib.hid hown
      clear hbw hpr2 hown hgrow _hat c0 c1' c2 p4
      go_wp2_with fail
      go_roundw
      case rel =>
        refine ⟨k + 1, by omega, ⟨A2, c1 - hb.length, by rw [← HRS.out], ?_⟩, ?_, rfl, ⟨cs ++ [(hp, p)], ?_, HPR2.out, ?_⟩, HB.out.trans HBW.out⟩
        · rw [← HRS.out, HHB.out]; exact HRE.out.below HBW.out
        · rw [HTK.out, List.length_append, ← HM.out]; go_num
        · rw [List.map_append, HC.out, List.take_succ_eq_append_getElem hlt, HHK.out]; rfl
        · rw [compCells_snoc, List.length_append]
          have := HOW.out
          rw [HHB.out] at this
          exact this
      case measure => simp [lenOf]; omega
    · obtain rfl : k = hs.length := by omega
      have hc2 := HC.out
      have HRR := Lib.hid hr
      rw [List.drop_length] at hr ⊢
      rw [List.take_length] at hc2 ⊢
      have HC2 := Lib.hid hc2
      clear hr hc2
      rw [show (addrBytes []).length = 0 from rfl]
      go_wp2_with fail
      go_ret3
      exact ⟨_, cs, rfl, HC2.out, HP.out, HO.out, HB.out⟩
end Go.Proofs.YthpcfnegfdcbjaaGreatDoor

/- NewMultiaddrBytes at the bytes of an address: the deferred call finds no panic. -/
namespace Go.Proofs.YthpcfnegfdcbjaaGreatDoor
open Go.RowKit
variable {K : Nat}
theorem PR.far {w : World} {cs : List (Hop × Nat)} {g : Nat} {t : TypeId} {ds : Array Value} (h : PR w cs) (hk : Blk w g t ds) (hne : 99 ≠ t) (i : Nat) (u : Value) : PR (w.setCell ⟨g, i, none⟩ u) cs := fun x hx => by
  obtain ⟨g', hp⟩ := h x hx
  exact ⟨g', hp.far (hp.ne_ hk hne) u⟩
theorem catch_idle (p : Addr) (w : World) :
    CallsD Tryz.prog 53 #[.pointer (some p)] .returning w fun e u' w' => e = .returned (.tuple #[]) ∧ u' = .returning ∧ w' = w := by
  have q0 : ∀ w : World, (binOp .neq 20 .nilIface .nilIface).run Tryz.prog w = .ok (.bool false) w := fun _ => by kernel_rfl
  refine callsD_of_wpS Tryz.func53 rfl fun c₀ cs hu => ?_
  apply wpS_seq
  apply wpS_region
  simp [wpOpsS, go_sem, recoverD, hu, Tryz.ntmps53, Exit.thenS]
  apply wpS_seq
  apply wpS_region
  simp [wpOpsS, go_sem, q0, Exit.thenS]
  refine wpS_cond (t := false) (by simp [Act.eval, Array.replicate]) ?_
  simp only [Bool.false_eq_true, if_false]
  refine wpS_of_wp (wp_skip ?_)
  cases c₀
  simp_all [bodyPostS, results, Tryz.results53]
/-- An address. -/
def OutMA (hs : List Hop) (w : World) (e : Ending) (w' : World) : Prop :=
  ∃ v cs, e = .returned (.tuple #[v, .nilIface]) ∧ cs.map (·.1) = hs ∧ PR w' cs ∧ w'.ownsRow w.heap.size 91 3 v cs.length (compCells cs) ∧ Below w.heap.size w w'
set_option maxRecDepth 100000 in
set_option maxHeartbeats 2000000 in
theorem newma_any (A : Option Addr) (n c : Nat) (hs : List Hop) (w : World) (ht : Tab K w) (hok : ∀ x ∈ hs, HopOk K x.kd x.l) (h : RB w w.heap.size A n c (addrBytes hs)) (hn : hs.length ≤ 100) (hne : hs ≠ []) :
    Calls Tryz.prog 39 #[.slice A n c] w (OutMA hs w) := by
  have hmf : ∀ (fn : Fn) (first cap : Array Value) (w : World), (Instr.makeFunc fn first cap).run Tryz.prog w = .ok (.func fn first cap) w := fun _ _ _ _ => rfl
  obtain ⟨w1, hw1⟩ : ∃ w1, w1 = w.alloc (.cells #[.nilIface] 56) := ⟨_, rfl⟩
  have hb1 : Below w.heap.size w w1 := by rw [hw1]; exact (Below.refl _ w).alloc (Nat.le_refl _) _
  have hk1 : Blk w1 w.heap.size 56 #[.nilIface] := by rw [hw1]; exact Blk.new _ _ _
  have HC := Lib.hid (readma_any A n c hs w1 (ht.below hb1) hok ((h.below hb1).more hb1.size) hn hne)
  have hlen := h.len
  have HL := Lib.hid hlen
  have HB1 := Lib.hid hb1
  have HK1 := Lib.hid hk1
  have HW1 := Lib.hid hw1
  have hs0 : 0 < hs.length := by rcases hs with _ | ⟨x, hs⟩; exact absurd rfl hne; simp
  clear h ht hok hne hb1 hk1 hw1 hlen
  go_enter_defers Tryz.func39, Tryz.ntmps39
  go_wp2_with fail
  rw [← HW1.out]
  refine HC.out.mono ?_
  rintro e w3 ⟨v, cs, rfl, hcs, hpr, hown, hb3⟩
  rw [HL.out]
  obtain ⟨A3, c3, rfl⟩ := own_slice hown
  have hk3 := HK1.out.below hb3 HK1.out.lt
  have c0 : w3.cell? ⟨w.heap.size, 0, none⟩ = some .nilIface := hk3.cell 0
  have f0 := hk3.frozen 0
  have hcl : 0 < cs.length := by have := congrArg List.length hcs; rw [List.length_map] at this; omega
  have hb4 : w.heap.size < w1.heap.size := HK1.out.lt
  have HO := Lib.hid hown
  have HP := Lib.hid hpr
  have HCS := Lib.hid hcs
  have HB := Lib.hid (HB1.out.trans (hb3.mono HB1.out.size))
  have HK3 := Lib.hid hk3
  clear hown hpr hcs hb3 hk3
  go_wp2_with fail
  have hcf : ((w3.setCell ⟨w.heap.size, 0, none⟩ .nilIface).setCell ⟨w.heap.size, 0, none⟩ .nilIface).cell? ⟨w.heap.size, 0, none⟩ = some .nilIface := ((HK3.out.set_ 0 .nilIface).set_ 0 .nilIface).cell 0
  have hpf := (HP.out.far HK3.out (by decide) 0 .nilIface).far (HK3.out.set_ 0 .nilIface) (by decide) 0 .nilIface
  have hof := ownsRow_setCell_below (ownsRow_setCell_below HO.out (a := ⟨w.heap.size, 0, none⟩) hb4 .nilIface) (a := ⟨w.heap.size, 0, none⟩) hb4 .nilIface
  have hbf := (HB.out.setCell (p := ⟨w.heap.size, 0, none⟩) (Nat.le_refl _) .nilIface).setCell (p := ⟨w.heap.size, 0, none⟩) (Nat.le_refl _) .nilIface
  refine leaves_cons (f := 53) (args := #[.pointer (some ⟨w.heap.size, 0, none⟩)]) (by simp) (by simp [go_sem]) ?_
  refine (catch_idle ⟨w.heap.size, 0, none⟩ _).mono ?_
  rintro e u' w'' ⟨rfl, rfl, rfl⟩
  have hfin : OutMA hs w (.returned (.tuple #[.slice A3 cs.length c3, .nilIface])) ((w3.setCell ⟨w.heap.size, 0, none⟩ .nilIface).setCell ⟨w.heap.size, 0, none⟩ .nilIface) := ⟨_, cs, rfl, HCS.out, hpf, own_base hof (Nat.le_of_lt hb4), hbf⟩
  simp [Leaves, settle, results, Tryz.results39, go_sem, hcf]
  exact hfin
end Go.Proofs.YthpcfnegfdcbjaaGreatDoor

/- A list of components: its copy, its last one. -/
namespace Go.Proofs.YthpcfnegfdcbjaaGreatDoor
open Go.RowKit
attribute [local go_sem ↓] Go.wp_at_zero Go.wp_at_succ
/-- A copy of a whole row into a new block. -/
theorem run_copy_new {P : Program} (w : World) (dT sT ty elem : TypeId) (n c sc size : Nat) (a : Addr) (old cs : Array Value) (i : TypeInfo) (hu : P.underlying dT = some (.slice elem)) (hi : P.info? elem = some i) (hz : i.size = size)
    (ho : old.size = cs.size) (hn : cs.size = n * size) (hsrc : ∀ j v, cs.toList[j]? = some v → (w.alloc (.cells old elem)).cell? (a.add j) = some v) (h1 : cs.all (·.oneCell') = true) :
    (Builtin.copy_ #[dT, sT] ty #[.slice (some ⟨w.heap.size, 0, none⟩) n c, .slice (some a) n sc]).run P (w.alloc (.cells old elem)) = .ok (.int .i64 n) (w.alloc (.cells cs elem)) := by
  have hl := run_loadCells_list (P := P) (w.alloc (.cells old elem)) a cs.toList hsrc
  rw [Array.length_toList, hn] at hl
  have hst := run_storeCells_new (P := P) w elem old cs ho h1
  have hm : Nat.min n n = n := Nat.min_self n
  simp [Builtin.copy_, run_underlying hu, Builtin.lenOf, Builtin.firstCells, sizeOf, typeInfo, hi, hz, hm, hl, hst, goInt]
theorem compCells_one (cs : List (Hop × Nat)) : ∀ u ∈ compCells cs, u.oneCell' = true := by
  intro u hu
  simp only [compCells, List.mem_flatMap] at hu
  obtain ⟨x, _, hx⟩ := hu
  simp at hx
  rcases hx with rfl | rfl | rfl <;> rfl
set_option maxRecDepth 100000 in
set_option maxHeartbeats 2000000 in
theorem copyma_any (g c m : Nat) (cs : List (Hop × Nat)) (w : World) (hm : cs.length = m) (hm0 : 0 < m) (hm1 : m ≤ 1000) (hg : g < w.heap.size) (hc : ∀ j u, (compCells cs)[j]? = some u → w.cell? ⟨g, j, none⟩ = some u) :
    Calls Tryz.prog 61 #[.slice (some ⟨g, 0, none⟩) m c] w fun e w' => ∃ b, e = .returned (.slice (some ⟨b, 0, none⟩) m m) ∧ Blk w' b 91 (compCells cs).toArray ∧ w.heap.size ≤ b ∧ Below w.heap.size w w' := by
  obtain ⟨i0, hi0, hz0, hz1, hz2⟩ := info_parts comp_info2
  have hlc := compCells_length cs
  have q : ∀ (w : World) (a : Option Addr) (n c n' c' : Nat), (binOp .eql 51 (.slice a n c) (.slice none n' c')).run Tryz.prog w = .ok (.bool a.isNone) w := fun w a n c n' c' => Lib.run_eql_slice_nil w _ _ a n c n' c' Tryz.underlying51
  have hmk := fun W : World => run_make_rowN (P := Tryz.prog) 51 91 i0 _ Tryz.underlying51 hi0 hz0 .i64 .i64 m m (Nat.le_refl _) (by rw [hz2]; omega) (by omega) W
  rw [hz1] at hmk
  obtain ⟨zs, hzs⟩ : ∃ zs, zs = madeCells (Value.agg #[.string ⟨#[]⟩, .pointer none, .int .i64 0]).cells (m * 3) := ⟨_, rfl⟩
  rw [← hzs] at hmk
  have hcp := fun ty => run_copy_new (P := Tryz.prog) w 51 51 ty 91 m m c 3 ⟨g, 0, none⟩ zs (compCells cs).toArray i0 Tryz.underlying51 hi0 hz1 (by rw [hzs, size_madeCells]; simp [hlc, hm]) (by simp [hlc, hm]) (fun j u hu => by
    have hadd : (⟨g, 0, none⟩ : Addr).add j = ⟨g, j, none⟩ := by unfold Addr.add; split <;> simp_all
    rw [hadd, World.cell?_alloc_lt w _ _ hg]
    exact hc j u (by simpa using hu)) (by rw [Array.all_eq_true_iff_forall_mem]; intro u hu; exact compCells_one cs u (by simpa using hu))
  have HK := Lib.hid (Blk.new w 91 (compCells cs).toArray)
  have HB := Lib.hid ((Below.refl _ w).alloc (Nat.le_refl _) (.cells (compCells cs).toArray 91))
  obtain ⟨X, hX⟩ : ∃ X, X = (compCells cs).toArray := ⟨_, rfl⟩
  rw [← hX] at hcp HK HB ⊢
  clear hX hzs hc hi0 hz0 hz1 hz2 hlc hm
  go_enter Tryz.func61, Tryz.ntmps61
  go_wp2_with fail
  go_ret
  exact ⟨w.heap.size, rfl, HK.out, Nat.le_refl _, HB.out⟩

/-- Three cells of a component. -/
structure C3 (w : World) (q : Nat) (x : Hop × Nat) : Prop where
  c0 : w.cell? ⟨q, 0, none⟩ = some (.string ⟨x.1.bytes.toArray⟩)
  c1 : w.cell? ⟨q, 1, none⟩ = some (.pointer (some ⟨x.2, 0, none⟩))
  c2 : w.cell? ⟨q, 2, none⟩ = some (.int .i64 (vsOf x.1.kd))
theorem C3.below {w w' : World} {q : Nat} {x : Hop × Nat} (h : C3 w q x) (hb : Below w.heap.size w w') : C3 w' q x :=
  ⟨(hb.cell (World.block_lt_of_cell? _ _ h.c0)).trans h.c0, (hb.cell (World.block_lt_of_cell? _ _ h.c1)).trans h.c1, (hb.cell (World.block_lt_of_cell? _ _ h.c2)).trans h.c2⟩
/-- A slice of components in a block of its own. -/
structure MS (w : World) (g n c : Nat) (cs : List (Hop × Nat)) : Prop where
  len : cs.length = n
  cell : ∀ j u, (compCells cs)[j]? = some u → w.cell? ⟨g, j, none⟩ = some u
  lt : g < w.heap.size
  cap : n ≤ c
  max : c ≤ maxLen
theorem MS.below {w w' : World} {g n c : Nat} {cs : List (Hop × Nat)} (h : MS w g n c cs) (hb : Below w.heap.size w w') : MS w' g n c cs :=
  ⟨h.len, fun j u hu => (hb.cell h.lt).trans (h.cell j u hu), Nat.lt_of_lt_of_le h.lt hb.size, h.cap, h.max⟩
theorem MS.of_own {w : World} {base : Nat} {v : Value} {cs : List (Hop × Nat)} (h : w.ownsRow base 91 3 v cs.length (compCells cs)) (hn : 0 < cs.length) : ∃ g c, v = .slice (some ⟨g, 0, none⟩) cs.length c ∧ MS w g cs.length c cs := by
  obtain ⟨g, c, rfl, hg, hlt⟩ := h.form hn
  have hr := h.2
  rcases hr with ⟨hv, _⟩ | ⟨g', cap, cur, hv, _, _, hnc, hmx, _⟩
  · cases hv
  · injection hv with h1 h2 h3
    subst h3
    exact ⟨g, c, rfl, rfl, fun j u hu => by
      have := h.cells (g := g) rfl j u hu
      have hadd : (⟨g, 0, none⟩ : Addr).add j = ⟨g, j, none⟩ := by unfold Addr.add; split <;> simp_all
      rwa [hadd] at this, hlt, hnc, hmx⟩
theorem compCells_at (cs : List (Hop × Nat)) (x : Hop × Nat) (j : Nat) (hj : j < 3) : (compCells (cs ++ [x]))[cs.length * 3 + j]? = ([.string ⟨x.1.bytes.toArray⟩, .pointer (some ⟨x.2, 0, none⟩), .int .i64 (vsOf x.1.kd)] : List Value)[j]? := by
  rw [compCells_snoc, List.getElem?_append_right (by rw [compCells_length]; omega), compCells_length, Nat.add_sub_cancel_left]
theorem MS.init {w : World} {g n c : Nat} {cs : List (Hop × Nat)} {x : Hop × Nat} (h : MS w g n c (cs ++ [x])) : ∀ j u, (compCells cs)[j]? = some u → w.cell? ⟨g, j, none⟩ = some u := fun j u hu => by
  refine h.cell j u ?_
  rw [compCells_snoc, List.getElem?_append_left (List.getElem?_eq_some_iff.1 hu).1]
  exact hu
/-- What SplitLast gives: the others, in a block of their own or nil; the last one. -/
def OutSL (cs : List (Hop × Nat)) (x : Hop × Nat) (w : World) (e : Ending) (w' : World) : Prop :=
  ∃ T q, e = .returned (.tuple #[T, .pointer (some ⟨q, 0, none⟩)]) ∧ C3 w' q x ∧ ((cs = [] ∧ T = .slice none 0 0) ∨ (0 < cs.length ∧ ∃ b, T = .slice (some ⟨b, 0, none⟩) cs.length cs.length ∧ MS w' b cs.length cs.length cs)) ∧ Below w.heap.size w w'
set_option maxRecDepth 100000 in
set_option maxHeartbeats 2000000 in
theorem splitlast_one (g c : Nat) (x : Hop × Nat) (w : World) (h : MS w g 1 c ([] ++ [x])) : Calls Tryz.prog 43 #[.slice (some ⟨g, 0, none⟩) 1 c] w (OutSL [] x w) := by
  have h3 : C3 w g x := ⟨h.cell 0 _ (compCells_at [] x 0 (by decide)), h.cell 1 _ (compCells_at [] x 1 (by decide)), h.cell 2 _ (compCells_at [] x 2 (by decide))⟩
  have H3 := Lib.hid h3
  have hcap := h.cap
  clear h h3
  go_enter Tryz.func43, Tryz.ntmps43
  go_wp2_with fail
  go_quiet (fail)
  go_wp2_with fail
  go_ret2
  exact ⟨_, g, rfl, ⟨H3.out.c0, H3.out.c1, H3.out.c2⟩, Or.inl ⟨rfl, rfl⟩, below_drewN (Below.refl _ _) _⟩
set_option maxRecDepth 100000 in
set_option maxHeartbeats 2000000 in
theorem splitlast_more (g c : Nat) (cs : List (Hop × Nat)) (x : Hop × Nat) (w : World) (hn : 0 < cs.length) (hn1 : cs.length ≤ 1000) (h : MS w g (cs.length + 1) c (cs ++ [x])) : Calls Tryz.prog 43 #[.slice (some ⟨g, 0, none⟩) (cs.length + 1) c] w (OutSL cs x w) := by
  have c0 := h.cell (cs.length * 3 + 0) _ (compCells_at cs x 0 (by decide))
  have c1 := h.cell (cs.length * 3 + 1) _ (compCells_at cs x 1 (by decide))
  have c2 := h.cell (cs.length * 3 + 2) _ (compCells_at cs x 2 (by decide))
  rw [Nat.add_zero] at c0
  have hcap := h.cap
  have hmax : c ≤ 9223372036854775807 := h.max
  have HM := Lib.hid h.init
  have HG := Lib.hid h.lt
  have hz : IntKind.i64.wrap ((cs.length : Int) + 1 - 1) = (cs.length : Int) := by rw [show (cs.length : Int) + 1 - 1 = cs.length by omega]; exact IntWalk.i64_in _ (by omega)
  clear h
  go_enter Tryz.func43, Tryz.ntmps43
  have hb1 : Below w.heap.size w (w.alloc (.cells #[.string ⟨x.1.bytes.toArray⟩, .pointer (some ⟨x.2, 0, none⟩), .int .i64 (vsOf x.1.kd)] 91)) := (Below.refl _ w).alloc (Nat.le_refl _) _
  have hk1 := Blk.new w 91 #[.string ⟨x.1.bytes.toArray⟩, .pointer (some ⟨x.2, 0, none⟩), .int .i64 (vsOf x.1.kd)]
  have HC := Lib.hid (copyma_any g c cs.length cs _ rfl hn hn1 (Nat.lt_of_lt_of_le HG.out hb1.size) (fun j u hu => (hb1.cell (p := ⟨g, j, none⟩) HG.out).trans (HM.out j u hu)))
  have HB1 := Lib.hid hb1
  have HK1 := Lib.hid hk1
  clear hb1 hk1
  go_wp2_with fail
  refine HC.out.mono ?_
  rintro e w2 ⟨b, rfl, hk, _, hb2⟩
  have h3 := HK1.out.below hb2 HK1.out.lt
  have H3 := Lib.hid (show C3 w2 w.heap.size x from ⟨h3.cell 0, h3.cell 1, h3.cell 2⟩)
  have HMS := Lib.hid (show MS w2 b cs.length cs.length cs from ⟨rfl, fun j u hu => by rw [hk.cell j]; simpa using hu, hk.lt, Nat.le_refl _, by unfold maxLen; omega⟩)
  have HB2 := Lib.hid (HB1.out.trans (hb2.mono HB1.out.size))
  clear hk hb2 h3
  go_wp2_with fail
  go_ret2
  exact ⟨_, w.heap.size, rfl, H3.out, Or.inr ⟨hn, b, rfl, HMS.out⟩, HB2.out⟩

set_option maxHeartbeats 2000000 in
set_option maxRecDepth 100000 in
theorem rawvalue_c3 (q : Nat) (x : Hop × Nat) (w : World) (h : C3 w q x) (hv : vsOf x.1.kd ≤ x.1.bytes.length) (hl : x.1.bytes.length ≤ 100000) :
    Calls Tryz.prog 45 #[.pointer (some ⟨q, 0, none⟩)] w (OutB (x.1.bytes.drop (vsOf x.1.kd)) w) := by
  have c0 := h.c0
  have c2 := h.c2
  generalize x.1.bytes = l at *
  generalize vsOf x.1.kd = vs at *
  have hsz := size_toArray l
  have kx := extract_drop l vs
  have hL1 : (l.drop vs).length ≤ 1000000 := by simp; omega
  obtain ⟨L, hL⟩ : ∃ L, L = l.drop vs := ⟨_, rfl⟩
  rw [← hL] at kx hL1 ⊢
  have k0 : (0 : Int) ≤ (vs : Int) := by omega
  have k1 : (vs : Int) ≤ (l.length : Int) := by omega
  obtain ⟨cc, w1, hcv, hr, hb, _⟩ := conv_list w.drew L hL1
  have HR := Lib.hid hr
  have HB := Lib.hid (below_drew_left hb)
  clear h hL hr hb
  go_enter Tryz.func45, Tryz.ntmps45
  go_wp2_with fail
  go_still_tail 9, (by kernel_rfl)
  change wpList _ _ _ _ _ w.drew
  go_wp2_with fail
  go_ret
  exact ⟨_, cc, rfl, HR.out, HB.out⟩

theorem tc_form (k : Nat) : (protoOf k).tc = .nilIface ∨ ∃ t v, (protoOf k).tc = .iface t v := by
  unfold protoOf; split <;> first | exact Or.inl rfl | exact Or.inr ⟨_, _, rfl⟩
/-- A protocol, by value: its code. -/
def OutPV (k : Nat) (w : World) (e : Ending) (w' : World) : Prop := ∃ v0 v2 v3 v4 v5, e = .returned (.agg #[v0, .int .i64 k, v2, v3, v4, v5]) ∧ Below w.heap.size w w'
set_option maxHeartbeats 2000000 in
set_option maxRecDepth 100000 in
theorem protocol_any (q p k g : Nat) (w : World) (h : w.cell? ⟨q, 1, none⟩ = some (.pointer (some ⟨p, 0, none⟩))) (hp : Blk w p 99 (pcells k g)) :
    Calls Tryz.prog 44 #[.pointer (some ⟨q, 0, none⟩)] w (OutPV k w) := by
  obtain ⟨S, hS⟩ : ∃ S : ByteArray, S = ⟨(protoOf k).name.toArray⟩ := ⟨_, rfl⟩
  obtain ⟨m, hm⟩ : ∃ m, m = (protoOf k).vc.length := ⟨_, rfl⟩
  obtain ⟨z, hz⟩ : ∃ z, z = (protoOf k).size := ⟨_, rfl⟩
  have p0 : w.cell? ⟨p, 0, none⟩ = some (.string S) := by rw [hS]; exact hp.cell 0
  have p1 : w.cell? ⟨p, 1, none⟩ = some (.int .i64 k) := hp.cell 1
  have p2 : w.cell? ⟨p, 2, none⟩ = some (.slice (some ⟨g, 0, none⟩) m m) := by rw [hm]; exact hp.cell 2
  have p3 : w.cell? ⟨p, 3, none⟩ = some (.int .i64 z) := by rw [hz]; exact hp.cell 3
  have p4 : w.cell? ⟨p, 4, none⟩ = some (.bool false) := hp.cell 4
  have p5 : w.cell? ⟨p, 5, none⟩ = some (protoOf k).tc := hp.cell 5
  have h1 := tc_form k
  generalize (protoOf k).tc = tc at p5 h1
  have hpw := hp.lt
  have hqw := World.block_lt_of_cell? _ _ h
  clear hS hm hz hp
  rcases h1 with rfl | ⟨t, v, rfl⟩
  all_goals
    go_enter Tryz.func44, Tryz.ntmps44
    go_wp2_with fail
    exact bodyPost_ret (results_cell_row rfl _ _ w.heap.size 99 _ (0, 0) _ rfl (Blk.new w _ _) Tryz.underlying99 rfl (proto_size.trans rfl)) rfl ⟨_, _, _, _, _, rfl, (Below.refl _ w).alloc (Nat.le_refl _) _⟩
end Go.Proofs.YthpcfnegfdcbjaaGreatDoor

/- impl.addrOf, impl.AddrRight, peer.SplitAddr at the bytes of an address. -/
namespace Go.Proofs.YthpcfnegfdcbjaaGreatDoor
open Go.RowKit
variable {K : Nat}
attribute [local go_sem ↓] Go.wp_at_zero Go.wp_at_succ
/-- An address read. -/
def OutAO (hs : List Hop) (w : World) (e : Ending) (w' : World) : Prop :=
  ∃ g c cs, e = .returned (.tuple #[.slice (some ⟨g, 0, none⟩) cs.length c, .bool true]) ∧ cs.map (·.1) = hs ∧ PR w' cs ∧ MS w' g cs.length c cs ∧ Below w.heap.size w w'
set_option maxRecDepth 100000 in
set_option maxHeartbeats 2000000 in
theorem addrof_impl (A : Option Addr) (n c : Nat) (hs : List Hop) (w : World) (ht : Tab K w) (hok : ∀ x ∈ hs, HopOk K x.kd x.l) (h : RB w w.heap.size A n c (addrBytes hs)) (hn : hs.length ≤ 100) (hne : hs ≠ []) :
    Calls Tryz.prog 21 #[.slice A n c] w (OutAO hs w) := by
  have hs0 : 0 < hs.length := by rcases hs with _ | ⟨x, hs⟩; exact absurd rfl hne; simp
  have hle := addrBytes_le hs
  have hnn : n ≤ 140737488355328 := by rw [← h.len]; omega
  have HC := Lib.hid (clone_any A n c _ w h hnn)
  have HT := Lib.hid ht
  have HOK := Lib.hid hok
  have HN := Lib.hid hne
  clear h ht hok hne hle hnn
  have q0 : ∀ w : World, (binOp .eql 56 .nilIface .nilIface).run Tryz.prog w = .ok (.bool true) w := fun _ => by kernel_rfl
  go_enter Tryz.func21, Tryz.ntmps21
  go_wp2_with fail
  refine HC.out.mono ?_
  rintro e w1 ⟨A1, c1, rfl, hr1, hb1⟩
  have HR1 := Lib.hid hr1
  have HB1 := Lib.hid hb1
  clear hr1 hb1
  go_wp2_with fail
  refine (newma_any A1 _ c1 hs w1 (HT.out.below HB1.out) HOK.out HR1.out hn HN.out).mono ?_
  rintro e w2 ⟨v, cs, rfl, hcs, hpr, hown, hb2⟩
  have hcl : 0 < cs.length := by have := congrArg List.length hcs; rw [List.length_map] at this; omega
  obtain ⟨g, c2, rfl, hms⟩ := MS.of_own hown hcl
  have HCS := Lib.hid hcs
  have HPR := Lib.hid hpr
  have HMS := Lib.hid hms
  have HB := Lib.hid (HB1.out.trans (hb2.mono HB1.out.size))
  clear hcs hpr hms hown hb2
  go_wp2_with fail
  go_ret2
  exact ⟨g, c2, cs, rfl, HCS.out, HPR.out, HMS.out, HB.out⟩
theorem splitlast_any (g c : Nat) (cs : List (Hop × Nat)) (x : Hop × Nat) (w : World) (hn1 : cs.length ≤ 1000) (h : MS w g (cs.length + 1) c (cs ++ [x])) : Calls Tryz.prog 43 #[.slice (some ⟨g, 0, none⟩) (cs.length + 1) c] w (OutSL cs x w) := by
  rcases cs with _ | ⟨y, cs⟩
  · exact splitlast_one g c x w h
  · exact splitlast_more g c (y :: cs) x w (by simp) hn1 h
theorem codeOf_421 (kd : Nat) : codeOf kd = 421 ↔ kd % 8 = 6 := by
  have h8 : kd % 8 = 0 ∨ kd % 8 = 1 ∨ kd % 8 = 2 ∨ kd % 8 = 3 ∨ kd % 8 = 4 ∨ kd % 8 = 5 ∨ kd % 8 = 6 ∨ kd % 8 = 7 := by omega
  unfold codeOf
  rcases h8 with e | e | e | e | e | e | e | e <;> simp [e]
theorem vs_le (kd : Nat) (l : List UInt8) : vsOf kd ≤ (hopBytes kd l).length := by
  have h8 : kd % 8 = 0 ∨ kd % 8 = 1 ∨ kd % 8 = 2 ∨ kd % 8 = 3 ∨ kd % 8 = 4 ∨ kd % 8 = 5 ∨ kd % 8 = 6 ∨ kd % 8 = 7 := by omega
  unfold vsOf hopBytes
  rcases h8 with e | e | e | e | e | e | e | e <;> simp [e]
theorem drop_id (kd : Nat) (l : List UInt8) (h : kd % 8 = 6) : (hopBytes kd l).drop (vsOf kd) = idOf l := by
  unfold vsOf hopBytes
  simp [h]
theorem field_code (v0 v1 v2 v3 v4 v5 : Value) (w : World) : (Instr.field 99 (.agg #[v0, v1, v2, v3, v4, v5]) 1).run Tryz.prog w = .ok v1 w := by kernel_rfl
/-- What peer.SplitAddr gives at an address with an ID behind it. -/
def OutPS (cs : List (Hop × Nat)) (x : Hop × Nat) (w : World) (e : Ending) (w' : World) : Prop :=
  ∃ T, e = .returned (.tuple #[T, .string ⟨(idOf x.1.l).toArray⟩]) ∧ ((cs = [] ∧ T = .slice none 0 0) ∨ (0 < cs.length ∧ ∃ b, T = .slice (some ⟨b, 0, none⟩) cs.length cs.length ∧ MS w' b cs.length cs.length cs)) ∧ Below w.heap.size w w'
set_option maxRecDepth 100000 in
set_option maxHeartbeats 2000000 in
theorem splitaddr_id (g c : Nat) (cs : List (Hop × Nat)) (x : Hop × Nat) (w : World) (hn1 : cs.length ≤ 1000) (hk : x.1.kd % 8 = 6) (hp : PR w (cs ++ [x])) (h : MS w g (cs.length + 1) c (cs ++ [x])) : Calls Tryz.prog 28 #[.slice (some ⟨g, 0, none⟩) (cs.length + 1) c] w (OutPS cs x w) := by
  have q : ∀ (w : World) (a : Option Addr) (n c n' c' : Nat), (binOp .eql 51 (.slice a n c) (.slice none n' c')).run Tryz.prog w = .ok (.bool a.isNone) w := fun w a n c n' c' => Lib.run_eql_slice_nil w _ _ a n c n' c' Tryz.underlying51
  obtain ⟨gp, hgp⟩ := hp x (by simp)
  have HP := Lib.hid hgp
  have hfc := fun v0 v1 v2 v3 v4 v5 => field_code v0 v1 v2 v3 v4 v5
  have hcode : codeOf x.1.kd = 421 := (codeOf_421 _).2 hk
  rw [hcode] at HP
  have HC := Lib.hid (splitlast_any g c cs x w hn1 h)
  have HK := Lib.hid hk
  clear hp h hcode hk hgp
  go_enter Tryz.func28, Tryz.ntmps28
  go_wp2_with fail
  refine HC.out.mono ?_
  rintro e w1 ⟨T, q1, rfl, h3, hT, hb⟩
  have HB := Lib.hid hb
  have HT := Lib.hid hT
  have H3 := Lib.hid h3
  clear h3 hb hT
  go_wp2_with fail
  refine (protocol_any q1 x.2 421 gp w1 H3.out.c1 (HP.out.below HB.out HP.out.lt)).mono ?_
  rintro e w2 ⟨v0, v2, v3, v4, v5, rfl, hb2⟩
  have H3' := Lib.hid (H3.out.below hb2)
  have HT' := Lib.hid (HT.out.imp id (fun ⟨h0, b, e1, hm⟩ => ⟨h0, b, e1, hm.below hb2⟩) : (cs = [] ∧ T = Value.slice none 0 0) ∨ (0 < cs.length ∧ ∃ b, T = .slice (some ⟨b, 0, none⟩) cs.length cs.length ∧ MS w2 b cs.length cs.length cs))
  have HB' := Lib.hid (HB.out.trans (hb2.mono HB.out.size))
  clear hb2
  go_wp2_with fail
  refine (rawvalue_c3 q1 x w2 H3'.out (vs_le _ _) (by have := (hopBytes_le x.1.kd x.1.l).2; unfold Hop.bytes; omega)).mono ?_
  rintro e w3 ⟨A3, c3, rfl, hr3, hb3⟩
  have hd : x.1.bytes.drop (vsOf x.1.kd) = idOf x.1.l := drop_id _ _ HK.out
  rw [hd] at hr3 ⊢
  have hcv := run_convert_RB hr3 26 5 Tryz.underlying26 Tryz.underlying5 60 Tryz.underlying60
  have HT3 := Lib.hid (HT'.out.imp id (fun ⟨h0, b, e1, hm⟩ => ⟨h0, b, e1, hm.below hb3⟩) : (cs = [] ∧ T = Value.slice none 0 0) ∨ (0 < cs.length ∧ ∃ b, T = .slice (some ⟨b, 0, none⟩) cs.length cs.length ∧ MS w3 b cs.length cs.length cs))
  have HB3 := Lib.hid (HB'.out.trans (hb3.mono HB'.out.size))
  clear hr3 hb3 hd
  go_wp2_with fail
  go_ret2
  exact ⟨T, rfl, HT3.out, HB3.out⟩
set_option maxRecDepth 100000 in
set_option maxHeartbeats 2000000 in
theorem splitaddr_other (g c : Nat) (cs : List (Hop × Nat)) (x : Hop × Nat) (w : World) (hn1 : cs.length ≤ 1000) (hk : x.1.kd % 8 ≠ 6) (hp : PR w (cs ++ [x])) (h : MS w g (cs.length + 1) c (cs ++ [x])) : Calls Tryz.prog 28 #[.slice (some ⟨g, 0, none⟩) (cs.length + 1) c] w fun e w' => e = .returned (.tuple #[.slice (some ⟨g, 0, none⟩) (cs.length + 1) c, .string ⟨#[]⟩]) ∧ Below w.heap.size w w' := by
  have q : ∀ (w : World) (a : Option Addr) (n c n' c' : Nat), (binOp .eql 51 (.slice a n c) (.slice none n' c')).run Tryz.prog w = .ok (.bool a.isNone) w := fun w a n c n' c' => Lib.run_eql_slice_nil w _ _ a n c n' c' Tryz.underlying51
  obtain ⟨gp, hgp⟩ := hp x (by simp)
  have HP := Lib.hid hgp
  have hfc := fun v0 v1 v2 v3 v4 v5 => field_code v0 v1 v2 v3 v4 v5
  obtain ⟨K, hK⟩ : ∃ K, K = codeOf x.1.kd := ⟨_, rfl⟩
  have hne : ((K : Int) != 421) = true := by
    have : K ≠ 421 := by rw [hK]; exact fun e => hk ((codeOf_421 _).1 e)
    simp; omega
  rw [← hK] at HP
  have HC := Lib.hid (splitlast_any g c cs x w hn1 h)
  clear hp h hgp hK
  go_enter Tryz.func28, Tryz.ntmps28
  go_wp2_with fail
  refine HC.out.mono ?_
  rintro e w1 ⟨T, q1, rfl, h3, _, hb⟩
  have HB := Lib.hid hb
  have H3 := Lib.hid h3
  clear h3 hb
  go_wp2_with fail
  refine (protocol_any q1 x.2 K gp w1 H3.out.c1 (HP.out.below HB.out HP.out.lt)).mono ?_
  rintro e w2 ⟨v0, v2, v3, v4, v5, rfl, hb2⟩
  have HB' := Lib.hid (HB.out.trans (hb2.mono HB.out.size))
  clear hb2
  go_wp2_with fail
  go_ret2
  exact ⟨rfl, HB'.out⟩
end Go.Proofs.YthpcfnegfdcbjaaGreatDoor

/- Multiaddr.Bytes: the bytes of components, one after the other. -/
namespace Go.Proofs.YthpcfnegfdcbjaaGreatDoor
open Go.RowKit
open Go.Lib (strCells strCells_length strCells_oneCell)
theorem strCells_bv (l : List UInt8) : strCells ⟨l.toArray⟩ = bv l := by simp [strCells, bv]
/-- A string's bytes behind a row in whose block there is room; the block's type may be another one than the slice's element (an array's). -/
theorem run_append_room_string2 {P : Program} (w : World) (t u ty e eb : TypeId) (i : TypeInfo) (ht : P.underlying t = some (.slice e)) (hu : P.underlying u = some .string) (hi : P.info? e = some i) (hs1 : i.size = 1)
    (g sLen sCap : Nat) (cur : Array Value) (hg : w.heap[g]? = some (.cells cur eb (0, 0))) (s : ByteArray)
    (hroom : sLen + s.size ≤ sCap) (hfit : sLen + s.size ≤ cur.size) :
    (Builtin.append_ #[t, u] ty #[.slice (some ⟨g, 0, none⟩) sLen sCap, .string s]).run P w =
      .ok (.slice (some ⟨g, 0, none⟩) (sLen + s.size) sCap) (w.setRow g (cur.toList.take sLen ++ strCells s ++ cur.toList.drop (sLen + s.size)).toArray) := by
  have hf := Lib.run_firstCells_string (P := P) w 1 s
  have hst := run_storeCells_at P g sLen eb (strCells s) 0 cur w hg (by simpa [strCells_length] using hfit) (strCells_oneCell s)
  simp only [Nat.add_zero, strCells_length] at hst
  simp [Builtin.append_, run_underlying ht, run_underlying hu, sizeOf, typeInfo, hi, hs1, Builtin.lenOf, hroom, hf, Addr.add_lit, hst]
theorem run_append_fits_string2 {P : Program} (w : World) (base : Nat) (t u ty e eb : TypeId) (i : TypeInfo) (ht : P.underlying t = some (.slice e)) (hu : P.underlying u = some .string) (hi : P.info? e = some i)
    (hsize : i.size = 1)
    (p : Option Addr) (n cap : Nat) (xs : List Value) (hown : w.ownsRow base eb 1 (.slice p n cap) n xs) (s : ByteArray) (h1 : 0 < cap) (hroom : n + s.size ≤ cap) :
    ∃ w', (Builtin.append_ #[t, u] ty #[.slice p n cap, .string s]).run P w = .ok (.slice p (n + s.size) cap) w' ∧ w'.ownsRow base eb 1 (.slice p (n + s.size) cap) (n + s.size) (xs ++ strCells s) ∧ w.grownBy w' (Value.ownBlock (.slice p n cap)) := by
  have hxl : xs.length = n := by simpa using hown.1
  have hlen : (xs ++ strCells s).length = (n + s.size) * 1 := by rw [List.length_append, hxl, strCells_length, Nat.mul_one]
  rcases hown.2 with ⟨hv, _⟩ | ⟨g, cap', cur, hv, hbg, hg, hnc, hcm, hcs, htake⟩
  · cases hv
    omega
  · cases hv
    have hcs' : cur.size = cap := by simpa using hcs
    have hr := run_append_room_string2 (P := P) w t u ty e eb i ht hu hi hsize g n cap cur hg s hroom (by omega)
    refine ⟨_, hr, ⟨hlen, .inr ⟨g, cap, _, rfl, hbg, setRow_heap w g cur _ eb _ hg, hroom, hcm, ?_, ?_⟩⟩, ⟨rfl, rfl, rfl, by simp, fun k _ hk => setRow_other w g k _ (fun e => hk (by simp [Value.ownBlock, e]))⟩⟩
    · simp only [List.size_toArray, List.length_append, List.length_take, List.length_drop, Array.length_toList, strCells_length]
      omega
    · have ht' : cur.toList.take n = xs := by simpa using htake
      rw [ht', ← hlen]
      exact List.take_left
theorem step_append_string {P : Program} {w : World} {ops : Array Oper} {rest : List Oper} {o : Oper} {a : Act} {Q : Exit → Act → World → Prop} (hgd : o.guard = none) (sl x : Operand) (t u : TypeId)
    (ho : o.op = .call { callee := .builtin .append, args := #[sl, x], argTypes := #[t, u] })
    (base : Nat) (e eb : TypeId) (i : TypeInfo) (ht : P.underlying t = some (.slice e)) (hu : P.underlying u = some .string) (hi : P.info? e = some i)
    (hsize : i.size = 1)
    (p : Option Addr) (n cap : Nat) (xs : List Value) (hs : a.eval sl = .slice p n cap) (hown : w.ownsRow base eb 1 (.slice p n cap) n xs) (s : ByteArray) (hx : a.eval x = .string s) (h1 : 0 < cap) (hroom : n + s.size ≤ cap)
    (h : ∀ w', w'.ownsRow base eb 1 (.slice p (n + s.size) cap) (n + s.size) (xs ++ strCells s) → w.grownBy w' (Value.ownBlock (.slice p n cap)) → wpList P ops Q rest (a.put o.dst (.slice p (n + s.size) cap)) w') : wpList P ops Q (o :: rest) a w := by
  refine wpList_plain hgd fun K hK => ?_
  obtain ⟨w', hr, h2, h3⟩ := run_append_fits_string2 (P := P) w base t u o.type e eb i ht hu hi hsize p n cap xs hown s h1 hroom
  unfold Oper.wp execOp
  simp only [ho, resolve, invoke, builtin, Sem.run_bind, Sem.run_pure, Result.andThen_ok, List.map_toArray, List.map_cons, List.map_nil, hs, hx, hr]
  exact hK _ _ (h w' h2 h3)
theorem compCells_get (cs : List (Hop × Nat)) (k : Nat) (hk : k < cs.length) (j : Nat) (hj : j < 3) : (compCells cs)[k * 3 + j]? = ([.string ⟨(cs[k]).1.bytes.toArray⟩, .pointer (some ⟨(cs[k]).2, 0, none⟩), .int .i64 (vsOf (cs[k]).1.kd)] : List Value)[j]? := by
  have e : cs = cs.take k ++ [cs[k]] ++ cs.drop (k + 1) := by simp
  have hl : (cs.take k).length = k := by rw [List.length_take]; omega
  have h1 := compCells_at (cs.take k) (cs[k]) j hj
  rw [hl] at h1
  rw [← h1]
  conv => lhs; rw [e]
  have e2 : compCells (cs.take k ++ [cs[k]] ++ cs.drop (k + 1)) = compCells (cs.take k ++ [cs[k]]) ++ compCells (cs.drop (k + 1)) := by unfold compCells; rw [List.flatMap_append]
  rw [e2, List.getElem?_append_left]
  rw [compCells_length, List.length_append, hl]
  simp
  omega
/-- The bytes of components. -/
def compBytes (cs : List (Hop × Nat)) : List UInt8 := addrBytes (cs.map (·.1))
theorem compBytes_take (cs : List (Hop × Nat)) (k : Nat) (h : k < cs.length) : compBytes (cs.take (k + 1)) = compBytes (cs.take k) ++ (cs[k]).1.bytes := by
  unfold compBytes
  rw [List.map_take, List.map_take, addrBytes_take _ k (by simpa using h)]
  simp
theorem compBytes_le (cs : List (Hop × Nat)) : (compBytes cs).length ≤ 50 * cs.length := by
  have := addrBytes_le (cs.map (·.1))
  rwa [List.length_map] at this
theorem compBytes_take_le (cs : List (Hop × Nat)) (k : Nat) : (compBytes (cs.take k)).length ≤ (compBytes cs).length := by
  conv => rhs; rw [← List.take_append_drop k cs]
  unfold compBytes addrBytes
  rw [List.map_append, List.flatMap_append, List.length_append]
  omega
set_option maxRecDepth 100000 in
set_option maxHeartbeats 2000000 in
theorem bytes_any (g n c : Nat) (cs : List (Hop × Nat)) (w : World) (h : MS w g n c cs) (hn : n ≤ 1000) :
    Calls Tryz.prog 29 #[.slice (some ⟨g, 0, none⟩) n c] w (OutB (compBytes cs) w) := by
  obtain ⟨i0, hi0, hz0, hz1, hz2⟩ := info_parts u8_info
  have HM := Lib.hid h
  have HL := Lib.hid h.len
  have hlen : cs.length ≤ 1000 := by rw [h.len]; exact hn
  clear h
  go_enter Tryz.func29, Tryz.ntmps29
  go_wp2_with fail
  go_loopw [3, 12] (fun s i wr => ∃ k : Nat, k ≤ n ∧ i = .int .i64 k ∧ s = .int .i64 (compBytes (cs.take k)).length ∧ Below w.heap.size w wr) (fun _ i _ => n - (intOf i).toNat)
  case atStart => exact ⟨0, by omega, rfl, rfl, Below.refl _ _⟩
  case round =>
    obtain ⟨k, hk, rfl, rfl, hb⟩ := hrel
    have HB := Lib.hid hb
    clear hb
    by_cases hlt : k < n
    · have hlt' : k < cs.length := by rw [HL.out]; exact hlt
      have hm := HM.out.below HB.out
      have c0 := hm.cell (k * 3 + 0) _ (compCells_get cs k hlt' 0 (by decide))
      have c1 := hm.cell (k * 3 + 1) _ (compCells_get cs k hlt' 1 (by decide))
      have c2 := hm.cell (k * 3 + 2) _ (compCells_get cs k hlt' 2 (by decide))
      rw [Nat.add_zero] at c0
      have htk := compBytes_take cs k hlt'
      have hle := compBytes_le (cs.take k)
      have hle2 := (hopBytes_le (cs[k]).1.kd (cs[k]).1.l).2
      have hltk : (cs.take k).length ≤ 1000 := by rw [List.length_take]; omega
      have hts : (compBytes (cs.take (k + 1))).length = (compBytes (cs.take k)).length + (cs[k]).1.bytes.length := by rw [htk, List.length_append]
      have hsz := size_toArray (cs[k]).1.bytes
      generalize hX : (cs[k]).1.bytes = X at *
      have hX2 : X.length ≤ 100 := by rw [← hX]; unfold Hop.bytes; omega
      have HTS := Lib.hid hts
      generalize (compBytes (cs.take k)).length = S0 at *
      have hS0 : S0 ≤ 50000 := by omega
      clear hts htk hle hle2 hm hX
      go_wp2_with fail
      exact ⟨⟨k + 1, by omega, by go_num, by rw [HTS.out]; go_num, HB.out.alloc HB.out.size _⟩, by simp [intOf]; omega⟩
    · obtain rfl : n = k := by omega
      have htk : cs.take n = cs := by rw [← HL.out]; exact List.take_length
      rw [htk]
      clear htk
      obtain ⟨S, hS⟩ : ∃ S, S = (compBytes cs).length := ⟨_, rfl⟩
      have hS1 : S ≤ 50000 := by have := compBytes_le cs; omega
      rw [← hS]
      have hmk : ∀ W : World, (Instr.makeSlice 26 (.int .i64 0) (.int .i64 (S : Int))).run Tryz.prog W = .ok (.slice (some ⟨W.heap.size, 0, none⟩) 0 S) (W.alloc (.cells (madeCells (Value.int .u8 0).cells (S * 1)) 5)) := fun W => by
        have := run_make_rowN (P := Tryz.prog) 26 5 i0 (.int .u8 0) Tryz.underlying26 hi0 hz0 .i64 .i64 0 S (Nat.zero_le _) (by rw [hz2]; omega) (by omega) W
        rwa [hz1] at this
      have HS := Lib.hid hS
      clear hS
      by_cases hlt128 : S < 128
      · have hd0 : decide ((S : Int) < 128) = true := by simp; omega
        have hn0 : 0 < 128 := by decide
        have hob : ∀ X : Array Value, X.size = 128 → (wr.alloc (.cells X 101)).ownsRow w.heap.size 101 1 (.slice (some ⟨wr.heap.size, 0, none⟩) 0 128) 0 [] := fun X hX => ⟨rfl, .inr ⟨_, _, _, rfl, HB.out.size, heap_alloc_new _ _, by omega, by unfold maxLen; omega, by omega, rfl⟩⟩
        have HOB := Lib.hid hob
        clear hob
        go_wp2_with fail
        go_loopw [6, 29] (fun v i wq => ∃ k : Nat, k ≤ n ∧ i = .int .i64 k ∧ v = .slice (some ⟨wr.heap.size, 0, none⟩) (compBytes (cs.take k)).length 128 ∧ wq.ownsRow w.heap.size 101 1 v (compBytes (cs.take k)).length (bv (compBytes (cs.take k))) ∧ Below w.heap.size w wq) (fun _ i _ => n - (intOf i).toNat)
        case atStart => exact ⟨0, by omega, rfl, rfl, HOB.out _ (by rfl), HB.out.alloc HB.out.size _⟩
        case round =>
          obtain ⟨k, hk, rfl, rfl, hown, hb⟩ := hrel
          have HO := Lib.hid hown
          have HB := Lib.hid hb
          clear hb hown
          by_cases hlt : k < n
          · have hlt' : k < cs.length := by rw [HL.out]; exact hlt
            have hm := HM.out.below HB.out
            have c0 := hm.cell (k * 3 + 0) _ (compCells_get cs k hlt' 0 (by decide))
            have c1 := hm.cell (k * 3 + 1) _ (compCells_get cs k hlt' 1 (by decide))
            have c2 := hm.cell (k * 3 + 2) _ (compCells_get cs k hlt' 2 (by decide))
            rw [Nat.add_zero] at c0
            have htk := compBytes_take cs k hlt'
            have hle := compBytes_take_le cs (k + 1)
            have hts : (compBytes (cs.take (k + 1))).length = (compBytes (cs.take k)).length + (cs[k]).1.bytes.length := by rw [htk, List.length_append]
            rw [hts, ← HS.out] at hle
            have hsz := size_toArray (cs[k]).1.bytes
            generalize hX : (cs[k]).1.bytes = X at *
            have HTK := Lib.hid htk
            have HTS := Lib.hid hts
            have HLE := Lib.hid hle
            have hbw : Below w.heap.size w (wr.alloc (.cells #[.string ⟨X.toArray⟩, .pointer (some ⟨(cs[k]).2, 0, none⟩), .int .i64 (vsOf (cs[k]).1.kd)] 91)) := HB.out.alloc HB.out.size _
            have HBW := Lib.hid hbw
            have HOO := Lib.hid (own_below HO.out ((Below.refl _ wr).alloc (Nat.le_refl _) (.cells #[.string ⟨X.toArray⟩, .pointer (some ⟨(cs[k]).2, 0, none⟩), .int .i64 (vsOf (cs[k]).1.kd)] 91)))
            clear hts htk hle hm hX hbw
            go_wp2_with (at_builtin; refine step_append_string rfl (.tmp 33) (.tmp 35) _ _ rfl w.heap.size 5 101 i0 Tryz.underlying26 Tryz.underlying9 hi0 hz1 _ _ _ _ rfl HOO.out _ rfl ?c1 ?c2 ?_)
            case c1 => omega
            case c2 => have := HLE.out; omega
            intro w' hown hgrow
            rw [strCells_bv, ← bv_append, ← HTK.out, ← HTS.out] at hown
            have HOF := Lib.hid hown
            have HBF := Lib.hid (HBW.out.grown hgrow HBW.out.size (fun g hg => (HOO.out.lt g hg).1))
            have hts' := HTS.out
            rw [← hts']
            clear hown hgrow hts'
            go_wp2_with fail
            go_roundw
            case rel => exact ⟨k + 1, by omega, by go_num, rfl, HOF.out, HBF.out⟩
            case measure => simp [intOf]; omega
          · obtain rfl : k = n := by omega
            have htk : cs.take k = cs := by rw [← HL.out]; exact List.take_length
            rw [htk] at HO ⊢
            clear htk
            go_wp2_with fail
            go_ret
            exact OutB.of_own HO.out HB.out
      · have hd0 : decide ((S : Int) < 128) = false := by simp; omega
        have hn0 : 0 < S := by omega
        have hob : ∀ X : Array Value, X.size = S → (wr.alloc (.cells X 5)).ownsRow w.heap.size 5 1 (.slice (some ⟨wr.heap.size, 0, none⟩) 0 S) 0 [] := fun X hX => ⟨rfl, .inr ⟨_, _, _, rfl, HB.out.size, heap_alloc_new _ _, by omega, by unfold maxLen; omega, by omega, rfl⟩⟩
        have HOB := Lib.hid hob
        clear hob
        go_wp2_with fail
        go_loopw [6, 29] (fun v i wq => ∃ k : Nat, k ≤ n ∧ i = .int .i64 k ∧ v = .slice (some ⟨wr.heap.size, 0, none⟩) (compBytes (cs.take k)).length S ∧ wq.ownsRow w.heap.size 5 1 v (compBytes (cs.take k)).length (bv (compBytes (cs.take k))) ∧ Below w.heap.size w wq) (fun _ i _ => n - (intOf i).toNat)
        case atStart => exact ⟨0, by omega, rfl, rfl, HOB.out _ (by rw [size_madeCells]), HB.out.alloc HB.out.size _⟩
        case round =>
          obtain ⟨k, hk, rfl, rfl, hown, hb⟩ := hrel
          have HO := Lib.hid hown
          have HB := Lib.hid hb
          clear hb hown
          by_cases hlt : k < n
          · have hlt' : k < cs.length := by rw [HL.out]; exact hlt
            have hm := HM.out.below HB.out
            have c0 := hm.cell (k * 3 + 0) _ (compCells_get cs k hlt' 0 (by decide))
            have c1 := hm.cell (k * 3 + 1) _ (compCells_get cs k hlt' 1 (by decide))
            have c2 := hm.cell (k * 3 + 2) _ (compCells_get cs k hlt' 2 (by decide))
            rw [Nat.add_zero] at c0
            have htk := compBytes_take cs k hlt'
            have hle := compBytes_take_le cs (k + 1)
            have hts : (compBytes (cs.take (k + 1))).length = (compBytes (cs.take k)).length + (cs[k]).1.bytes.length := by rw [htk, List.length_append]
            rw [hts, ← HS.out] at hle
            have hsz := size_toArray (cs[k]).1.bytes
            generalize hX : (cs[k]).1.bytes = X at *
            have HTK := Lib.hid htk
            have HTS := Lib.hid hts
            have HLE := Lib.hid hle
            have hbw : Below w.heap.size w (wr.alloc (.cells #[.string ⟨X.toArray⟩, .pointer (some ⟨(cs[k]).2, 0, none⟩), .int .i64 (vsOf (cs[k]).1.kd)] 91)) := HB.out.alloc HB.out.size _
            have HBW := Lib.hid hbw
            have HOO := Lib.hid (own_below HO.out ((Below.refl _ wr).alloc (Nat.le_refl _) (.cells #[.string ⟨X.toArray⟩, .pointer (some ⟨(cs[k]).2, 0, none⟩), .int .i64 (vsOf (cs[k]).1.kd)] 91)))
            clear hts htk hle hm hX hbw
            go_wp2_with (at_builtin; refine step_append_string rfl (.tmp 33) (.tmp 35) _ _ rfl w.heap.size 5 5 i0 Tryz.underlying26 Tryz.underlying9 hi0 hz1 _ _ _ _ rfl HOO.out _ rfl ?c1 ?c2 ?_)
            case c1 => omega
            case c2 => have := HLE.out; omega
            intro w' hown hgrow
            rw [strCells_bv, ← bv_append, ← HTK.out, ← HTS.out] at hown
            have HOF := Lib.hid hown
            have HBF := Lib.hid (HBW.out.grown hgrow HBW.out.size (fun g hg => (HOO.out.lt g hg).1))
            have hts' := HTS.out
            rw [← hts']
            clear hown hgrow hts'
            go_wp2_with fail
            go_roundw
            case rel => exact ⟨k + 1, by omega, by go_num, rfl, HOF.out, HBF.out⟩
            case measure => simp [intOf]; omega
          · obtain rfl : k = n := by omega
            have htk : cs.take k = cs := by rw [← HL.out]; exact List.take_length
            rw [htk] at HO ⊢
            clear htk
            go_wp2_with fail
            go_ret
            exact OutB.of_own HO.out HB.out
end Go.Proofs.YthpcfnegfdcbjaaGreatDoor
