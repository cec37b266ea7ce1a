/- What addresses tell together, in lists; peers in memory with their addresses. No condition. -/
import Derived.Test.YtkmieonfhcmimaaGreatDoorGt
import Derived.Test.YtkmieonfhcmimaaGreatDoorHh
import Derived.Test.YtkmieonfhcmimaaGreatDoorHi
import Derived.Test.YtkmieonfhcmimaaGreatDoorSh
import Derived.Test.YtkmieonfhcmimaaGreatDoorKb
import Derived.Test.YtkmieonfhcmimaaGreatDoorHa
namespace Go.Proofs.YtkmieonfhcmimaaGreatDoor
open Go Go.RowKit Go.Sort
/-- What an address tells: the ID at its end, what stands ahead. -/
def toldH (hs : List Hop) : List UInt8 × Option (List Hop) := (((hs.getLast?).map fun x => idOf x.l).getD [], if hs.dropLast = [] then none else some hs.dropLast)
theorem toldH_snoc (r : List Hop) (x : Hop) : toldH (r ++ [x]) = (idOf x.l, if r = [] then none else some r) := by simp [toldH]
theorem told_h (t : Tr) : told t = toldH (t.cs.map (·.1)) := by
  obtain ⟨g, c, cs⟩ := t
  rcases List.eq_nil_or_concat cs with rfl | ⟨r, x, rfl⟩
  · simp [told, toldH]
  · rw [List.concat_eq_append, told_snoc, List.map_append]
    show _ = toldH (r.map (·.1) ++ [x.1])
    rw [toldH_snoc]
    simp
def groupH (hss : List (List Hop)) (k : List UInt8) : List (List Hop) := hss.filterMap fun hs => if (toldH hs).1 = k then (toldH hs).2 else none
theorem groupH_append (a b : List (List Hop)) (k : List UInt8) : groupH (a ++ b) k = groupH a k ++ groupH b k := by simp [groupH]
theorem groupH_mem {hss : List (List Hop)} {k : List UInt8} {r : List Hop} (h : r ∈ groupH hss k) : r ≠ [] ∧ ∃ hs ∈ hss, r = hs.dropLast := by
  obtain ⟨hs, hh, e⟩ := List.mem_filterMap.1 h
  split at e
  · simp only [toldH] at e
    split at e
    · cases e
    · rename_i h2
      injection e with e
      exact ⟨e ▸ h2, hs, hh, e.symm⟩
  · cases e
theorem groupH_length (hss : List (List Hop)) (k : List UInt8) : (groupH hss k).length ≤ hss.length := List.length_filterMap_le _ _
theorem groupH_out {hss : List (List Hop)} {k : List UInt8} (h : k ∉ hss.map fun hs => (toldH hs).1) : groupH hss k = [] := by
  unfold groupH
  rw [List.filterMap_eq_nil_iff]
  intro hs hh
  rw [if_neg (fun e => h (List.mem_map.2 ⟨hs, hh, e⟩))]
theorem grp_isSome {gl : List (List UInt8 × Option Tr)} {hss : List (List Hop)} (h : gl.map said = hss.map toldH) (k : List UInt8) : (grp gl k).isSome = true ↔ k ∈ hss.map fun hs => (toldH hs).1 := by
  have h1 : gl.map (·.1) = hss.map (fun hs => (toldH hs).1) := by
    have := congrArg (List.map Prod.fst) h
    rw [List.map_map, List.map_map] at this
    exact this
  rw [← h1]
  unfold grp
  split
  · rename_i h2
    simp only [Option.isSome_some, true_iff]
    obtain ⟨p, hp, e⟩ := List.any_eq_true.1 h2
    exact List.mem_map.2 ⟨p, hp, by simpa using e⟩
  · rename_i h2
    simp only [Option.isSome_none, Bool.false_eq_true, false_iff]
    intro h3
    obtain ⟨p, hp, e⟩ := List.mem_map.1 h3
    exact h2 (List.any_eq_true.2 ⟨p, hp, by simp [e]⟩)
theorem grp_group {gl : List (List UInt8 × Option Tr)} {hss : List (List Hop)} (h : gl.map said = hss.map toldH) (k : List UInt8) : ((grp gl k).getD []).map (fun t => t.cs.map (·.1)) = groupH hss k := by
  have h2 : groupH hss k = (gl.map said).filterMap (fun p => if p.1 = k then p.2 else none) := by
    rw [h, List.filterMap_map]; rfl
  rw [h2, List.filterMap_map]
  unfold grp
  split
  · rw [Option.getD_some, List.map_filterMap]
    congr 1
    funext p
    show Option.map (fun t : Tr => t.cs.map (·.1)) (if p.1 = k then p.2 else none) = if p.1 = k then p.2.map (fun t => t.cs.map (·.1)) else none
    by_cases e : p.1 = k
    · rw [if_pos e, if_pos e]
    · rw [if_neg e, if_neg e]; rfl
  · rename_i h3
    rw [Option.getD_none, List.map_nil]
    symm
    rw [List.filterMap_eq_nil_iff]
    intro p hp
    show (if p.1 = k then p.2.map (fun t : Tr => t.cs.map (·.1)) else none) = none
    rw [if_neg (fun e => h3 (List.any_eq_true.2 ⟨p, hp, by simp [e]⟩))]
theorem rises_of {l : List (List UInt8)} (h : l.Pairwise fun a b => ¬ cmpB b a < 0) (hn : l.Nodup) : Rises l := by
  have := List.pairwise_and_iff.2 ⟨h, hn⟩
  exact this.imp fun {a b} hab => by
    rcases cmp_cases a b with h1 | h1 | h1
    · exact h1
    · exact absurd h1 hab.2
    · exact absurd h1 hab.1
/-- A peer in memory with its addresses. -/
abbrev Peer := Who (List Part × List (List Hop))
def Who.info (x : Peer) : Info := ⟨x.p, x.A, x.n, x.c, x.x.1, x.x.2⟩
theorem infoRow_who (ys : List Peer) : infoRow (ys.map Who.info) = ys.flatMap Who.cells := by
  unfold infoRow
  rw [List.flatMap_map]
  rfl
section
variable {K : Nat}
structure PeerW (K : Nat) (w : World) (base : Nat) (x : Peer) : Prop where
  tb : TB w x.p
  own : w.ownsRow base 32 1 (.slice x.A x.n x.c) x.n (partCells x.x.1)
  tbs : TBs w x.x.1
  he : x.x.1.map (·.l) = x.x.2.map addrBytes
  ok : ∀ hs ∈ x.x.2, AOk K hs
  le : x.p.l.length ≤ 1000
  max : x.n ≤ 1000
theorem PeerW.below {w w' : World} {base : Nat} {x : Peer} (h : PeerW K w base x) (hb : Below w.heap.size w w') : PeerW K w' base x :=
  ⟨h.tb.below hb, own_below h.own hb, fun p hp => (h.tbs p hp).below hb, h.he, h.ok, h.le, h.max⟩
theorem PeerW.grown {w w' : World} {base b m : Nat} {v : Value} {xs : List Value} {x : Peer} (h : PeerW K w base x) (ho : w.ownsRow b 44 2 v m xs) (hg : w.grownBy w' v.ownBlock) : PeerW K w' base x :=
  ⟨h.tb.grown ho (by decide) hg, h.own.kept hg (own_own_ne h.own ho (by decide)), fun p hp => (h.tbs p hp).grown ho (by decide) hg, h.he, h.ok, h.le, h.max⟩
theorem PeerW.mono {w : World} {base b : Nat} {x : Peer} (h : PeerW K w base x) (hb : b ≤ base) : PeerW K w b x := ⟨h.tb, h.own.mono hb, h.tbs, h.he, h.ok, h.le, h.max⟩
theorem PeerW.is {w : World} {base : Nat} {x : Peer} (h : PeerW K w base x) : InfoOk K w x.info := ⟨h.tb, LS.of_own h.own h.tbs, h.he, h.ok, h.le, h.max⟩
/-- What impl.AddrInfos returns: the peers, each once, by their IDs, with their addresses. -/
structure PeersOk (K : Nat) (w : World) (base : Nat) (A : Option Addr) (c : Nat) (ys : List Peer) (hss : List (List Hop)) : Prop where
  own : w.ownsRow base 44 2 (.slice A ys.length c) ys.length (ys.flatMap Who.cells)
  oks : ∀ y ∈ ys, PeerW K w base y
  rises : Rises (ys.map (·.p.l))
  ids : ∀ k, k ∈ ys.map (·.p.l) ↔ k ∈ hss.map fun hs => (toldH hs).1
  addrs : ∀ y ∈ ys, y.x.2 = groupH hss y.p.l
  len : ys.length ≤ hss.length
theorem PeersOk.below {w w' : World} {base : Nat} {A : Option Addr} {c : Nat} {ys : List Peer} {hss : List (List Hop)} (h : PeersOk K w base A c ys hss) (hb : Below w.heap.size w w') : PeersOk K w' base A c ys hss :=
  ⟨own_below h.own hb, fun y hy => (h.oks y hy).below hb, h.rises, h.ids, h.addrs, h.len⟩
end
end Go.Proofs.YtkmieonfhcmimaaGreatDoor

/- slices.SortFunc at no element: nothing turns. No condition. -/
namespace Go.Proofs.YtkmieonfhcmimaaGreatDoor
open Go Go.RowKit Go.Sort
attribute [local go_sem ↓] Go.wp_at_zero Go.wp_at_succ
set_option maxRecDepth 100000 in
set_option maxHeartbeats 2000000 in
theorem len_zero (w : World) : Calls Tryz.prog 32 #[.int .u64 0] w fun e w' => e = .returned (.int .i64 0) ∧ w' = w := by
  have h0 := Tryz.bits_Len64 0 w (by omega) (by omega)
  go_enter Tryz.func32, Tryz.ntmps32
  go_wp2_with fail
  refine h0.mono ?_
  rintro e w' ⟨rfl, rfl⟩
  go_wp2_with fail
  go_ret
  exact ⟨rfl, rfl⟩
set_option maxRecDepth 100000 in
set_option maxHeartbeats 2000000 in
theorem insertion_noneB (p : Option Addr) (cap : Nat) (fv : Value) (w : World) : Calls Tryz.prog 52 #[.slice p 0 cap, .int .i64 0, .int .i64 0, fv] w fun e w' => e = .returned (.tuple #[]) ∧ w' = w := by
  go_enter Tryz.func52, Tryz.ntmps52
  go_wp2
  refine wp_loop_rounds 1 ?_
  rw [rounds_succ]
  go_wp2
  go_end0
  exact ⟨rfl, rfl⟩
set_option maxRecDepth 100000 in
set_option maxHeartbeats 2000000 in
theorem pdq_noneB (p : Option Addr) (cap : Nat) (lim : Int) (fv : Value) (w : World) : Calls Tryz.prog 31 #[.slice p 0 cap, .int .i64 0, .int .i64 0, .int .i64 lim, fv] w fun e w' => e = .returned (.tuple #[]) ∧ w' = w := by
  have hi := fun W => insertion_noneB p cap fv W
  go_enter Tryz.func31, Tryz.ntmps31
  go_wp2
  refine wp_loop_rounds 1 ?_
  rw [rounds_succ]
  go_wp2_with fail
  refine (hi _).mono ?_
  rintro e w' ⟨rfl, rfl⟩
  go_wp2_with fail
  (try simp only [Exit.inBlock, Exit.then]); refine bodyPost_ret (results_none rfl _ _ _) rfl ?_
  exact ⟨rfl, rfl⟩
set_option maxRecDepth 100000 in
set_option maxHeartbeats 2000000 in
theorem sort_noneB (p : Option Addr) (cap : Nat) (fv : Value) (w : World) : Calls Tryz.prog 11 #[.slice p 0 cap, fv] w fun e w' => e = .returned (.tuple #[]) ∧ w' = w := by
  have hp := fun lim W => pdq_noneB p cap lim fv W
  have hl := len_zero
  go_enter Tryz.func11, Tryz.ntmps11
  go_wp2_with fail
  refine (hl _).mono ?_
  rintro e w' ⟨rfl, rfl⟩
  go_wp2_with fail
  refine (hp _ _).mono ?_
  rintro e w' ⟨rfl, rfl⟩
  go_wp2_with fail
  go_end0
  exact ⟨rfl, rfl⟩
set_option maxRecDepth 100000 in
set_option maxHeartbeats 2000000 in
theorem insertion_noneI (p : Option Addr) (cap : Nat) (fv : Value) (w : World) : Calls Tryz.prog 74 #[.slice p 0 cap, .int .i64 0, .int .i64 0, fv] w fun e w' => e = .returned (.tuple #[]) ∧ w' = w := by
  go_enter Tryz.func74, Tryz.ntmps74
  go_wp2
  refine wp_loop_rounds 1 ?_
  rw [rounds_succ]
  go_wp2
  go_end0
  exact ⟨rfl, rfl⟩
set_option maxRecDepth 100000 in
set_option maxHeartbeats 2000000 in
theorem pdq_noneI (p : Option Addr) (cap : Nat) (lim : Int) (fv : Value) (w : World) : Calls Tryz.prog 48 #[.slice p 0 cap, .int .i64 0, .int .i64 0, .int .i64 lim, fv] w fun e w' => e = .returned (.tuple #[]) ∧ w' = w := by
  have hi := fun W => insertion_noneI p cap fv W
  go_enter Tryz.func48, Tryz.ntmps48
  go_wp2
  refine wp_loop_rounds 1 ?_
  rw [rounds_succ]
  go_wp2_with fail
  refine (hi _).mono ?_
  rintro e w' ⟨rfl, rfl⟩
  go_wp2_with fail
  (try simp only [Exit.inBlock, Exit.then]); refine bodyPost_ret (results_none rfl _ _ _) rfl ?_
  exact ⟨rfl, rfl⟩
set_option maxRecDepth 100000 in
set_option maxHeartbeats 2000000 in
theorem sort_noneI (p : Option Addr) (cap : Nat) (fv : Value) (w : World) : Calls Tryz.prog 27 #[.slice p 0 cap, fv] w fun e w' => e = .returned (.tuple #[]) ∧ w' = w := by
  have hp := fun lim W => pdq_noneI p cap lim fv W
  have hl := len_zero
  go_enter Tryz.func27, Tryz.ntmps27
  go_wp2_with fail
  refine (hl _).mono ?_
  rintro e w' ⟨rfl, rfl⟩
  go_wp2_with fail
  refine (hp _ _).mono ?_
  rintro e w' ⟨rfl, rfl⟩
  go_wp2_with fail
  go_end0
  exact ⟨rfl, rfl⟩
end Go.Proofs.YtkmieonfhcmimaaGreatDoor

/- impl.AddrInfos where an address has no ID: none. -/
namespace Go.Proofs.YtkmieonfhcmimaaGreatDoor
open Go.RowKit
variable {K : Nat}
attribute [local go_sem ↓] Go.wp_at_zero Go.wp_at_succ
theorem ts_len (ts : List Tr) (hss : List (List Hop)) (h : ts.map (fun t => t.cs.map (·.1)) = hss) (m : Nat) (hm : ∀ hs ∈ hss, hs.length ≤ m) : ∀ t ∈ ts, t.cs.length ≤ m := fun t ht => by
  have := hm (t.cs.map (·.1)) (by rw [← h]; exact List.mem_map.2 ⟨t, ht, rfl⟩)
  rwa [List.length_map] at this
theorem ts_bad (ts : List Tr) (hss : List (List Hop)) (h : ts.map (fun t => t.cs.map (·.1)) = hss) (hb : ∃ hs ∈ hss, ∃ r x, hs = r ++ [x] ∧ x.kd % 8 ≠ 6) :
    ∃ i, ∃ hi : i < ts.length, ∃ cs x, (ts[i]).cs = cs ++ [x] ∧ x.1.kd % 8 ≠ 6 := by
  obtain ⟨hs, hh, r, x, rfl, h6⟩ := hb
  rw [← h] at hh
  obtain ⟨t, ht, e⟩ := List.mem_map.1 hh
  obtain ⟨i, hi, rfl⟩ := List.getElem_of_mem ht
  refine ⟨i, hi, ?_⟩
  have hne : (ts[i]).cs ≠ [] := fun e0 => by rw [e0] at e; simp at e
  obtain ⟨cs, y, hcs⟩ : ∃ cs y, (ts[i]).cs = cs ++ [y] := ⟨_, _, (List.dropLast_concat_getLast hne).symm⟩
  rw [hcs, List.map_append] at e
  have := (List.append_inj' e rfl).2
  injection this with hx
  have hx : y.1 = x := hx
  exact ⟨cs, y, hcs, by rw [hx]; exact h6⟩
set_option maxRecDepth 100000 in
set_option maxHeartbeats 4000000 in
theorem infos_no (A : Option Addr) (n c : Nat) (ps : List Part) (hss : List (List Hop)) (w : World) (ht : Tab K w) (hu : Inv w) (hl : LS w w.heap.size A n c ps) (he : ps.map (·.l) = hss.map addrBytes)
    (hok : ∀ hs ∈ hss, AOk K hs) (hn : n ≤ 1000) (hbad : ∃ hs ∈ hss, ∃ r x, hs = r ++ [x] ∧ x.kd % 8 ≠ 6) : Calls Tryz.prog 8 #[.slice A n c] w fun e w' => e = .returned (.tuple #[.slice none 0 0, .bool false]) ∧ Below w.heap.size w w' := by
  obtain ⟨i0, hi0, hz0, hz1, hz2⟩ := info_parts mad_info
  have HT := Lib.hid ht
  have HU := Lib.hid hu
  have HL := Lib.hid hl
  have HLL := Lib.hid hl.len
  have HE := Lib.hid he
  have HOK := Lib.hid hok
  have HNN := Lib.hid hn
  have HBAD := Lib.hid hbad
  have qn : ∀ (t : TypeId) (v : Value) (w : World), (binOp .neq 61 (.iface t v) .nilIface).run Tryz.prog w = .ok (.bool true) w := fun _ _ _ => by kernel_rfl
  clear ht hu hl he hok hn hbad
  go_enter Tryz.func8, Tryz.ntmps8
  go_wp2_with fail
  go_loopw [4, 16] (fun v i wr => ∃ k : Nat, k ≤ n ∧ i = .int .i64 k ∧ Below w.heap.size w wr ∧
    ∃ ts, wr.ownsRow w.heap.size 56 1 v k (trCells ts) ∧ ts.map (fun t => t.cs.map (·.1)) = hss.take k ∧ (∀ t ∈ ts, TrOk wr t) ∧ (k = 0 → v = .slice none 0 0)) (fun _ i _ => n - (intOf i).toNat)
  case atStart => exact ⟨0, by omega, rfl, Below.refl _ _, [], World.ownsRow_nil _ _ _ _, rfl, fun t ht => by simp at ht, fun _ => rfl⟩
  case round =>
    obtain ⟨k, hk, rfl, hb, ts, hown, hts, htr, hz⟩ := hrel
    have HB := Lib.hid hb
    have HO := Lib.hid hown
    have HTS := Lib.hid hts
    have HTR := Lib.hid htr
    have HZ := Lib.hid hz
    clear hb hown hts htr hz
    by_cases hlt : k < n
    · have hlt' : k < ps.length := by rw [HLL.out]; exact hlt
      have hlh : k < hss.length := by have := congrArg List.length HE.out; simp at this; omega
      obtain ⟨ad, rfl, hbk, c0, hr⟩ := (HL.out.below HB.out).at_ k hlt'
      have hpl : (ps[k]).l = addrBytes hss[k] := by
        have := congrArg (fun x : List (List UInt8) => x[k]?) HE.out
        simpa [hlt', hlh] using this
      have htk : hss.take (k + 1) = hss.take k ++ [hss[k]] := List.take_succ_eq_append_getElem hlh
      have hao := HOK.out _ (List.getElem_mem hlh)
      generalize ps[k] = p1 at *
      generalize hss[k] = hs at *
      unfold Part.v at c0
      rw [hpl] at hr
      have HA := Lib.hid (addrof_impl p1.A p1.n p1.c hs wr (HT.out.below HB.out) hao.ok (hr.more HB.out.size) hao.le hao.ne)
      have HTK := Lib.hid htk
      have HAO := Lib.hid hao.ne
      clear hr hpl htk hao hlt' hlh
      go_wp2_with fail
      refine HA.out.mono ?_
      rintro e w3 ⟨g, c3, cs, rfl, hcs, hpr, hms, hb3⟩
      have hbq := (Below.refl _ w3).alloc (Nat.le_refl _) (.cells #[.slice (some ⟨g, 0, none⟩) cs.length c3] 56)
      have hbw := hb3.trans (hbq.mono hb3.size)
      have HBW := Lib.hid hbw
      have HOO := Lib.hid (own_below HO.out hbw)
      have HRN := Lib.hid (reads_new w3 #[.slice (some ⟨g, 0, none⟩) cs.length c3] 56 1 1 rfl)
      have hpos : 0 < cs.length := by
        rcases cs with _ | ⟨x, cs⟩
        · exact absurd hcs.symm HAO.out
        · simp
      have HTN := Lib.hid ((⟨hms, hpr, hpos⟩ : TrOk w3 ⟨g, c3, cs⟩).below hbq)
      have HCS := Lib.hid hcs
      clear hcs hpr hms hb3 hbq hbw hpos
      go_wp2_with (at_builtin; go_loud (refine wpList_append_any _ rfl _ _ _ rfl w.heap.size 56 i0 _ 1 24 Tryz.underlying54 hi0 hz0 hz1 hz2 rfl (by decide) _ _ _ rfl HOO.out _ _ 1 1 _ rfl HRN.out ?c0 ?c1 ?c2 ?c3 ?_))
      case c0 => intro u hu; simp at hu; subst hu; rfl
      case c1 => have := HNN.out; unfold maxLen; omega
      case c2 => have := HNN.out; omega
      case c3 => exact Nat.le_trans HB.out.size HBW.out.size
      intro v' w5 hown hgrow _hat
      have HB5 := Lib.hid ((HB.out.trans (HBW.out.mono HB.out.size)).grown hgrow (Nat.le_trans HB.out.size HBW.out.size) (fun g hg => (HOO.out.lt g hg).1))
      have hlen : ts.length = k := by have := HO.out.1; rw [trCells_length] at this; omega
      have hnil : ts = [] → u4.ownBlock = none := fun e => by
        have hk0 : k = 0 := by rw [← hlen, e]; rfl
        rw [HZ.out hk0]; rfl
      have hoo : (w3.alloc (.cells #[.slice (some ⟨g, 0, none⟩) cs.length c3] 56)).ownsRow w.heap.size 56 1 u4 ts.length (trCells ts) := by rw [hlen]; exact HOO.out
      have htr5 : ∀ t ∈ ts ++ [⟨g, c3, cs⟩], TrOk w5 t := fun t ht => by
        rcases List.mem_append.1 ht with h1 | h1
        · exact ((HTR.out t h1).below HBW.out).grown_row hoo hnil hgrow
        · rw [List.mem_singleton] at h1
          subst h1
          exact HTN.out.grown_row hoo hnil hgrow
      have hof : w5.ownsRow w.heap.size 56 1 v' (k + 1) (trCells (ts ++ [⟨g, c3, cs⟩])) := by
        rw [trCells_snoc]
        exact hown
      have HOF := Lib.hid hof
      have HTR5 := Lib.hid htr5
      have hkk := HNN.out
      clear hown hgrow _hat hof hlen hnil hoo htr5
      go_wp2_with fail
      go_roundw
      case rel => exact ⟨k + 1, by omega, by go_num, HB5.out, ts ++ [⟨g, c3, cs⟩], HOF.out, by rw [List.map_append, HTS.out, HTK.out]; simp [HCS.out], HTR5.out, fun h => absurd h (Nat.succ_ne_zero k)⟩
      case measure => simp [intOf]; omega
    · obtain rfl : k = n := by omega
      have hts := HTS.out
      have hle : hss.length = k := by have := congrArg List.length HE.out; simp at this; rw [← this, HLL.out]
      rw [List.take_of_length_le (by omega)] at hts
      obtain ⟨A0, c0', hu4⟩ := own_slice HO.out
      have ho := HO.out
      rw [hu4] at ho
      have HF := Lib.hid (infos_bad A0 k c0' w.heap.size ts wr ho HTR.out (ts_len ts hss hts 101 (fun hs hh => Nat.le_succ_of_le (HOK.out hs hh).le)) (HU.out.below HB.out) HNN.out (ts_bad ts hss hts HBAD.out))
      have HU4 := Lib.hid hu4
      clear hts hle ho hu4
      go_wp2_with fail
      rw [HU4.out]
      refine HF.out.mono ?_
      rintro e w2 ⟨ti, vi, rfl, hb2⟩
      have HB2 := Lib.hid (HB.out.trans (hb2.mono HB.out.size))
      clear hb2
      go_wp2_with fail
      go_ret2
      exact ⟨rfl, HB2.out⟩
end Go.Proofs.YtkmieonfhcmimaaGreatDoor
