/- FnAddrBytes: the walk. -/
import Derived.Test.YtllofneeodnllaaGreatDoorCl
import Derived.Test.YtllofneeodnllaaGreatDoorEa
namespace Go.Proofs.YtllofneeodnllaaGreatDoor
open Go.RowKit
attribute [local go_sem ↓] Go.wp_at_zero Go.wp_at_succ
theorem withId_nil (l : List UInt8) : (withId [] l).map addrBytes = [[165, 3] ++ [UInt8.ofNat (idOf l).length] ++ idOf l] := by
  simp [withId, addrBytes, idHop_bytes]
theorem withId_some (hss : List (List Hop)) (l : List UInt8) (ps : List Part) (h : hss ≠ []) (he : ps.map (·.l) = hss.map addrBytes) :
    (withId hss l).map addrBytes = ps.map (fun x => x.l ++ ([165, 3] ++ [UInt8.ofNat (idOf l).length] ++ idOf l)) := by
  have h1 : ps.map (fun x => x.l ++ ([165, 3] ++ [UInt8.ofNat (idOf l).length] ++ idOf l)) = (ps.map (·.l)).map (· ++ ([165, 3] ++ [UInt8.ofNat (idOf l).length] ++ idOf l)) := by
    rw [List.map_map]; rfl
  rw [h1, he, withId, if_neg h, List.map_map, List.map_map]
  refine List.map_congr_left (fun hs _ => ?_)
  simp [addrBytes, idHop_bytes]
set_option maxRecDepth 100000 in
set_option maxHeartbeats 4000000 in
theorem law_bytes (B : Option Addr) (m d : Nat) (l : List UInt8) (A : Option Addr) (n c : Nat) (rs : List Row) (w : World) (ht : Tab 65536 w) (hr : RB w w.heap.size B m d l) (h : RS w w.heap.size A n c rs) :
    Calls Tryz.prog 4 #[.slice B m d, .slice A n c] w fun e w' => e = .returned (.bool true) ∧ Below w.heap.size w w' := by
  have HAW := fun w6 (hb : Below w.heap.size w w6) => (awake (K := 65536) w6 (by decide) (ht.below hb)).mono fun e w' (h1 : e = .returned (.bool true) ∧ Below w6.heap.size w6 w') => (⟨h1.1, hb.trans (h1.2.mono hb.size)⟩ : e = .returned (.bool true) ∧ Below w.heap.size w w')
  have HFIN := Lib.hid HAW
  have HF := Lib.hid (fits3_any A n c rs w h)
  have HH := Lib.hid h
  have HT := Lib.hid ht
  have HR := Lib.hid hr
  clear h ht hr HAW
  go_enter Tryz.func4, Tryz.ntmps4
  by_cases hm : m ≤ 2147483647
  case neg =>
    have hd : decide ((2147483647 : Int) < (m : Int)) = true := by simp; omega
    go_wp2_with fail
    go_ret
    exact ⟨rfl, Below.refl _ _⟩
  have hdm : decide ((2147483647 : Int) < (m : Int)) = false := by simp; omega
  go_wp2_with fail
  refine HF.out.mono ?_
  rintro e w1 ⟨b, rfl, hb1⟩
  have HB1 := Lib.hid hb1
  clear hb1
  cases b
  · go_wp2_with fail
    go_ret
    exact ⟨rfl, HB1.out⟩
  have HS1 := Lib.hid (shorts_any A n c rs w1 ((HH.out.below HB1.out).more HB1.out.size))
  go_wp2_with fail
  refine HS1.out.mono ?_
  rintro e w2 ⟨hor, hb2⟩
  have HB2 := Lib.hid (HB1.out.trans (hb2.mono HB1.out.size))
  clear hb2
  rcases hor with rfl | ⟨rfl, hn60, hsh⟩
  · go_wp2_with fail
    refine (HFIN.out _ HB2.out).mono ?_
    rintro e w3 ⟨rfl, hb3⟩
    have HB3 := Lib.hid hb3
    clear hb3
    go_wp2_with fail
    go_ret
    exact ⟨rfl, HB3.out⟩
  by_cases hm1 : m ≤ 100
  case neg =>
    have hd : decide ((100 : Int) < (m : Int)) = true := by simp; omega
    go_wp2_with fail
    refine (HFIN.out _ HB2.out).mono ?_
    rintro e w3 ⟨rfl, hb3⟩
    have HB3 := Lib.hid hb3
    clear hb3
    go_wp2_with fail
    go_ret
    exact ⟨rfl, HB3.out⟩
  have hd : decide ((100 : Int) < (m : Int)) = false := by simp; omega
  have HSH := Lib.hid hsh
  have HI := Lib.hid (id_any B m d l w2 ((HR.out.below HB2.out).more HB2.out.size) (by omega))
  clear HS1 HF hsh
  go_wp2_with fail
  refine HI.out.mono ?_
  rintro e w3 ⟨v3, rfl, ho3, hb3⟩
  obtain ⟨A3, c3, rfl⟩ := own_slice ho3
  have HB3 := Lib.hid (HB2.out.trans (hb3.mono HB2.out.size))
  have HR3 := Lib.hid (RB.of_own ho3)
  have HA := Lib.hid (addrlist_any A n c rs w3 ((HH.out.below HB3.out).more HB3.out.size) (by omega) HSH.out)
  have hidl := idOf_le l
  clear ho3 hb3
  go_wp2_with fail
  refine HA.out.mono ?_
  rintro e w4 ⟨v4, qs, rfl, ho4, hq4, ht4, hb4⟩
  obtain ⟨A4, c4, rfl⟩ := own_slice ho4
  have hl4 : LS w4 w4.heap.size A4 n c4 qs := LS.of_own ho4 ht4
  have hb5 := (Below.refl _ w4).alloc (Nat.le_refl _) (.cells #[.slice A3 (idOf l).length c3, .slice A4 n c4] 43)
  have HB4 := Lib.hid (HB3.out.trans (hb4.mono HB3.out.size))
  have hk5 : Blk (w4.alloc (.cells #[.slice A3 (idOf l).length c3, .slice A4 n c4] 43)) w4.heap.size 43 #[.slice A3 (idOf l).length c3, .slice A4 n c4] := Blk.new _ _ _
  obtain ⟨w5, hw5⟩ : ∃ w5, w5 = w4.alloc (.cells #[.slice A3 (idOf l).length c3, .slice A4 n c4] 43) := ⟨_, rfl⟩
  rw [← hw5] at hb5 hk5
  have HW5 := Lib.hid hw5
  have HB5 := Lib.hid (HB4.out.trans (hb5.mono HB4.out.size))
  have HR5 := Lib.hid ((HR3.out.next hb4).next hb5)
  have HL5 := Lib.hid ((hl4.below hb5).more hb5.size)
  obtain ⟨hss, hhss⟩ : ∃ hss, hss = rs.map (·.hs) := ⟨_, rfl⟩
  have he : qs.map (·.l) = hss.map addrBytes := by rw [hq4, hhss, List.map_map]; rfl
  have hin : ∀ hs ∈ hss, hs ≠ [] ∧ hs.length ≤ 20 := fun hs hh => by
    rw [hhss] at hh
    obtain ⟨r, hr, rfl⟩ := List.mem_map.1 hh
    obtain ⟨i, hi, rfl⟩ := List.getElem_of_mem hr
    have hs := HSH.out i hi
    obtain ⟨_, _, _, _, hx⟩ := HH.out.at_ i hi
    have h1 := hx.len
    have h2 := hs.pos
    have h3 := hs.le
    exact ⟨fun e => by rw [e] at h1; simp at h1; omega, by omega⟩
  have hok : ∀ hs ∈ hss, AOk 65536 hs := fun hs hh => ⟨(hin hs hh).1, by have := (hin hs hh).2; omega, fun _ _ => Or.inl (Nat.le_refl _)⟩
  have hps : ∀ x ∈ qs, x.l.length ≤ 10000 := fun x hx => by
    have h1 : x.l ∈ qs.map (·.l) := List.mem_map.2 ⟨x, hx, rfl⟩
    rw [he] at h1
    obtain ⟨hs, hh, e⟩ := List.mem_map.1 h1
    rw [← e]
    have := addrBytes_le hs
    have := (hin hs hh).2
    omega
  have HAB := Lib.hid (addrbytes_x (K := 65536) ⟨A3, (idOf l).length, c3, idOf l⟩ l A4 n c4 qs hss w5 (HT.out.below HB5.out) HR5.out rfl HL5.out he hok (by omega))
  have HSB := Lib.hid (fun w hr hl => specbytes_x ((withId hss l).map addrBytes) ⟨A3, (idOf l).length, c3, idOf l⟩ A4 n c4 qs w hr hl hidl hps (by omega)
    (fun e => by
      have : hss = [] := by
        have h1 := congrArg List.length he
        rw [e] at h1
        exact List.eq_nil_of_length_eq_zero (by simpa using h1.symm)
      rw [this]; exact withId_nil l)
    (fun e => withId_some hss l qs (fun e2 => e (List.map_eq_nil_iff.1 (by rw [he, e2]; rfl))) he))
  obtain ⟨I, hI⟩ : ∃ I, I = idOf l := ⟨_, rfl⟩
  obtain ⟨R, hR⟩ : ∃ R, R = (withId hss l).map addrBytes := ⟨_, rfl⟩
  simp only [← hI, ← hR] at HAB HSB HW5 hk5 hidl HR5 ⊢
  have HK5 := Lib.hid hk5
  have c50 : w5.cell? ⟨w4.heap.size, 0, none⟩ = some (.slice A3 I.length c3) := hk5.cell 0
  have c51 : w5.cell? ⟨w4.heap.size, 1, none⟩ = some (.slice A4 n c4) := hk5.cell 1
  have HS45 := Lib.hid (show w4.heap.size + 1 = w5.heap.size by rw [HW5.out, World.size_alloc])
  clear ho4 hq4 ht4 hb4 hl4 hb5 hk5 hw5 he hin hok hps HA HI HR3 hhss hI hR
  go_wp2_with fail
  rw [← HW5.out]
  go_wp2_with fail
  refine HAB.out.mono ?_
  rintro e w6 ⟨A6, m6, c6, q6, rfl, hl6, he6, hb6⟩
  have HB6 := Lib.hid (HB5.out.trans (hb6.mono HB5.out.size))
  have HL6 := Lib.hid hl6
  have c60 : w6.cell? ⟨w4.heap.size, 0, none⟩ = some (.slice A3 I.length c3) := (HK5.out.below hb6 HK5.out.lt).cell 0
  have c61 : w6.cell? ⟨w4.heap.size, 1, none⟩ = some (.slice A4 n c4) := (HK5.out.below hb6 HK5.out.lt).cell 1
  have HE6 := Lib.hid he6
  have HSP := Lib.hid (HSB.out w6 (HR5.out.next hb6) ((HL5.out.below hb6).more hb6.size))
  clear c50 c51 hb6 hl6 he6 HAB HSB
  go_wp2_with fail
  refine HSP.out.mono ?_
  rintro e w7 ⟨A7, m7, c7, q7, rfl, hl7, he7, hb7⟩
  have HB7 := Lib.hid (HB6.out.trans (hb7.mono HB6.out.size))
  have hmm : m7 = m6 := by
    have h1 := congrArg List.length (he7.trans HE6.out.symm)
    simp only [List.length_map] at h1
    rw [hl7.len, HL6.out.len] at h1
    exact h1
  subst hmm
  have HEQ := Lib.hid (eqfunc_any A6 A7 m7 c6 c7 q6 q7 w7 ((HL6.out.below hb7).more hb7.size) hl7 (HE6.out.trans he7.symm))
  clear c60 c61 hb7 hl7 he7 HSP
  go_wp2_with fail
  refine HEQ.out.mono ?_
  rintro e w8 ⟨rfl, hb8⟩
  have HB8 := Lib.hid (HB7.out.trans (hb8.mono HB7.out.size))
  clear hb8
  go_wp2_with fail
  refine (HFIN.out _ HB8.out).mono ?_
  rintro e w9 ⟨rfl, hb9⟩
  have HB9 := Lib.hid hb9
  clear hb9
  go_wp2_with fail
  go_ret
  exact ⟨rfl, HB9.out⟩
end Go.Proofs.YtllofneeodnllaaGreatDoor
