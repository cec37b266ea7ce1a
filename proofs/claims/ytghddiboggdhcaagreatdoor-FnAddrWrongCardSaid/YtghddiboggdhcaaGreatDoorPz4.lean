/- Base58 of bytes: the walk. -/
import Derived.Test.YtghddiboggdhcaaGreatDoorPz3
import Derived.RegionTactic
import Derived.ChangeAlike
import Derived.BigRegion
set_option maxRecDepth 100000
set_option maxHeartbeats 4000000
namespace Go.Proofs.YtghddiboggdhcaaGreatDoor
open Go.RowKit
attribute [local go_sem ↓] Go.wp_at_zero Go.wp_at_succ
theorem enc58 (A : Option Addr) (n c : Nat) (d : List UInt8) (w : World) (p : Nat) (xs : Array Value) (hd : d.length ≤ 44) (h : RB w w.heap.size A n c d) (hp : Blk w p 315 xs) (ha : Alp xs) :
    Calls Tryz.prog 310 #[.slice A n c, .pointer (some ⟨p, 0, none⟩)] w (OutS 100000 w) := by
  obtain ⟨i0, hi0, hz0, hz1, hz2⟩ := info_parts u8_info
  obtain ⟨z, _, hz⟩ := ha.enc 0 (by omega)
  have c0 : w.cell? ⟨p, 128, none⟩ = some (.int .u8 z.toNat) := by rw [hp.cell]; exact hz
  have hn : n ≤ 44 := by rw [← h.len]; exact hd
  have hlen := h.len
  have H := Lib.hid h
  have HP := Lib.hid hp
  have HA := Lib.hid ha
  have HL := Lib.hid hlen
  have hmk : ∀ (s : Nat) (W : World), s ≤ 1000 → (Instr.makeSlice 22 (.int .i64 (s : Int)) (.int .i64 (s : Int))).run Tryz.prog W = .ok (.slice (some ⟨W.heap.size, 0, none⟩) s s) (W.alloc (.cells (madeCells (Value.int .u8 0).cells (s * 1)) 5)) := fun s W hs => by
    have := run_make_rowN (P := Tryz.prog) 22 5 i0 (.int .u8 0) Tryz.underlying22 hi0 hz0 .i64 .i64 s s (Nat.le_refl _) (by rw [hz2]; omega) (by omega) W
    rwa [hz1] at this
  have HMK := Lib.hid hmk
  clear h hp ha hz hlen hmk hd
  go_enter Tryz.func310, Tryz.ntmps310
  go_wp2_with fail
  clear c0
  go_loopw [9] (fun i wr => ∃ k : Nat, k ≤ n ∧ i = .int .i64 k ∧ wr = w) (fun i _ => n - (intOf i).toNat)
  case atStart => exact ⟨0, by omega, rfl, rfl⟩
  case round =>
    obtain ⟨k, hk, rfl, hw0⟩ := hrel
    cases hw0
    by_cases hgo : ∃ (hlt : k < n), d[k]'(by rw [HL.out]; exact hlt) = 0
    · obtain ⟨hlt, hb0⟩ := hgo
      obtain ⟨ad, rfl, _, hc⟩ := H.out.at_ hlt (by rw [HL.out]; exact hlt)
      rw [hb0] at hc
      go_wp2_with fail
      go_roundw
      case rel => exact ⟨k + 1, by omega, by go_num, trivial⟩
      case measure => simp [intOf]; omega
    · obtain ⟨m, rfl⟩ : ∃ m, n = k + m := ⟨n - k, by omega⟩
      obtain ⟨S, hS⟩ : ∃ S, S = m * 138 / 100 + 1 := ⟨_, rfl⟩
      have hS1 : S ≤ 61 := by omega
      have hmk0 := HMK.out (S * 2 + k) w (by omega)
      have hmk : (Instr.makeSlice 22 (.int .i64 ((S : Int) * 2 + k)) (.int .i64 ((S : Int) * 2 + k))).run Tryz.prog w = .ok (.slice (some ⟨w.heap.size, 0, none⟩) (S * 2 + k) (S * 2 + k)) (w.alloc (.cells (madeCells (Value.int .u8 0).cells ((S * 2 + k) * 1)) 5)) := by
        rw [show (S : Int) * 2 + k = ((S * 2 + k : Nat) : Int) by omega]
        exact hmk0
      have k1 : (k : Int) + (m : Int) - (k : Int) = (m : Int) := by omega
      have k2 : (m : Int) * 138 / 100 + 1 = (S : Int) := by omega
      have k3 : S * 2 + k - (S + k) = S := by omega
      have k4 : ((S : Int) + k).toNat = S + k := by omega
      have HS := Lib.hid hS
      have hnew := Buf.new w S k
      obtain ⟨X, hX⟩ : ∃ X, X = madeCells (Value.int .u8 0).cells ((S * 2 + k) * 1) := ⟨_, rfl⟩
      rw [← hX] at hmk hnew
      clear hX
      have HNEW := Lib.hid hnew
      clear hnew
      have HBA := Lib.hid ((Below.refl w.heap.size w).alloc (Nat.le_refl _) (.cells X 5))
      have hn0 : ∃ n0, n0 = k + m := ⟨_, rfl⟩
      obtain ⟨n0, hn0⟩ := hn0
      clear hmk0 hS
      by_cases hlt : k < k + m
      · obtain ⟨ad, rfl, _, hc⟩ := H.out.at_ hlt (by rw [HL.out]; exact hlt)
        have hb0 : (((d[k]'(by rw [HL.out]; exact hlt)).toNat : Int) == 0) = false := by
          have : d[k]'(by rw [HL.out]; exact hlt) ≠ 0 := fun e => hgo ⟨hlt, e⟩
          have : (d[k]'(by rw [HL.out]; exact hlt)).toNat ≠ 0 := fun e => this (UInt8.toNat_inj.1 (by rw [e]; rfl))
          simp
          omega
        generalize (d[k]'(by rw [HL.out]; exact hlt)).toNat = b at hc hb0
        go_wp2_with fail
        go_loopw [7, 10] (fun iv hv wr => ∃ (q hh : Nat) (hx : Int) (D : Nat → Nat), q ≤ m ∧ iv = .int .i64 ((k : Int) + q) ∧ hv = .int .i64 hx ∧ hx = (S : Int) - 1 - hh ∧ hh ≤ S ∧ Below w.heap.size w wr ∧ Buf wr w.heap.size S k D ∧ (∀ j, hh ≤ j → j < S → D j = 0) ∧ dval D S < 256 ^ q) (fun iv _ _ => n0 - (intOf iv).toNat)
        case atStart => exact ⟨0, 0, (S : Int) - 1, fun _ => 0, by omega, by simp, rfl, by omega, by omega, HBA.out, HNEW.out, fun _ _ _ => rfl, by rw [dval_zero (D := fun _ => 0) 0 S (by omega) (fun _ _ _ => rfl)]; decide⟩
        case round =>
          obtain ⟨q, hh, hx, D, hq, rfl, rfl, hhx, hhS, hb, hbuf, hz, hval⟩ := hrel
          have HB := Lib.hid hb
          have HBUF := Lib.hid hbuf
          have HZ := Lib.hid hz
          have HV := Lib.hid hval
          clear hb hbuf hz hval
          by_cases hlq : q < m
          · obtain ⟨ad, had, _, hcb⟩ := (H.out.below HB.out).at_ (k := k + q) (by omega) (by rw [HL.out]; omega)
            cases had
            generalize hxx : (d[k + q]'(by rw [HL.out]; omega)).toNat = x at hcb
            have hx256 : x < 256 := by rw [← hxx]; exact UInt8.toNat_lt _
            have kq : ((k : Int) + q).toNat = k + q := by omega
            clear hxx
            go_wp2_with fail
            go_loopw [8, 11] (fun jv cv wr => ∃ (t cc : Nat) (jx : Int) (E : Nat → Nat), t ≤ S ∧ jv = .int .i64 jx ∧ jx = (S : Int) - 1 - t ∧ cv = .int .u32 cc ∧ cc < 256 ∧ Below w.heap.size w wr ∧ Buf wr w.heap.size S k E ∧ (∀ j, t ≤ j → j < S → E j = D j) ∧ dval E t + cc * 58 ^ t = x + 256 * dval D t) (fun jv _ _ => (intOf jv + 1).toNat)
            case atStart => exact ⟨0, x, (S : Int) - 1, D, by omega, rfl, by omega, rfl, hx256, HB.out, HBUF.out, fun _ _ _ => rfl, by simp [dval]⟩
            case round =>
              obtain ⟨t, cc, jx, E, ht, rfl, hjx, rfl, hcc, hb, hbuf, hE, hsum⟩ := hrel
              have HB2 := Lib.hid hb
              have HBUF2 := Lib.hid hbuf
              have HE := Lib.hid hE
              have HSUM := Lib.hid hsum
              clear hb hbuf hE hsum
              by_cases hcont : t < hh ∨ cc ≠ 0
              · have htS : t < S := by
                  rcases hcont with h1 | h1
                  · omega
                  · rcases Nat.lt_or_ge t S with h2 | h2
                    · exact h2
                    · have e : t = S := by omega
                      have h3 := HSUM.out
                      rw [e] at h3
                      have h4 := HV.out
                      have h5 : 256 ^ (q + 1) ≤ 256 ^ m := Nat.pow_le_pow_right (by decide) (by omega)
                      have h6 : 256 ^ m ≤ 58 ^ S := by rw [HS.out]; exact digits_suffice m (by omega)
                      rw [Nat.pow_succ] at h5
                      have h7 : 1 * 58 ^ S ≤ cc * 58 ^ S := Nat.mul_le_mul_right _ (by omega)
                      omega
                obtain ⟨e, he⟩ : ∃ e, e = S - 1 - t := ⟨_, rfl⟩
                obtain rfl : jx = (e : Int) := by omega
                have heS : e < S := by omega
                have HJX := Lib.hid hjx
                have c0 := HBUF2.out.hi e heS
                have f0 := HBUF2.out.frozen (S + k + e)
                have hdt : E (S - 1 - e) = D t := by rw [show S - 1 - e = t by omega]; exact HE.out t (Nat.le_refl _) htS
                rw [hdt] at c0
                have hd58 : D t < 58 := HBUF.out.dig t
                have hstep := carry_step D E t cc x HSUM.out
                obtain ⟨r, hr⟩ : ∃ r, r = (cc + 256 * D t) % 58 := ⟨_, rfl⟩
                obtain ⟨g, hg⟩ : ∃ g, g = (cc + 256 * D t) / 58 := ⟨_, rfl⟩
                have hr58 : r < 58 := by omega
                have hg256 : g < 256 := by omega
                have i1 : ((cc : Int) + 256 * (D t : Int)) % 58 = (r : Int) := by omega
                have i2 : ((cc : Int) + 256 * (D t : Int)) / 58 = (g : Int) := by omega
                rw [← hr, ← hg] at hstep
                have hbs := HBUF2.out.set t e he htS r hr58
                have HSTEP := Lib.hid hstep
                have HBS := Lib.hid hbs
                have HDT := Lib.hid (And.intro he (And.intro hr hg))
                generalize D t = dt at c0 hd58 i1 i2
                clear hstep hbs hr hg hdt he
                have HHX := Lib.hid hhx
                by_cases h1 : t < hh
                · have hgt : hx < (e : Int) := by omega
                  clear hjx hhx
                  go_wp2_with fail
                  exact ⟨⟨t + 1, g, (e : Int) - 1, setD E t r, by omega, rfl, by have := HJX.out; omega, by rw [i2], hg256, HB2.out.setCell (p := ⟨w.heap.size, S + k + e, none⟩) (Nat.le_refl _) _, HBS.out, fun j h1 h2 => by unfold setD; rw [if_neg (by omega)]; exact HE.out j (by omega) h2, HSTEP.out⟩, by simp only [intOf]; omega⟩
                · have hgt : ¬ hx < (e : Int) := by omega
                  have hc1 : ((cc : Int) != 0) = true := by simp; omega
                  clear hjx hhx
                  go_wp2_with fail
                  exact ⟨⟨t + 1, g, (e : Int) - 1, setD E t r, by omega, rfl, by have := HJX.out; omega, by rw [i2], hg256, HB2.out.setCell (p := ⟨w.heap.size, S + k + e, none⟩) (Nat.le_refl _) _, HBS.out, fun j h1 h2 => by unfold setD; rw [if_neg (by omega)]; exact HE.out j (by omega) h2, HSTEP.out⟩, by simp only [intOf]; omega⟩
              · have hgt : ¬ hx < jx := by omega
                obtain rfl : cc = 0 := by omega
                have hth : hh ≤ t := by omega
                have hEz : ∀ j, t ≤ j → j < S → E j = 0 := fun j h1 h2 => by rw [HE.out j h1 h2]; exact HZ.out j (by omega) h2
                have hval2 : dval E S < 256 ^ (q + 1) := by
                  have h1 := HSUM.out
                  have h2 := dval_zero (D := E) t S ht hEz
                  have h3 := dval_zero (D := D) t S ht (fun j h1 h2 => HZ.out j (by omega) h2)
                  have h4 := HV.out
                  rw [Nat.pow_succ]
                  omega
                have HEZ := Lib.hid hEz
                have HV2 := Lib.hid hval2
                have HJX := Lib.hid hjx
                clear hEz hval2 hjx hhx
                go_wp2_with fail
                exact ⟨⟨q + 1, t, jx, E, by omega, by go_num, rfl, HJX.out, by omega, HB2.out, HBUF2.out, HEZ.out, HV2.out⟩, by simp only [intOf]; omega⟩
          · clear hhx
            go_wp2_with fail
            go_loopw [8] (fun jv wq => ∃ j : Nat, j ≤ S ∧ jv = .int .i64 j ∧ wq = wr) (fun jv _ => S - (intOf jv).toNat)
            case atStart => exact ⟨0, by omega, rfl, rfl⟩
            case round =>
              obtain ⟨j, hj, rfl, hww⟩ := hrel
              cases hww
              by_cases hj0 : ∃ (hjS : j < S), D (S - 1 - j) = 0
              · obtain ⟨hjS, hdz⟩ := hj0
                have c0 := HBUF.out.hi j hjS
                rw [hdz] at c0
                clear hdz
                go_wp2_with fail
                go_roundw
                case rel => exact ⟨j + 1, by omega, by go_num, trivial⟩
                case measure => simp [intOf]; omega
              · obtain ⟨L, hL⟩ : ∃ L, L = S - j + k := ⟨_, rfl⟩
                have l1 : (S : Int) - (j : Int) + (k : Int) = (L : Int) := by omega
                have l2 : L ≤ S * 2 + k := by omega
                have HLS := Lib.hid (And.intro hL hS1)
                clear hL
                by_cases hjS : j < S
                · have c0 := HBUF.out.hi j hjS
                  have hdd : D (S - 1 - j) ≠ 0 := fun e => hj0 ⟨hjS, e⟩
                  generalize D (S - 1 - j) = dd at c0 hdd
                  have hd0 : ((dd : Int) == 0) = false := by simp; omega
                  clear hj0
                  by_cases hk0 : k = 0
                  · have hk1 : ((k : Int) != 0) = false := by simp; omega
                    clear hk0
                    go_wp2_with fail
                    go_loopw [7, 8] (fun iv jv wr => ∃ i jj : Nat, iv = .int .i64 i ∧ jv = .int .i64 jj ∧ jj ≤ S ∧ i + S = L + jj ∧ Below w.heap.size w wr ∧ Buf wr w.heap.size S k D) (fun _ jv _ => S - (intOf jv).toNat)
                    case atStart => exact ⟨k, j, rfl, rfl, hj, by have := HLS.out; omega, HB.out, HBUF.out⟩
                    case round =>
                      obtain ⟨i, jj, rfl, rfl, hjj, hij, hb, hbuf⟩ := hrel
                      have HB := Lib.hid hb
                      have HBUF := Lib.hid hbuf
                      have HIJ := Lib.hid hij
                      clear hb hbuf
                      by_cases hlj : jj < S
                      · have hiL : i < L := by omega
                        have hiS : i < S + k := by have := HLS.out; omega
                        have c0 := HBUF.out.hi jj hlj
                        have hd58 := HBUF.out.dig (S - 1 - jj)
                        generalize D (S - 1 - jj) = dd at c0 hd58
                        obtain ⟨u, hu, hc⟩ := HA.out.enc dd hd58
                        have c1 : wr.cell? ⟨p, 128 + dd, none⟩ = some (.int .u8 u.toNat) := by rw [(HP.out.below HB.out HP.out.lt).cell]; exact hc
                        obtain ⟨u2, c2⟩ := HBUF.out.lo i hiS
                        have f2 := HBUF.out.frozen i
                        have hbs := HBUF.out.put i hiS u
                        have HBS := Lib.hid hbs
                        clear hc hij hbs
                        go_wp2_with fail
                        go_region
                        go_wp2_with fail
                        exact ⟨⟨i + 1, jj + 1, by go_num, by go_num, by omega, by have := HIJ.out; omega, (HB.out.setCell (p := ⟨w.heap.size, i, none⟩) (Nat.le_refl _) _).drew, HBS.out.drew⟩, by simp [intOf]; omega⟩
                      · obtain ⟨s, hs, hcv⟩ := conv_buf HBUF.out L (S * 2 + k) (by have := HLS.out; omega)
                        clear hij
                        go_wp2_with fail
                        go_ret
                        exact ⟨s, rfl, by have := HLS.out; omega, HB.out⟩
                  · have hk1 : ((k : Int) != 0) = true := by simp; omega
                    clear hk0
                    go_wp2_with fail
                    go_loopw [7] (fun iv wr => ∃ i : Nat, i ≤ k ∧ iv = .int .i64 i ∧ Below w.heap.size w wr ∧ Buf wr w.heap.size S k D) (fun iv _ => k - (intOf iv).toNat)
                    case atStart => exact ⟨0, by omega, rfl, HB.out, HBUF.out⟩
                    case round =>
                      obtain ⟨i, hi, rfl, hb, hbuf⟩ := hrel
                      have HB := Lib.hid hb
                      have HBUF := Lib.hid hbuf
                      clear hb hbuf
                      by_cases hli : i < k
                      · obtain ⟨u2, c2⟩ := HBUF.out.lo i (by omega)
                        have f2 := HBUF.out.frozen i
                        have hbs := HBUF.out.put i (by omega) z
                        have HBS := Lib.hid hbs
                        have hiL : i < L := by have := HLS.out; omega
                        clear hbs
                        go_wp2_with fail
                        exact ⟨⟨i + 1, by omega, by go_num, HB.out.setCell (p := ⟨w.heap.size, i, none⟩) (Nat.le_refl _) _, HBS.out⟩, by simp [intOf]; omega⟩
                      · go_wp2_with fail
                        go_loopw [7, 8] (fun iv jv wr => ∃ i jj : Nat, iv = .int .i64 i ∧ jv = .int .i64 jj ∧ jj ≤ S ∧ i + S = L + jj ∧ Below w.heap.size w wr ∧ Buf wr w.heap.size S k D) (fun _ jv _ => S - (intOf jv).toNat)
                        case atStart => exact ⟨k, j, rfl, rfl, hj, by have := HLS.out; omega, HB.out, HBUF.out⟩
                        case round =>
                          obtain ⟨i, jj, rfl, rfl, hjj, hij, hb, hbuf⟩ := hrel
                          have HB := Lib.hid hb
                          have HBUF := Lib.hid hbuf
                          have HIJ := Lib.hid hij
                          clear hb hbuf
                          by_cases hlj : jj < S
                          · have hiL : i < L := by omega
                            have hiS : i < S + k := by have := HLS.out; omega
                            have c0 := HBUF.out.hi jj hlj
                            have hd58 := HBUF.out.dig (S - 1 - jj)
                            generalize D (S - 1 - jj) = dd at c0 hd58
                            obtain ⟨u, hu, hc⟩ := HA.out.enc dd hd58
                            have c1 : wr.cell? ⟨p, 128 + dd, none⟩ = some (.int .u8 u.toNat) := by rw [(HP.out.below HB.out HP.out.lt).cell]; exact hc
                            obtain ⟨u2, c2⟩ := HBUF.out.lo i hiS
                            have f2 := HBUF.out.frozen i
                            have hbs := HBUF.out.put i hiS u
                            have HBS := Lib.hid hbs
                            clear hc hij hbs
                            go_wp2_with fail
                            go_region
                            go_wp2_with fail
                            exact ⟨⟨i + 1, jj + 1, by go_num, by go_num, by omega, by have := HIJ.out; omega, (HB.out.setCell (p := ⟨w.heap.size, i, none⟩) (Nat.le_refl _) _).drew, HBS.out.drew⟩, by simp [intOf]; omega⟩
                          · obtain ⟨s, hs, hcv⟩ := conv_buf HBUF.out L (S * 2 + k) (by have := HLS.out; omega)
                            clear hij
                            go_wp2_with fail
                            go_ret
                            exact ⟨s, rfl, by have := HLS.out; omega, HB.out⟩
                · clear hj0
                  by_cases hk0 : k = 0
                  · have hk1 : ((k : Int) != 0) = false := by simp; omega
                    clear hk0
                    go_wp2_with fail
                    go_loopw [7, 8] (fun iv jv wr => ∃ i jj : Nat, iv = .int .i64 i ∧ jv = .int .i64 jj ∧ jj ≤ S ∧ i + S = L + jj ∧ Below w.heap.size w wr ∧ Buf wr w.heap.size S k D) (fun _ jv _ => S - (intOf jv).toNat)
                    case atStart => exact ⟨k, j, rfl, rfl, hj, by have := HLS.out; omega, HB.out, HBUF.out⟩
                    case round =>
                      obtain ⟨i, jj, rfl, rfl, hjj, hij, hb, hbuf⟩ := hrel
                      have HB := Lib.hid hb
                      have HBUF := Lib.hid hbuf
                      have HIJ := Lib.hid hij
                      clear hb hbuf
                      by_cases hlj : jj < S
                      · have hiL : i < L := by omega
                        have hiS : i < S + k := by have := HLS.out; omega
                        have c0 := HBUF.out.hi jj hlj
                        have hd58 := HBUF.out.dig (S - 1 - jj)
                        generalize D (S - 1 - jj) = dd at c0 hd58
                        obtain ⟨u, hu, hc⟩ := HA.out.enc dd hd58
                        have c1 : wr.cell? ⟨p, 128 + dd, none⟩ = some (.int .u8 u.toNat) := by rw [(HP.out.below HB.out HP.out.lt).cell]; exact hc
                        obtain ⟨u2, c2⟩ := HBUF.out.lo i hiS
                        have f2 := HBUF.out.frozen i
                        have hbs := HBUF.out.put i hiS u
                        have HBS := Lib.hid hbs
                        clear hc hij hbs
                        go_wp2_with fail
                        go_region
                        go_wp2_with fail
                        exact ⟨⟨i + 1, jj + 1, by go_num, by go_num, by omega, by have := HIJ.out; omega, (HB.out.setCell (p := ⟨w.heap.size, i, none⟩) (Nat.le_refl _) _).drew, HBS.out.drew⟩, by simp [intOf]; omega⟩
                      · obtain ⟨s, hs, hcv⟩ := conv_buf HBUF.out L (S * 2 + k) (by have := HLS.out; omega)
                        clear hij
                        go_wp2_with fail
                        go_ret
                        exact ⟨s, rfl, by have := HLS.out; omega, HB.out⟩
                  · have hk1 : ((k : Int) != 0) = true := by simp; omega
                    clear hk0
                    go_wp2_with fail
                    go_loopw [7] (fun iv wr => ∃ i : Nat, i ≤ k ∧ iv = .int .i64 i ∧ Below w.heap.size w wr ∧ Buf wr w.heap.size S k D) (fun iv _ => k - (intOf iv).toNat)
                    case atStart => exact ⟨0, by omega, rfl, HB.out, HBUF.out⟩
                    case round =>
                      obtain ⟨i, hi, rfl, hb, hbuf⟩ := hrel
                      have HB := Lib.hid hb
                      have HBUF := Lib.hid hbuf
                      clear hb hbuf
                      by_cases hli : i < k
                      · obtain ⟨u2, c2⟩ := HBUF.out.lo i (by omega)
                        have f2 := HBUF.out.frozen i
                        have hbs := HBUF.out.put i (by omega) z
                        have HBS := Lib.hid hbs
                        have hiL : i < L := by have := HLS.out; omega
                        clear hbs
                        go_wp2_with fail
                        exact ⟨⟨i + 1, by omega, by go_num, HB.out.setCell (p := ⟨w.heap.size, i, none⟩) (Nat.le_refl _) _, HBS.out⟩, by simp [intOf]; omega⟩
                      · go_wp2_with fail
                        go_loopw [7, 8] (fun iv jv wr => ∃ i jj : Nat, iv = .int .i64 i ∧ jv = .int .i64 jj ∧ jj ≤ S ∧ i + S = L + jj ∧ Below w.heap.size w wr ∧ Buf wr w.heap.size S k D) (fun _ jv _ => S - (intOf jv).toNat)
                        case atStart => exact ⟨k, j, rfl, rfl, hj, by have := HLS.out; omega, HB.out, HBUF.out⟩
                        case round =>
                          obtain ⟨i, jj, rfl, rfl, hjj, hij, hb, hbuf⟩ := hrel
                          have HB := Lib.hid hb
                          have HBUF := Lib.hid hbuf
                          have HIJ := Lib.hid hij
                          clear hb hbuf
                          by_cases hlj : jj < S
                          · have hiL : i < L := by omega
                            have hiS : i < S + k := by have := HLS.out; omega
                            have c0 := HBUF.out.hi jj hlj
                            have hd58 := HBUF.out.dig (S - 1 - jj)
                            generalize D (S - 1 - jj) = dd at c0 hd58
                            obtain ⟨u, hu, hc⟩ := HA.out.enc dd hd58
                            have c1 : wr.cell? ⟨p, 128 + dd, none⟩ = some (.int .u8 u.toNat) := by rw [(HP.out.below HB.out HP.out.lt).cell]; exact hc
                            obtain ⟨u2, c2⟩ := HBUF.out.lo i hiS
                            have f2 := HBUF.out.frozen i
                            have hbs := HBUF.out.put i hiS u
                            have HBS := Lib.hid hbs
                            clear hc hij hbs
                            go_wp2_with fail
                            go_region
                            go_wp2_with fail
                            exact ⟨⟨i + 1, jj + 1, by go_num, by go_num, by omega, by have := HIJ.out; omega, (HB.out.setCell (p := ⟨w.heap.size, i, none⟩) (Nat.le_refl _) _).drew, HBS.out.drew⟩, by simp [intOf]; omega⟩
                          · obtain ⟨s, hs, hcv⟩ := conv_buf HBUF.out L (S * 2 + k) (by have := HLS.out; omega)
                            clear hij
                            go_wp2_with fail
                            go_ret
                            exact ⟨s, rfl, by have := HLS.out; omega, HB.out⟩
      · have hd1 : decide ((k : Int) < (k : Int) + (m : Int)) = false := by simp; omega
        have HLT := Lib.hid hlt
        have hm0 : m ≤ 0 := by omega
        have HM0 := Lib.hid hm0
        clear hlt hm0
        go_wp2_with fail
        go_loopw [7, 10] (fun iv hv wr => ∃ (q hh : Nat) (hx : Int) (D : Nat → Nat), q ≤ m ∧ iv = .int .i64 ((k : Int) + q) ∧ hv = .int .i64 hx ∧ hx = (S : Int) - 1 - hh ∧ hh ≤ S ∧ Below w.heap.size w wr ∧ Buf wr w.heap.size S k D ∧ (∀ j, hh ≤ j → j < S → D j = 0) ∧ dval D S < 256 ^ q) (fun iv _ _ => n0 - (intOf iv).toNat)
        case atStart => exact ⟨0, 0, (S : Int) - 1, fun _ => 0, by omega, by simp, rfl, by omega, by omega, HBA.out, HNEW.out, fun _ _ _ => rfl, by rw [dval_zero (D := fun _ => 0) 0 S (by omega) (fun _ _ _ => rfl)]; decide⟩
        case round =>
          obtain ⟨q, hh, hx, D, hq, rfl, rfl, hhx, hhS, hb, hbuf, hz, hval⟩ := hrel
          have HB := Lib.hid hb
          have HBUF := Lib.hid hbuf
          have HZ := Lib.hid hz
          have HV := Lib.hid hval
          clear hb hbuf hz hval
          by_cases hlq : q < m
          · exact absurd hlq (by have := HM0.out; omega)
          · clear hhx
            go_wp2_with fail
            go_loopw [8] (fun jv wq => ∃ j : Nat, j ≤ S ∧ jv = .int .i64 j ∧ wq = wr) (fun jv _ => S - (intOf jv).toNat)
            case atStart => exact ⟨0, by omega, rfl, rfl⟩
            case round =>
              obtain ⟨j, hj, rfl, hww⟩ := hrel
              cases hww
              by_cases hj0 : ∃ (hjS : j < S), D (S - 1 - j) = 0
              · obtain ⟨hjS, hdz⟩ := hj0
                have c0 := HBUF.out.hi j hjS
                rw [hdz] at c0
                clear hdz
                go_wp2_with fail
                go_roundw
                case rel => exact ⟨j + 1, by omega, by go_num, trivial⟩
                case measure => simp [intOf]; omega
              · obtain ⟨L, hL⟩ : ∃ L, L = S - j + k := ⟨_, rfl⟩
                have l1 : (S : Int) - (j : Int) + (k : Int) = (L : Int) := by omega
                have l2 : L ≤ S * 2 + k := by omega
                have HLS := Lib.hid (And.intro hL hS1)
                clear hL
                by_cases hjS : j < S
                · have c0 := HBUF.out.hi j hjS
                  have hdd : D (S - 1 - j) ≠ 0 := fun e => hj0 ⟨hjS, e⟩
                  generalize D (S - 1 - j) = dd at c0 hdd
                  have hd0 : ((dd : Int) == 0) = false := by simp; omega
                  clear hj0
                  by_cases hk0 : k = 0
                  · have hk1 : ((k : Int) != 0) = false := by simp; omega
                    clear hk0
                    go_wp2_with fail
                    go_loopw [7, 8] (fun iv jv wr => ∃ i jj : Nat, iv = .int .i64 i ∧ jv = .int .i64 jj ∧ jj ≤ S ∧ i + S = L + jj ∧ Below w.heap.size w wr ∧ Buf wr w.heap.size S k D) (fun _ jv _ => S - (intOf jv).toNat)
                    case atStart => exact ⟨k, j, rfl, rfl, hj, by have := HLS.out; omega, HB.out, HBUF.out⟩
                    case round =>
                      obtain ⟨i, jj, rfl, rfl, hjj, hij, hb, hbuf⟩ := hrel
                      have HB := Lib.hid hb
                      have HBUF := Lib.hid hbuf
                      have HIJ := Lib.hid hij
                      clear hb hbuf
                      by_cases hlj : jj < S
                      · have hiL : i < L := by omega
                        have hiS : i < S + k := by have := HLS.out; omega
                        have c0 := HBUF.out.hi jj hlj
                        have hd58 := HBUF.out.dig (S - 1 - jj)
                        generalize D (S - 1 - jj) = dd at c0 hd58
                        obtain ⟨u, hu, hc⟩ := HA.out.enc dd hd58
                        have c1 : wr.cell? ⟨p, 128 + dd, none⟩ = some (.int .u8 u.toNat) := by rw [(HP.out.below HB.out HP.out.lt).cell]; exact hc
                        obtain ⟨u2, c2⟩ := HBUF.out.lo i hiS
                        have f2 := HBUF.out.frozen i
                        have hbs := HBUF.out.put i hiS u
                        have HBS := Lib.hid hbs
                        clear hc hij hbs
                        go_wp2_with fail
                        go_region
                        go_wp2_with fail
                        exact ⟨⟨i + 1, jj + 1, by go_num, by go_num, by omega, by have := HIJ.out; omega, (HB.out.setCell (p := ⟨w.heap.size, i, none⟩) (Nat.le_refl _) _).drew, HBS.out.drew⟩, by simp [intOf]; omega⟩
                      · obtain ⟨s, hs, hcv⟩ := conv_buf HBUF.out L (S * 2 + k) (by have := HLS.out; omega)
                        clear hij
                        go_wp2_with fail
                        go_ret
                        exact ⟨s, rfl, by have := HLS.out; omega, HB.out⟩
                  · have hk1 : ((k : Int) != 0) = true := by simp; omega
                    clear hk0
                    go_wp2_with fail
                    go_loopw [7] (fun iv wr => ∃ i : Nat, i ≤ k ∧ iv = .int .i64 i ∧ Below w.heap.size w wr ∧ Buf wr w.heap.size S k D) (fun iv _ => k - (intOf iv).toNat)
                    case atStart => exact ⟨0, by omega, rfl, HB.out, HBUF.out⟩
                    case round =>
                      obtain ⟨i, hi, rfl, hb, hbuf⟩ := hrel
                      have HB := Lib.hid hb
                      have HBUF := Lib.hid hbuf
                      clear hb hbuf
                      by_cases hli : i < k
                      · obtain ⟨u2, c2⟩ := HBUF.out.lo i (by omega)
                        have f2 := HBUF.out.frozen i
                        have hbs := HBUF.out.put i (by omega) z
                        have HBS := Lib.hid hbs
                        have hiL : i < L := by have := HLS.out; omega
                        clear hbs
                        go_wp2_with fail
                        exact ⟨⟨i + 1, by omega, by go_num, HB.out.setCell (p := ⟨w.heap.size, i, none⟩) (Nat.le_refl _) _, HBS.out⟩, by simp [intOf]; omega⟩
                      · go_wp2_with fail
                        go_loopw [7, 8] (fun iv jv wr => ∃ i jj : Nat, iv = .int .i64 i ∧ jv = .int .i64 jj ∧ jj ≤ S ∧ i + S = L + jj ∧ Below w.heap.size w wr ∧ Buf wr w.heap.size S k D) (fun _ jv _ => S - (intOf jv).toNat)
                        case atStart => exact ⟨k, j, rfl, rfl, hj, by have := HLS.out; omega, HB.out, HBUF.out⟩
                        case round =>
                          obtain ⟨i, jj, rfl, rfl, hjj, hij, hb, hbuf⟩ := hrel
                          have HB := Lib.hid hb
                          have HBUF := Lib.hid hbuf
                          have HIJ := Lib.hid hij
                          clear hb hbuf
                          by_cases hlj : jj < S
                          · have hiL : i < L := by omega
                            have hiS : i < S + k := by have := HLS.out; omega
                            have c0 := HBUF.out.hi jj hlj
                            have hd58 := HBUF.out.dig (S - 1 - jj)
                            generalize D (S - 1 - jj) = dd at c0 hd58
                            obtain ⟨u, hu, hc⟩ := HA.out.enc dd hd58
                            have c1 : wr.cell? ⟨p, 128 + dd, none⟩ = some (.int .u8 u.toNat) := by rw [(HP.out.below HB.out HP.out.lt).cell]; exact hc
                            obtain ⟨u2, c2⟩ := HBUF.out.lo i hiS
                            have f2 := HBUF.out.frozen i
                            have hbs := HBUF.out.put i hiS u
                            have HBS := Lib.hid hbs
                            clear hc hij hbs
                            go_wp2_with fail
                            go_region
                            go_wp2_with fail
                            exact ⟨⟨i + 1, jj + 1, by go_num, by go_num, by omega, by have := HIJ.out; omega, (HB.out.setCell (p := ⟨w.heap.size, i, none⟩) (Nat.le_refl _) _).drew, HBS.out.drew⟩, by simp [intOf]; omega⟩
                          · obtain ⟨s, hs, hcv⟩ := conv_buf HBUF.out L (S * 2 + k) (by have := HLS.out; omega)
                            clear hij
                            go_wp2_with fail
                            go_ret
                            exact ⟨s, rfl, by have := HLS.out; omega, HB.out⟩
                · clear hj0
                  by_cases hk0 : k = 0
                  · have hk1 : ((k : Int) != 0) = false := by simp; omega
                    clear hk0
                    go_wp2_with fail
                    go_loopw [7, 8] (fun iv jv wr => ∃ i jj : Nat, iv = .int .i64 i ∧ jv = .int .i64 jj ∧ jj ≤ S ∧ i + S = L + jj ∧ Below w.heap.size w wr ∧ Buf wr w.heap.size S k D) (fun _ jv _ => S - (intOf jv).toNat)
                    case atStart => exact ⟨k, j, rfl, rfl, hj, by have := HLS.out; omega, HB.out, HBUF.out⟩
                    case round =>
                      obtain ⟨i, jj, rfl, rfl, hjj, hij, hb, hbuf⟩ := hrel
                      have HB := Lib.hid hb
                      have HBUF := Lib.hid hbuf
                      have HIJ := Lib.hid hij
                      clear hb hbuf
                      by_cases hlj : jj < S
                      · have hiL : i < L := by omega
                        have hiS : i < S + k := by have := HLS.out; omega
                        have c0 := HBUF.out.hi jj hlj
                        have hd58 := HBUF.out.dig (S - 1 - jj)
                        generalize D (S - 1 - jj) = dd at c0 hd58
                        obtain ⟨u, hu, hc⟩ := HA.out.enc dd hd58
                        have c1 : wr.cell? ⟨p, 128 + dd, none⟩ = some (.int .u8 u.toNat) := by rw [(HP.out.below HB.out HP.out.lt).cell]; exact hc
                        obtain ⟨u2, c2⟩ := HBUF.out.lo i hiS
                        have f2 := HBUF.out.frozen i
                        have hbs := HBUF.out.put i hiS u
                        have HBS := Lib.hid hbs
                        clear hc hij hbs
                        go_wp2_with fail
                        go_region
                        go_wp2_with fail
                        exact ⟨⟨i + 1, jj + 1, by go_num, by go_num, by omega, by have := HIJ.out; omega, (HB.out.setCell (p := ⟨w.heap.size, i, none⟩) (Nat.le_refl _) _).drew, HBS.out.drew⟩, by simp [intOf]; omega⟩
                      · obtain ⟨s, hs, hcv⟩ := conv_buf HBUF.out L (S * 2 + k) (by have := HLS.out; omega)
                        clear hij
                        go_wp2_with fail
                        go_ret
                        exact ⟨s, rfl, by have := HLS.out; omega, HB.out⟩
                  · have hk1 : ((k : Int) != 0) = true := by simp; omega
                    clear hk0
                    go_wp2_with fail
                    go_loopw [7] (fun iv wr => ∃ i : Nat, i ≤ k ∧ iv = .int .i64 i ∧ Below w.heap.size w wr ∧ Buf wr w.heap.size S k D) (fun iv _ => k - (intOf iv).toNat)
                    case atStart => exact ⟨0, by omega, rfl, HB.out, HBUF.out⟩
                    case round =>
                      obtain ⟨i, hi, rfl, hb, hbuf⟩ := hrel
                      have HB := Lib.hid hb
                      have HBUF := Lib.hid hbuf
                      clear hb hbuf
                      by_cases hli : i < k
                      · obtain ⟨u2, c2⟩ := HBUF.out.lo i (by omega)
                        have f2 := HBUF.out.frozen i
                        have hbs := HBUF.out.put i (by omega) z
                        have HBS := Lib.hid hbs
                        have hiL : i < L := by have := HLS.out; omega
                        clear hbs
                        go_wp2_with fail
                        exact ⟨⟨i + 1, by omega, by go_num, HB.out.setCell (p := ⟨w.heap.size, i, none⟩) (Nat.le_refl _) _, HBS.out⟩, by simp [intOf]; omega⟩
                      · go_wp2_with fail
                        go_loopw [7, 8] (fun iv jv wr => ∃ i jj : Nat, iv = .int .i64 i ∧ jv = .int .i64 jj ∧ jj ≤ S ∧ i + S = L + jj ∧ Below w.heap.size w wr ∧ Buf wr w.heap.size S k D) (fun _ jv _ => S - (intOf jv).toNat)
                        case atStart => exact ⟨k, j, rfl, rfl, hj, by have := HLS.out; omega, HB.out, HBUF.out⟩
                        case round =>
                          obtain ⟨i, jj, rfl, rfl, hjj, hij, hb, hbuf⟩ := hrel
                          have HB := Lib.hid hb
                          have HBUF := Lib.hid hbuf
                          have HIJ := Lib.hid hij
                          clear hb hbuf
                          by_cases hlj : jj < S
                          · have hiL : i < L := by omega
                            have hiS : i < S + k := by have := HLS.out; omega
                            have c0 := HBUF.out.hi jj hlj
                            have hd58 := HBUF.out.dig (S - 1 - jj)
                            generalize D (S - 1 - jj) = dd at c0 hd58
                            obtain ⟨u, hu, hc⟩ := HA.out.enc dd hd58
                            have c1 : wr.cell? ⟨p, 128 + dd, none⟩ = some (.int .u8 u.toNat) := by rw [(HP.out.below HB.out HP.out.lt).cell]; exact hc
                            obtain ⟨u2, c2⟩ := HBUF.out.lo i hiS
                            have f2 := HBUF.out.frozen i
                            have hbs := HBUF.out.put i hiS u
                            have HBS := Lib.hid hbs
                            clear hc hij hbs
                            go_wp2_with fail
                            go_region
                            go_wp2_with fail
                            exact ⟨⟨i + 1, jj + 1, by go_num, by go_num, by omega, by have := HIJ.out; omega, (HB.out.setCell (p := ⟨w.heap.size, i, none⟩) (Nat.le_refl _) _).drew, HBS.out.drew⟩, by simp [intOf]; omega⟩
                          · obtain ⟨s, hs, hcv⟩ := conv_buf HBUF.out L (S * 2 + k) (by have := HLS.out; omega)
                            clear hij
                            go_wp2_with fail
                            go_ret
                            exact ⟨s, rfl, by have := HLS.out; omega, HB.out⟩
end Go.Proofs.YtghddiboggdhcaaGreatDoor
