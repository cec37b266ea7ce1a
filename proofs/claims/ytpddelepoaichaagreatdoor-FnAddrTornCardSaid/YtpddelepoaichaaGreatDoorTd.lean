/- impl.addrOf, impl.AddrSplit at an address of which the last byte is lost: none. -/
import Derived.Test.YtpddelepoaichaaGreatDoorTb
namespace Go.Proofs.YtpddelepoaichaaGreatDoor
open Go.RowKit
variable {K : Nat}
attribute [local go_sem ↓] Go.wp_at_zero Go.wp_at_succ
set_option maxRecDepth 100000 in
set_option maxHeartbeats 2000000 in
theorem addrof_torn (A : Option Addr) (n c : Nat) (hs : List Hop) (tb L : List UInt8) (w : World) (ht : Tab K w) (hok : ∀ x ∈ hs, HopOk K x.kd x.l) (hu : Und w) (h : RB w w.heap.size A n c L) (hL : L = addrBytes hs ++ tb) (hn : hs.length ≤ 100) (htb : Torn tb) :
    Calls Tryz.prog 25 #[.slice A n c] w fun e w' => e = .returned (.tuple #[.slice none 0 0, .bool false]) ∧ Below w.heap.size w w' := by
  have hle := addrBytes_le hs
  have htb1 := htb.le
  have hlen := h.len
  have hll := congrArg List.length hL
  rw [List.length_append] at hll
  have HC := Lib.hid (clone_any A n c L w h (by omega))
  have HT := Lib.hid ht
  have HOK := Lib.hid hok
  have HU := Lib.hid hu
  have HTB := Lib.hid htb
  have HLq := Lib.hid hL
  clear h ht hok hu htb hle htb1 hll hL hlen
  go_enter Tryz.func25, Tryz.ntmps25
  go_wp2_with fail
  refine HC.out.mono ?_
  rintro e w1 ⟨A1, c1, rfl, hr1, hb1⟩
  have HR1 := Lib.hid hr1
  have HB1 := Lib.hid hb1
  clear hr1 hb1
  go_wp2_with fail
  refine (newma_torn A1 L.length c1 hs tb w1 (HT.out.below HB1.out) HOK.out (HU.out.below HB1.out) (by rw [← HLq.out]; exact HR1.out) hn HTB.out).mono ?_
  rintro e w2 ⟨t, v, rfl, hb2⟩
  have HB := Lib.hid (HB1.out.trans (hb2.mono HB1.out.size))
  clear hb2
  go_wp2_with fail
  go_ret2
  exact ⟨rfl, HB.out⟩
set_option maxRecDepth 100000 in
set_option maxHeartbeats 2000000 in
theorem isplit_torn (A : Option Addr) (n c : Nat) (hs : List Hop) (tb L : List UInt8) (w : World) (ht : Tab K w) (hok : ∀ x ∈ hs, HopOk K x.kd x.l) (hu : Und w) (h : RB w w.heap.size A n c L) (hL : L = addrBytes hs ++ tb) (hn : hs.length ≤ 100) (htb : Torn tb) :
    Calls Tryz.prog 12 #[.slice A n c] w fun e w' => e = .returned (.tuple #[.slice none 0 0, .slice none 0 0, .bool false]) ∧ Below w.heap.size w w' := by
  have HC := Lib.hid (addrof_torn A n c hs tb L w ht hok hu h hL hn htb)
  clear h ht hok hu htb hL
  go_enter Tryz.func12, Tryz.ntmps12
  go_wp2_with fail
  refine HC.out.mono ?_
  rintro e w1 ⟨rfl, hb⟩
  have HB := Lib.hid hb
  clear hb
  go_wp2_with fail
  go_ret3
  exact ⟨rfl, HB.out⟩
end Go.Proofs.YtpddelepoaichaaGreatDoor
