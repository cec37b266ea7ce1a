/- Every protocol: the varint of its code, and how its values are checked; a component of any protocol is checked. Conditions: the package variables as laid, or typed. -/
import Derived.Test.YtghddiboggdhcaaGreatDoorVvf
import Derived.Test.YtghddiboggdhcaaGreatDoorVvv
import Derived.Test.YtghddiboggdhcaaGreatDoorVc
set_option maxRecDepth 100000
set_option maxHeartbeats 2000000
namespace Go.Proofs.YtghddiboggdhcaaGreatDoor
open Go.RowKit
variable {K : Nat} {f : Nat → Int}
def leb : Nat → Nat → List UInt8
  | 0, _ => []
  | k + 1, v => if v < 128 then [UInt8.ofNat v] else UInt8.ofNat (v % 128 + 128) :: leb k (v / 128)
theorem uvAt_leb : ∀ (l : List UInt8) (i x v n : Nat), uvAt i x l = some (v, n) → ∃ y, v = x + y * 2 ^ (7 * i) ∧ (0 < i → 0 < y) ∧ l.take (n - i) = leb (10 - i) y ∧ i < n
  | [], i, x, v, n, h => by simp [uvAt] at h
  | b :: r, i, x, v, n, h => by
    have hbl := b.toNat_lt
    rw [uvAt] at h
    split at h
    · cases h
    · rename_i h9
      obtain ⟨k, hk⟩ : ∃ k, 10 - i = k + 1 := ⟨9 - i, by omega⟩
      split at h
      · rename_i hb
        split at h
        · cases h
        · rename_i h0
          injection h with h
          injection h with h1 h2
          subst h1 h2
          refine ⟨b.toNat, rfl, fun hi => by omega, ?_, by omega⟩
          rw [hk, show i + 1 - i = 1 by omega, leb, if_pos hb]
          simp
      · rename_i hb
        obtain ⟨y, h1, h2, h3, h4⟩ := uvAt_leb r (i + 1) _ v n h
        have hy := h2 (by omega)
        refine ⟨(b.toNat - 128) + 128 * y, ?_, fun _ => by omega, ?_, by omega⟩
        · rw [h1, show 7 * (i + 1) = 7 * i + 7 by omega, Nat.pow_add, Nat.add_mul]
          have : y * (2 ^ (7 * i) * 2 ^ 7) = 128 * y * 2 ^ (7 * i) := by
            rw [show (2 : Nat) ^ 7 = 128 by decide, Nat.mul_comm (2 ^ (7 * i)) 128, ← Nat.mul_assoc, Nat.mul_comm y 128]
          omega
        · obtain ⟨m, hm⟩ : ∃ m, n - i = m + 1 := ⟨n - i - 1, by omega⟩
          have e1 : ((b.toNat - 128) + 128 * y) % 128 = b.toNat - 128 := by omega
          have e2 : ((b.toNat - 128) + 128 * y) / 128 = y := by omega
          rw [hm, hk, leb, if_neg (by omega), List.take_succ_cons, e1, e2]
          rw [show n - (i + 1) = m by omega, show 10 - (i + 1) = k by omega] at h3
          rw [h3, show b.toNat - 128 + 128 = b.toNat by omega]
          simp
theorem uv_leb {l : List UInt8} {v n : Nat} (h : uv l = some (v, n)) : l.take n = leb 10 v := by
  obtain ⟨y, h1, _, h3, _⟩ := uvAt_leb l 0 0 v n h
  have : y = v := by omega
  rw [this] at h3
  exact h3
theorem protoX_vc {k : Nat} {X : ProtoX} (h : protoX k = some X) : X.vc = leb 10 k := by
  unfold protoX at h
  split at h <;> first | (cases h; rfl) | cases h
inductive PK (K : Nat) (f : Nat → Int) (X : ProtoX) (ok : List UInt8 → Bool) : Prop
  | none (hs : X.size = 0) (ht : X.tc = .nilIface) (ho : ∀ d, ok d = true)
  | fixn (m a b : Nat) (okb : List UInt8 → Bool) (hm : 0 < m ∧ m ≤ 1000) (hs : X.size = ((8 * m : Nat) : Int)) (ht : X.tc = .iface 147 (.agg #[fnv a, fnv b, .nilFunc])) (he : ∀ args w, (callFunc b args).run Tryz.prog w = .ok (.enter b args) w) (hb : ∀ d, d.length = m → Bts K f b okb d) (ho : ∀ d, ok d = okb d)
  | fixf (m a b c : Nat) (okb okv : List UInt8 → Bool) (hm : 0 < m ∧ m ≤ 1000) (hs : X.size = ((8 * m : Nat) : Int)) (ht : X.tc = .iface 147 (.agg #[fnv a, fnv b, fnv c])) (he : ∀ args w, (callFunc b args).run Tryz.prog w = .ok (.enter b args) w) (hec : ∀ args w, (callFunc c args).run Tryz.prog w = .ok (.enter c args) w) (hb : ∀ d, d.length = m → Bts K f b okb d) (hv : ∀ d, d.length = m → Vlb K f c okv d) (ho : ∀ d, ok d = (okb d && okv d))
  | var (a b c : Nat) (okb okv : List UInt8 → Bool) (hs : X.size = -1) (ht : X.tc = .iface 147 (.agg #[fnv a, fnv b, fnv c])) (he : ∀ args w, (callFunc b args).run Tryz.prog w = .ok (.enter b args) w) (hec : ∀ args w, (callFunc c args).run Tryz.prog w = .ok (.enter c args) w) (hb : ∀ d, 0 < d.length → d.length ≤ 1000 → Bts K f b okb d) (hv : ∀ d, 0 < d.length → d.length ≤ 1000 → Vlb K f c okv d) (ho : ∀ d, ok d = (okb d && okv d))
theorem en_certHashBtS : ∀ args w, (callFunc 155 args).run Tryz.prog w = .ok (.enter 155 args) w := fun _ _ => by kernel_rfl
theorem en_dnsBtS : ∀ args w, (callFunc 132 args).run Tryz.prog w = .ok (.enter 132 args) w := fun _ _ => by kernel_rfl
theorem en_dnsVal : ∀ args w, (callFunc 133 args).run Tryz.prog w = .ok (.enter 133 args) w := fun _ _ => by kernel_rfl
theorem en_garlic32BtS : ∀ args w, (callFunc 152 args).run Tryz.prog w = .ok (.enter 152 args) w := fun _ _ => by kernel_rfl
theorem en_garlic32Validate : ∀ args w, (callFunc 153 args).run Tryz.prog w = .ok (.enter 153 args) w := fun _ _ => by kernel_rfl
theorem en_garlic64BtS : ∀ args w, (callFunc 149 args).run Tryz.prog w = .ok (.enter 149 args) w := fun _ _ => by kernel_rfl
theorem en_garlic64Validate : ∀ args w, (callFunc 150 args).run Tryz.prog w = .ok (.enter 150 args) w := fun _ _ => by kernel_rfl
theorem en_httpPathBtS : ∀ args w, (callFunc 158 args).run Tryz.prog w = .ok (.enter 158 args) w := fun _ _ => by kernel_rfl
theorem en_ip4BtS : ∀ args w, (callFunc 128 args).run Tryz.prog w = .ok (.enter 128 args) w := fun _ _ => by kernel_rfl
theorem en_ip6BtS : ∀ args w, (callFunc 135 args).run Tryz.prog w = .ok (.enter 135 args) w := fun _ _ => by kernel_rfl
theorem en_ip6zoneBtS : ∀ args w, (callFunc 137 args).run Tryz.prog w = .ok (.enter 137 args) w := fun _ _ => by kernel_rfl
theorem en_ip6zoneVal : ∀ args w, (callFunc 138 args).run Tryz.prog w = .ok (.enter 138 args) w := fun _ _ => by kernel_rfl
theorem en_ipcidrBtS : ∀ args w, (callFunc 140 args).run Tryz.prog w = .ok (.enter 140 args) w := fun _ _ => by kernel_rfl
theorem en_ipcidrValidate : ∀ args w, (callFunc 141 args).run Tryz.prog w = .ok (.enter 141 args) w := fun _ _ => by kernel_rfl
theorem en_memoryBtS : ∀ args w, (callFunc 167 args).run Tryz.prog w = .ok (.enter 167 args) w := fun _ _ => by kernel_rfl
theorem en_memoryValidate : ∀ args w, (callFunc 168 args).run Tryz.prog w = .ok (.enter 168 args) w := fun _ _ => by kernel_rfl
theorem en_onion3BtS : ∀ args w, (callFunc 146 args).run Tryz.prog w = .ok (.enter 146 args) w := fun _ _ => by kernel_rfl
theorem en_onion3Validate : ∀ args w, (callFunc 147 args).run Tryz.prog w = .ok (.enter 147 args) w := fun _ _ => by kernel_rfl
theorem en_onionBtS : ∀ args w, (callFunc 143 args).run Tryz.prog w = .ok (.enter 143 args) w := fun _ _ => by kernel_rfl
theorem en_onionValidate : ∀ args w, (callFunc 144 args).run Tryz.prog w = .ok (.enter 144 args) w := fun _ _ => by kernel_rfl
theorem en_p2pBtS : ∀ args w, (callFunc 161 args).run Tryz.prog w = .ok (.enter 161 args) w := fun _ _ => by kernel_rfl
theorem en_p2pVal : ∀ args w, (callFunc 162 args).run Tryz.prog w = .ok (.enter 162 args) w := fun _ _ => by kernel_rfl
theorem en_portBtS : ∀ args w, (callFunc 130 args).run Tryz.prog w = .ok (.enter 130 args) w := fun _ _ => by kernel_rfl
theorem en_unixBtS : ∀ args w, (callFunc 164 args).run Tryz.prog w = .ok (.enter 164 args) w := fun _ _ => by kernel_rfl
theorem en_unixValidate : ∀ args w, (callFunc 165 args).run Tryz.prog w = .ok (.enter 165 args) w := fun _ _ => by kernel_rfl
theorem en_validateCertHash : ∀ args w, (callFunc 156 args).run Tryz.prog w = .ok (.enter 156 args) w := fun _ _ => by kernel_rfl
theorem en_validateHTTPPath : ∀ args w, (callFunc 159 args).run Tryz.prog w = .ok (.enter 159 args) w := fun _ _ => by kernel_rfl
def okD (k : Nat) (d : List UInt8) : Bool := match k with
  | 42 => (decide (d.length ≠ 0) && nameOk d)
  | 43 => (decide (d.length = 1) && decide (d.length = 1))
  | 53 => (true && nameOk d)
  | 54 => (true && nameOk d)
  | 55 => (true && nameOk d)
  | 56 => (true && nameOk d)
  | 400 => (true && decide (2 ≤ d.length ∧ d.head? = some 47 ∧ d.getLast? ≠ some 47))
  | 421 => ((mhOk d).isSome && idOk d)
  | 444 => (nz2 d 10 && (decide (d.length = 12) && nz2 d 10))
  | 445 => (nz2 d 35 && (decide (d.length = 37) && nz2 d 35))
  | 446 => (decide (386 ≤ d.length) && decide (386 ≤ d.length))
  | 447 => (decide (35 ≤ d.length ∨ d.length = 32) && decide (35 ≤ d.length ∨ d.length = 32))
  | 449 => (true && nameOk d)
  | 466 => (true && (mhOk d).isSome)
  | 481 => (decide (d.length ≠ 0) && decide (d.length ≠ 0))
  | 777 => (decide (d.length = 8) && decide (d.length = 8))
  | _ => true
theorem bts_ip4BtS (hK : 18446744073709551616 ≤ K) (d : List UInt8) (hd : d.length = 4) : Bts K f 128 (fun _d => true) d := fun w1 g c hx hr => match d, hd with
    | [b0, b1, b2, b3], _ => (ip4_any g c b0 b1 b2 b3 w1 hr (by have := b0.toNat_lt; omega) (by have := b1.toNat_lt; omega) (by have := b2.toNat_lt; omega) (by have := b3.toNat_lt; omega) hx.tab).mono fun _ _ h => h.bs
theorem bts_portBtS (hK : 18446744073709551616 ≤ K) (d : List UInt8) (hd : d.length = 2) : Bts K f 130 (fun _d => true) d := fun w1 g c hx hr => match d, hd with
    | [b0, b1], _ => (port_any g c b0 b1 w1 hr (by have := beNat_lt b0 b1; omega) hx.tab).mono fun _ _ h => h.bs
theorem bts_ip6BtS (hK : 18446744073709551616 ≤ K) (d : List UInt8) (hd : d.length = 16) : Bts K f 135 (fun _d => true) d := fun w1 g c hx hr => (ip6_any g c d w1 hd (by omega) hr hx.tab).mono fun _ _ h => h.bs
theorem bts_ip6zoneBtS (_hK : 18446744073709551616 ≤ K) (d : List UInt8) (_h0 : 0 < d.length) (_h1 : d.length ≤ 1000) : Bts K f 137 (fun d => decide (d.length ≠ 0)) d := fun w1 _g c _hx hr => zone_bts _ _ c d w1 hr
theorem vlb_ip6zoneVal (d : List UInt8) (_h0 : 0 < d.length) (_h1 : d.length ≤ 1000) : Vlb K f 138 (fun d => nameOk d) d := fun w1 _g c _hx hr => zone_val _ _ c d w1 hr
theorem bts_ipcidrBtS (hK : 18446744073709551616 ≤ K) (d : List UInt8) (_hd : d.length = 1) : Bts K f 140 (fun d => decide (d.length = 1)) d := fun w1 g c hx hr => cidr_bts g _ c d w1 hr (by omega) hx.tab
theorem vlb_ipcidrValidate (d : List UInt8) (_hd : d.length = 1) : Vlb K f 141 (fun d => decide (d.length = 1)) d := fun w1 _g c _hx hr => cidr_val _ _ c d w1 hr
theorem bts_dnsBtS (_hK : 18446744073709551616 ≤ K) (d : List UInt8) (_h0 : 0 < d.length) (_h1 : d.length ≤ 1000) : Bts K f 132 (fun _d => true) d := fun w1 _g c _hx hr => str_bts _ _ _ c d w1 hr (.inr rfl)
theorem vlb_dnsVal (d : List UInt8) (_h0 : 0 < d.length) (_h1 : d.length ≤ 1000) : Vlb K f 133 (fun d => nameOk d) d := fun w1 _g c _hx hr => dns_val _ _ c d w1 hr
theorem bts_unixBtS (_hK : 18446744073709551616 ≤ K) (d : List UInt8) (_h0 : 0 < d.length) (_h1 : d.length ≤ 1000) : Bts K f 164 (fun _d => true) d := fun w1 _g c _hx hr => str_bts _ _ _ c d w1 hr (.inl rfl)
theorem vlb_unixValidate (d : List UInt8) (h0 : 0 < d.length) (h1 : d.length ≤ 1000) : Vlb K f 165 (fun d => decide (2 ≤ d.length ∧ d.head? = some 47 ∧ d.getLast? ≠ some 47)) d := fun w1 g c hx hr => unix_val _ _ c d w1 hr (by omega)
theorem bts_p2pBtS (_hK : 18446744073709551616 ≤ K) (d : List UInt8) (h0 : 0 < d.length) (h1 : d.length ≤ 1000) : Bts K f 161 (fun d => (mhOk d).isSome) d := fun w1 g c hx hr => p2p_bts _ _ c d w1 hr hx.vrs hx.shr (by omega) (by omega)
theorem vlb_p2pVal (d : List UInt8) (h0 : 0 < d.length) (h1 : d.length ≤ 1000) : Vlb K f 162 (fun d => idOk d) d := fun w1 g c hx hr => id_val _ _ c d w1 hr hx.vrs hx.shr (by omega) (by omega)
theorem bts_onionBtS (hK : 18446744073709551616 ≤ K) (d : List UInt8) (hd : d.length = 12) : Bts K f 143 (fun d => nz2 d 10) d := fun w1 g c hx hr => by
    rw [hd] at hr ⊢
    exact onion_bts g c d w1 hr (by omega) hx.tab
theorem vlb_onionValidate (d : List UInt8) (_hd : d.length = 12) : Vlb K f 144 (fun d => (decide (d.length = 12) && nz2 d 10)) d := fun w1 g c _hx hr => onion_val g _ c d w1 hr
theorem bts_onion3BtS (hK : 18446744073709551616 ≤ K) (d : List UInt8) (hd : d.length = 37) : Bts K f 146 (fun d => nz2 d 35) d := fun w1 g c hx hr => by
    rw [hd] at hr ⊢
    exact onion3_bts g c d w1 hr (by omega) hx.tab
theorem vlb_onion3Validate (d : List UInt8) (_hd : d.length = 37) : Vlb K f 147 (fun d => (decide (d.length = 37) && nz2 d 35)) d := fun w1 g c _hx hr => onion3_val g _ c d w1 hr
theorem bts_garlic64BtS (_hK : 18446744073709551616 ≤ K) (d : List UInt8) (h0 : 0 < d.length) (h1 : d.length ≤ 1000) : Bts K f 149 (fun d => decide (386 ≤ d.length)) d := fun w1 g c hx hr => gar64_bts _ _ c d w1 hr (by omega)
theorem vlb_garlic64Validate (d : List UInt8) (_h0 : 0 < d.length) (_h1 : d.length ≤ 1000) : Vlb K f 150 (fun d => decide (386 ≤ d.length)) d := fun w1 _g c _hx hr => gar64_val _ _ c d w1 hr
theorem bts_garlic32BtS (_hK : 18446744073709551616 ≤ K) (d : List UInt8) (h0 : 0 < d.length) (h1 : d.length ≤ 1000) : Bts K f 152 (fun d => decide (35 ≤ d.length ∨ d.length = 32)) d := fun w1 g c hx hr => gar32_bts _ _ c d w1 hr (by omega)
theorem vlb_garlic32Validate (d : List UInt8) (_h0 : 0 < d.length) (_h1 : d.length ≤ 1000) : Vlb K f 153 (fun d => decide (35 ≤ d.length ∨ d.length = 32)) d := fun w1 _g c _hx hr => gar32_val _ _ c d w1 hr
theorem bts_certHashBtS (_hK : 18446744073709551616 ≤ K) (d : List UInt8) (h0 : 0 < d.length) (h1 : d.length ≤ 1000) : Bts K f 155 (fun _d => true) d := fun w1 g c hx hr => cert_bts _ _ c d w1 hr (by omega)
theorem vlb_validateCertHash (d : List UInt8) (h0 : 0 < d.length) (h1 : d.length ≤ 1000) : Vlb K f 156 (fun d => (mhOk d).isSome) d := fun w1 g c hx hr => cert_val _ _ c d w1 hr hx.vrs hx.shr (by omega) (by omega)
theorem bts_httpPathBtS (_hK : 18446744073709551616 ≤ K) (d : List UInt8) (h0 : 0 < d.length) (h1 : d.length ≤ 1000) : Bts K f 158 (fun d => decide (d.length ≠ 0)) d := fun w1 g c hx hr => http_bts f _ _ c d w1 hr (by omega) hx.url
theorem vlb_validateHTTPPath (d : List UInt8) (_h0 : 0 < d.length) (_h1 : d.length ≤ 1000) : Vlb K f 159 (fun d => decide (d.length ≠ 0)) d := fun w1 _g c _hx hr => http_val _ _ c d w1 hr
theorem bts_memoryBtS (hK : 18446744073709551616 ≤ K) (d : List UInt8) (_hd : d.length = 8) : Bts K f 167 (fun d => decide (d.length = 8)) d := fun w1 g c hx hr => mem_bts g _ c d w1 hr hK hx.tab
theorem vlb_memoryValidate (d : List UInt8) (_hd : d.length = 8) : Vlb K f 168 (fun d => decide (d.length = 8)) d := fun w1 _g c _hx hr => mem_val _ _ c d w1 hr
theorem protoX_pk (hK : 18446744073709551616 ≤ K) {k : Nat} {X : ProtoX} (h : protoX k = some X) : PK K f X (okD k) := by
  unfold protoX at h
  split at h <;> cases h
  · exact .fixn 4 127 128 (fun d => true) ⟨by decide, by decide⟩ rfl rfl en_ip4BtS (bts_ip4BtS hK) fun _ => rfl
  · exact .fixn 2 129 130 (fun d => true) ⟨by decide, by decide⟩ rfl rfl en_portBtS (bts_portBtS hK) fun _ => rfl
  · exact .fixn 2 129 130 (fun d => true) ⟨by decide, by decide⟩ rfl rfl en_portBtS (bts_portBtS hK) fun _ => rfl
  · exact .fixn 16 134 135 (fun d => true) ⟨by decide, by decide⟩ rfl rfl en_ip6BtS (bts_ip6BtS hK) fun _ => rfl
  · exact .var 136 137 138 (fun d => decide (d.length ≠ 0)) (fun d => nameOk d) rfl rfl en_ip6zoneBtS en_ip6zoneVal (bts_ip6zoneBtS hK) vlb_ip6zoneVal fun _ => rfl
  · exact .fixf 1 139 140 141 (fun d => decide (d.length = 1)) (fun d => decide (d.length = 1)) ⟨by decide, by decide⟩ rfl rfl en_ipcidrBtS en_ipcidrValidate (bts_ipcidrBtS hK) vlb_ipcidrValidate fun _ => rfl
  · exact .var 131 132 133 (fun d => true) (fun d => nameOk d) rfl rfl en_dnsBtS en_dnsVal (bts_dnsBtS hK) vlb_dnsVal fun _ => rfl
  · exact .var 131 132 133 (fun d => true) (fun d => nameOk d) rfl rfl en_dnsBtS en_dnsVal (bts_dnsBtS hK) vlb_dnsVal fun _ => rfl
  · exact .var 131 132 133 (fun d => true) (fun d => nameOk d) rfl rfl en_dnsBtS en_dnsVal (bts_dnsBtS hK) vlb_dnsVal fun _ => rfl
  · exact .var 131 132 133 (fun d => true) (fun d => nameOk d) rfl rfl en_dnsBtS en_dnsVal (bts_dnsBtS hK) vlb_dnsVal fun _ => rfl
  · exact .fixn 2 129 130 (fun d => true) ⟨by decide, by decide⟩ rfl rfl en_portBtS (bts_portBtS hK) fun _ => rfl
  · exact .fixn 2 129 130 (fun d => true) ⟨by decide, by decide⟩ rfl rfl en_portBtS (bts_portBtS hK) fun _ => rfl
  · exact .none rfl rfl fun _ => rfl
  · exact .none rfl rfl fun _ => rfl
  · exact .none rfl rfl fun _ => rfl
  · exact .none rfl rfl fun _ => rfl
  · exact .none rfl rfl fun _ => rfl
  · exact .none rfl rfl fun _ => rfl
  · exact .var 163 164 165 (fun d => true) (fun d => decide (2 ≤ d.length ∧ d.head? = some 47 ∧ d.getLast? ≠ some 47)) rfl rfl en_unixBtS en_unixValidate (bts_unixBtS hK) vlb_unixValidate fun _ => rfl
  · exact .var 160 161 162 (fun d => (mhOk d).isSome) (fun d => idOk d) rfl rfl en_p2pBtS en_p2pVal (bts_p2pBtS hK) vlb_p2pVal fun _ => rfl
  · exact .none rfl rfl fun _ => rfl
  · exact .fixf 12 142 143 144 (fun d => nz2 d 10) (fun d => (decide (d.length = 12) && nz2 d 10)) ⟨by decide, by decide⟩ rfl rfl en_onionBtS en_onionValidate (bts_onionBtS hK) vlb_onionValidate fun _ => rfl
  · exact .fixf 37 145 146 147 (fun d => nz2 d 35) (fun d => (decide (d.length = 37) && nz2 d 35)) ⟨by decide, by decide⟩ rfl rfl en_onion3BtS en_onion3Validate (bts_onion3BtS hK) vlb_onion3Validate fun _ => rfl
  · exact .var 148 149 150 (fun d => decide (386 ≤ d.length)) (fun d => decide (386 ≤ d.length)) rfl rfl en_garlic64BtS en_garlic64Validate (bts_garlic64BtS hK) vlb_garlic64Validate fun _ => rfl
  · exact .var 151 152 153 (fun d => decide (35 ≤ d.length ∨ d.length = 32)) (fun d => decide (35 ≤ d.length ∨ d.length = 32)) rfl rfl en_garlic32BtS en_garlic32Validate (bts_garlic32BtS hK) vlb_garlic32Validate fun _ => rfl
  · exact .none rfl rfl fun _ => rfl
  · exact .var 131 132 133 (fun d => true) (fun d => nameOk d) rfl rfl en_dnsBtS en_dnsVal (bts_dnsBtS hK) vlb_dnsVal fun _ => rfl
  · exact .none rfl rfl fun _ => rfl
  · exact .none rfl rfl fun _ => rfl
  · exact .none rfl rfl fun _ => rfl
  · exact .none rfl rfl fun _ => rfl
  · exact .var 154 155 156 (fun d => true) (fun d => (mhOk d).isSome) rfl rfl en_certHashBtS en_validateCertHash (bts_certHashBtS hK) vlb_validateCertHash fun _ => rfl
  · exact .none rfl rfl fun _ => rfl
  · exact .none rfl rfl fun _ => rfl
  · exact .none rfl rfl fun _ => rfl
  · exact .var 157 158 159 (fun d => decide (d.length ≠ 0)) (fun d => decide (d.length ≠ 0)) rfl rfl en_httpPathBtS en_validateHTTPPath (bts_httpPathBtS hK) vlb_validateHTTPPath fun _ => rfl
  · exact .fixf 8 166 167 168 (fun d => decide (d.length = 8)) (fun d => decide (d.length = 8)) ⟨by decide, by decide⟩ rfl rfl en_memoryBtS en_memoryValidate (bts_memoryBtS hK) vlb_memoryValidate fun _ => rfl
  · exact .none rfl rfl fun _ => rfl
def Shape (X : ProtoX) (cl : List UInt8) (vs : Nat) (d : List UInt8) : Prop :=
  (X.size = 0 ∧ cl = X.vc ∧ vs = X.vc.length ∧ d = []) ∨ (0 < X.size ∧ cl = X.vc ++ d ∧ vs = X.vc.length ∧ X.size = ((8 * d.length : Nat) : Int)) ∨
  (X.size < 0 ∧ ∃ vb, cl = X.vc ++ (vb ++ d) ∧ vs = X.vc.length + vb.length ∧ 0 < vb.length ∧ vb.length ≤ 9 ∧ rvc (vb ++ d) = some (d.length, vb.length) ∧ 0 < d.length ∧ d.length ≤ 1000)
theorem valid_x (hK : 18446744073709551616 ≤ K) {k : Nat} {X : ProtoX} (hX : protoX k = some X) (hv0 : 0 < X.vc.length) (hv9 : X.vc.length ≤ 10) (q p g vs : Nat) (cl d : List UInt8) (w : World) (hE : EnvX K f w) (hC : CmX w q cl p vs g ⟨X.name.toArray⟩ k X.size X.path X.tc X.vc) (hsh : Shape X cl vs d) :
    Calls Tryz.prog 64 #[.pointer (some ⟨q, 0, none⟩)] w (OutVal (okD k d) w) := by
  have hval := fun (w1 : World) (hb : Below w.heap.size w w1) => hC.below hb
  rcases protoX_pk (f := f) hK hX with ⟨hs, ht, ho⟩ | ⟨m, a, b, okb, hm, hs, ht, he, hb, ho⟩ | ⟨m, a, b, c, okb, okv, hm, hs, ht, he, hec, hb, hv, ho⟩ | ⟨a, b, c, okb, okv, hs, ht, he, hec, hb, hv, ho⟩
  · rcases hsh with ⟨_, rfl, rfl, rfl⟩ | ⟨h, _⟩ | ⟨h, _⟩
    · rw [ho]
      rw [hs, ht] at hC
      exact validx_0 q _ X.vc [] p g _ k X.path w hE rfl hC hv0 hv9 (by simp) fun w1 _ hb1 => valuex_none X q _ p _ g k ht w1 (hval w1 hb1).comp (hval w1 hb1).prot
    · omega
    · omega
  · rcases hsh with ⟨h, _⟩ | ⟨_, rfl, rfl, hd⟩ | ⟨h, _⟩
    · omega
    · have hdm : d.length = m := by omega
      have hdd : (X.vc ++ d).drop X.vc.length = d := List.drop_left
      rw [ho]
      have hC2 := hC
      rw [hs, ht] at hC2
      exact validx_n q _ X.vc d p g _ k X.path a b (okb d) w hE (8 * m) m rfl hdm hm.2 hC2 hv0 hv9 rfl fun w1 hx hb1 => by
        have := valuex_some f okb X q (X.vc ++ d) p X.vc.length g k a b .nilFunc (.inl rfl) ht he w1 hx (hval w1 hb1).comp (hval w1 hb1).prot (by simp) (by simp; omega) (by rw [hdd]; exact hb d hdm)
        rwa [hdd] at this
    · omega
  · rcases hsh with ⟨h, _⟩ | ⟨_, rfl, rfl, hd⟩ | ⟨h, _⟩
    · omega
    · have hdm : d.length = m := by omega
      have hdd : (X.vc ++ d).drop X.vc.length = d := List.drop_left
      rw [ho]
      have hC2 := hC
      rw [hs, ht] at hC2
      exact validx_f q _ X.vc d p g _ k X.path a b c (okb d) w hE (8 * m) m rfl hdm hm.2 okv hec (hv d hdm) hC2 hv0 hv9 rfl fun w1 hx hb1 => by
        have := valuex_some f okb X q (X.vc ++ d) p X.vc.length g k a b (fnv c) (.inr ⟨c, rfl⟩) ht he w1 hx (hval w1 hb1).comp (hval w1 hb1).prot (by simp) (by simp; omega) (by rw [hdd]; exact hb d hdm)
        rwa [hdd] at this
    · omega
  · rcases hsh with ⟨h, _⟩ | ⟨h, _⟩ | ⟨_, vb, rfl, rfl, hvb, hvb9, hrv, hd0, hd1⟩
    · omega
    · omega
    · have hdd : (X.vc ++ (vb ++ d)).drop (X.vc.length + vb.length) = d := by rw [← List.append_assoc, show X.vc.length + vb.length = (X.vc ++ vb).length by simp, List.drop_left]
      rw [ho]
      have hC2 := hC
      rw [hs, ht] at hC2
      exact validx_v q _ X.vc d p g _ k X.path a b c (okb d) w hE vb hvb hvb9 hrv hd1 okv hec (hv d hd0 hd1) hC2 hv0 hv9 rfl fun w1 hx hb1 => by
        have := valuex_some f okb X q (X.vc ++ (vb ++ d)) p (X.vc.length + vb.length) g k a b (fnv c) (.inr ⟨c, rfl⟩) ht he w1 hx (hval w1 hb1).comp (hval w1 hb1).prot (by first | (simp; done) | (simp; omega)) (by simp; omega) (by rw [hdd]; exact hb d hd0 hd1)
        rwa [hdd] at this
end Go.Proofs.YtghddiboggdhcaaGreatDoor
/- Protocols by their codes: zzCoded, ProtocolWithCode, zzPtr. -/
namespace Go.Proofs.YtghddiboggdhcaaGreatDoor
open Go.RowKit
def OutXP (X : ProtoX) (k : Nat) (w : World) (e : Ending) (w' : World) : Prop :=
  ∃ p g, e = .returned (.pointer (some ⟨p, 0, none⟩)) ∧ w.heap.size ≤ p ∧ w.heap.size ≤ g ∧ p ≠ g ∧ Blk w' p 77 (xcells X k g) ∧ Blk w' g 5 (bv X.vc).toArray ∧ Below w.heap.size w w'
theorem xcells_one {X : ProtoX} {k g : Nat} (h : X.tc.oneCell' = true) : (xcells X k g).all (·.oneCell') = true := by
  simp only [xcells, List.all_toArray, List.all_cons, List.all_nil, h]
  rfl
theorem pcodex_4 (w : World) : Calls Tryz.prog 62 #[.int .i64 4] w (OutX x4 4 w) := (pcode_4 w).mono fun _ _ h => h
theorem ptrx_4 (w : World) : Calls Tryz.prog 63 #[.int .i64 4] w (OutXP x4 4 w) := (ptr_4 w).mono fun _ _ h => h
theorem pcodex_6 (w : World) : Calls Tryz.prog 62 #[.int .i64 6] w (OutX x6 6 w) := (pcode_6 w).mono fun _ _ h => h
theorem ptrx_6 (w : World) : Calls Tryz.prog 63 #[.int .i64 6] w (OutXP x6 6 w) := (ptr_6 w).mono fun _ _ h => h
theorem codedx_33 (w : World) : Calls Tryz.prog 69 #[.int .i64 33] w (OutX x33 33 w) := by
  go_enter Tryz.func69, Tryz.ntmps69
  go_wp2_with (go_at_call 78; refine (px_33 _).mono ?_; rintro e w1 ⟨g, rfl, hg, hr, hb⟩; have hk := Lib.hid ((Blk.new w 77 pzero).below hb (by simp)); have Hb := Lib.hid hb; have Hr := Lib.hid hr; have hgg := Lib.hid (show w.heap.size + 1 ≤ g by simpa using hg); clear hr hb hg)
  rw [run_storeCells_row _ w.heap.size 77 pzero (xcells x33 33 g) hk.out rfl (xcells_one rfl)]
  go_wp2_with fail
  have hbb := ((Below.refl _ w).alloc (Nat.le_refl _) (.cells pzero 77)).trans (Hb.out.mono (by simp))
  exact bodyPost_ret (results_cell_row rfl _ _ w.heap.size 77 (xcells x33 33 g) (0, 0) _ rfl (hk.out.row _) Tryz.underlying77 rfl (proto_size.trans rfl)) rfl
    ⟨g, rfl, Nat.le_of_succ_le hgg.out, Hr.out.rowFar (by have := hgg.out; omega) _, below_setRow hbb (Nat.le_refl _) _⟩
theorem pcodex_33 (w : World) : Calls Tryz.prog 62 #[.int .i64 33] w (OutX x33 33 w) := by
  go_enter Tryz.func62, Tryz.ntmps62
  go_wp2_with (go_at_call 69; refine (codedx_33 _).mono ?_; rintro e w1 ⟨g, rfl, hg, hr, hb⟩; have hk := Lib.hid ((Blk.new w 77 pzero).below hb (by simp)); have Hb := Lib.hid hb; have Hr := Lib.hid hr; have hgg := Lib.hid (show w.heap.size + 1 ≤ g by simpa using hg); clear hr hb hg)
  rw [run_storeCells_row _ w.heap.size 77 pzero (xcells x33 33 g) hk.out rfl (xcells_one rfl)]
  go_wp2_with fail
  have hbb := ((Below.refl _ w).alloc (Nat.le_refl _) (.cells pzero 77)).trans (Hb.out.mono (by simp))
  exact bodyPost_ret (results_cell_row rfl _ _ w.heap.size 77 (xcells x33 33 g) (0, 0) _ rfl (hk.out.row _) Tryz.underlying77 rfl (proto_size.trans rfl)) rfl
    ⟨g, rfl, Nat.le_of_succ_le hgg.out, Hr.out.rowFar (by have := hgg.out; omega) _, below_setRow hbb (Nat.le_refl _) _⟩
theorem ptrx_33 (w : World) : Calls Tryz.prog 63 #[.int .i64 33] w (OutXP x33 33 w) := by
  go_enter Tryz.func63, Tryz.ntmps63
  go_wp2_with (go_at_call 69; refine (codedx_33 _).mono ?_; rintro e w1 ⟨g, rfl, hg, hr, hb⟩; have Hb := Lib.hid hb; have Hr := Lib.hid hr; have hgg := Lib.hid hg; clear hr hb hg)
  rw [run_storeCells_new w1 77 #[.string ⟨#[]⟩, .int .i64 0, .slice none 0 0, .int .i64 0, .bool false, .nilIface] (xcells x33 33 g) rfl (xcells_one rfl)]
  have hk := Blk.new w1 77 (xcells x33 33 g)
  have c1 : (w1.alloc (.cells (xcells x33 33 g) 77)).cell? ⟨w1.heap.size, 1, none⟩ = some (.int .i64 33) := hk.cell 1
  have HK := Lib.hid hk
  clear hk
  go_wp2_with fail
  go_ret
  exact ⟨w1.heap.size, g, rfl, Hb.out.size, hgg.out, Nat.ne_of_gt Hr.out.lt, HK.out, Hr.out.alloc _, Hb.out.alloc Hb.out.size _⟩
theorem pcodex_41 (w : World) : Calls Tryz.prog 62 #[.int .i64 41] w (OutX x41 41 w) := (pcode_41 w).mono fun _ _ h => h
theorem ptrx_41 (w : World) : Calls Tryz.prog 63 #[.int .i64 41] w (OutXP x41 41 w) := (ptr_41 w).mono fun _ _ h => h
theorem codedx_42 (w : World) : Calls Tryz.prog 69 #[.int .i64 42] w (OutX x42 42 w) := by
  go_enter Tryz.func69, Tryz.ntmps69
  go_wp2_with (go_at_call 80; refine (px_42 _).mono ?_; rintro e w1 ⟨g, rfl, hg, hr, hb⟩; have hk := Lib.hid ((Blk.new w 77 pzero).below hb (by simp)); have Hb := Lib.hid hb; have Hr := Lib.hid hr; have hgg := Lib.hid (show w.heap.size + 1 ≤ g by simpa using hg); clear hr hb hg)
  rw [run_storeCells_row _ w.heap.size 77 pzero (xcells x42 42 g) hk.out rfl (xcells_one rfl)]
  go_wp2_with fail
  have hbb := ((Below.refl _ w).alloc (Nat.le_refl _) (.cells pzero 77)).trans (Hb.out.mono (by simp))
  exact bodyPost_ret (results_cell_row rfl _ _ w.heap.size 77 (xcells x42 42 g) (0, 0) _ rfl (hk.out.row _) Tryz.underlying77 rfl (proto_size.trans rfl)) rfl
    ⟨g, rfl, Nat.le_of_succ_le hgg.out, Hr.out.rowFar (by have := hgg.out; omega) _, below_setRow hbb (Nat.le_refl _) _⟩
theorem pcodex_42 (w : World) : Calls Tryz.prog 62 #[.int .i64 42] w (OutX x42 42 w) := by
  go_enter Tryz.func62, Tryz.ntmps62
  go_wp2_with (go_at_call 69; refine (codedx_42 _).mono ?_; rintro e w1 ⟨g, rfl, hg, hr, hb⟩; have hk := Lib.hid ((Blk.new w 77 pzero).below hb (by simp)); have Hb := Lib.hid hb; have Hr := Lib.hid hr; have hgg := Lib.hid (show w.heap.size + 1 ≤ g by simpa using hg); clear hr hb hg)
  rw [run_storeCells_row _ w.heap.size 77 pzero (xcells x42 42 g) hk.out rfl (xcells_one rfl)]
  go_wp2_with fail
  have hbb := ((Below.refl _ w).alloc (Nat.le_refl _) (.cells pzero 77)).trans (Hb.out.mono (by simp))
  exact bodyPost_ret (results_cell_row rfl _ _ w.heap.size 77 (xcells x42 42 g) (0, 0) _ rfl (hk.out.row _) Tryz.underlying77 rfl (proto_size.trans rfl)) rfl
    ⟨g, rfl, Nat.le_of_succ_le hgg.out, Hr.out.rowFar (by have := hgg.out; omega) _, below_setRow hbb (Nat.le_refl _) _⟩
theorem ptrx_42 (w : World) : Calls Tryz.prog 63 #[.int .i64 42] w (OutXP x42 42 w) := by
  go_enter Tryz.func63, Tryz.ntmps63
  go_wp2_with (go_at_call 69; refine (codedx_42 _).mono ?_; rintro e w1 ⟨g, rfl, hg, hr, hb⟩; have Hb := Lib.hid hb; have Hr := Lib.hid hr; have hgg := Lib.hid hg; clear hr hb hg)
  rw [run_storeCells_new w1 77 #[.string ⟨#[]⟩, .int .i64 0, .slice none 0 0, .int .i64 0, .bool false, .nilIface] (xcells x42 42 g) rfl (xcells_one rfl)]
  have hk := Blk.new w1 77 (xcells x42 42 g)
  have c1 : (w1.alloc (.cells (xcells x42 42 g) 77)).cell? ⟨w1.heap.size, 1, none⟩ = some (.int .i64 42) := hk.cell 1
  have HK := Lib.hid hk
  clear hk
  go_wp2_with fail
  go_ret
  exact ⟨w1.heap.size, g, rfl, Hb.out.size, hgg.out, Nat.ne_of_gt Hr.out.lt, HK.out, Hr.out.alloc _, Hb.out.alloc Hb.out.size _⟩
theorem codedx_43 (w : World) : Calls Tryz.prog 69 #[.int .i64 43] w (OutX x43 43 w) := by
  go_enter Tryz.func69, Tryz.ntmps69
  go_wp2_with (go_at_call 81; refine (px_43 _).mono ?_; rintro e w1 ⟨g, rfl, hg, hr, hb⟩; have hk := Lib.hid ((Blk.new w 77 pzero).below hb (by simp)); have Hb := Lib.hid hb; have Hr := Lib.hid hr; have hgg := Lib.hid (show w.heap.size + 1 ≤ g by simpa using hg); clear hr hb hg)
  rw [run_storeCells_row _ w.heap.size 77 pzero (xcells x43 43 g) hk.out rfl (xcells_one rfl)]
  go_wp2_with fail
  have hbb := ((Below.refl _ w).alloc (Nat.le_refl _) (.cells pzero 77)).trans (Hb.out.mono (by simp))
  exact bodyPost_ret (results_cell_row rfl _ _ w.heap.size 77 (xcells x43 43 g) (0, 0) _ rfl (hk.out.row _) Tryz.underlying77 rfl (proto_size.trans rfl)) rfl
    ⟨g, rfl, Nat.le_of_succ_le hgg.out, Hr.out.rowFar (by have := hgg.out; omega) _, below_setRow hbb (Nat.le_refl _) _⟩
theorem pcodex_43 (w : World) : Calls Tryz.prog 62 #[.int .i64 43] w (OutX x43 43 w) := by
  go_enter Tryz.func62, Tryz.ntmps62
  go_wp2_with (go_at_call 69; refine (codedx_43 _).mono ?_; rintro e w1 ⟨g, rfl, hg, hr, hb⟩; have hk := Lib.hid ((Blk.new w 77 pzero).below hb (by simp)); have Hb := Lib.hid hb; have Hr := Lib.hid hr; have hgg := Lib.hid (show w.heap.size + 1 ≤ g by simpa using hg); clear hr hb hg)
  rw [run_storeCells_row _ w.heap.size 77 pzero (xcells x43 43 g) hk.out rfl (xcells_one rfl)]
  go_wp2_with fail
  have hbb := ((Below.refl _ w).alloc (Nat.le_refl _) (.cells pzero 77)).trans (Hb.out.mono (by simp))
  exact bodyPost_ret (results_cell_row rfl _ _ w.heap.size 77 (xcells x43 43 g) (0, 0) _ rfl (hk.out.row _) Tryz.underlying77 rfl (proto_size.trans rfl)) rfl
    ⟨g, rfl, Nat.le_of_succ_le hgg.out, Hr.out.rowFar (by have := hgg.out; omega) _, below_setRow hbb (Nat.le_refl _) _⟩
theorem ptrx_43 (w : World) : Calls Tryz.prog 63 #[.int .i64 43] w (OutXP x43 43 w) := by
  go_enter Tryz.func63, Tryz.ntmps63
  go_wp2_with (go_at_call 69; refine (codedx_43 _).mono ?_; rintro e w1 ⟨g, rfl, hg, hr, hb⟩; have Hb := Lib.hid hb; have Hr := Lib.hid hr; have hgg := Lib.hid hg; clear hr hb hg)
  rw [run_storeCells_new w1 77 #[.string ⟨#[]⟩, .int .i64 0, .slice none 0 0, .int .i64 0, .bool false, .nilIface] (xcells x43 43 g) rfl (xcells_one rfl)]
  have hk := Blk.new w1 77 (xcells x43 43 g)
  have c1 : (w1.alloc (.cells (xcells x43 43 g) 77)).cell? ⟨w1.heap.size, 1, none⟩ = some (.int .i64 43) := hk.cell 1
  have HK := Lib.hid hk
  clear hk
  go_wp2_with fail
  go_ret
  exact ⟨w1.heap.size, g, rfl, Hb.out.size, hgg.out, Nat.ne_of_gt Hr.out.lt, HK.out, Hr.out.alloc _, Hb.out.alloc Hb.out.size _⟩
theorem codedx_53 (w : World) : Calls Tryz.prog 69 #[.int .i64 53] w (OutX x53 53 w) := by
  go_enter Tryz.func69, Tryz.ntmps69
  go_wp2_with (go_at_call 73; refine (px_53 _).mono ?_; rintro e w1 ⟨g, rfl, hg, hr, hb⟩; have hk := Lib.hid ((Blk.new w 77 pzero).below hb (by simp)); have Hb := Lib.hid hb; have Hr := Lib.hid hr; have hgg := Lib.hid (show w.heap.size + 1 ≤ g by simpa using hg); clear hr hb hg)
  rw [run_storeCells_row _ w.heap.size 77 pzero (xcells x53 53 g) hk.out rfl (xcells_one rfl)]
  go_wp2_with fail
  have hbb := ((Below.refl _ w).alloc (Nat.le_refl _) (.cells pzero 77)).trans (Hb.out.mono (by simp))
  exact bodyPost_ret (results_cell_row rfl _ _ w.heap.size 77 (xcells x53 53 g) (0, 0) _ rfl (hk.out.row _) Tryz.underlying77 rfl (proto_size.trans rfl)) rfl
    ⟨g, rfl, Nat.le_of_succ_le hgg.out, Hr.out.rowFar (by have := hgg.out; omega) _, below_setRow hbb (Nat.le_refl _) _⟩
theorem pcodex_53 (w : World) : Calls Tryz.prog 62 #[.int .i64 53] w (OutX x53 53 w) := by
  go_enter Tryz.func62, Tryz.ntmps62
  go_wp2_with (go_at_call 69; refine (codedx_53 _).mono ?_; rintro e w1 ⟨g, rfl, hg, hr, hb⟩; have hk := Lib.hid ((Blk.new w 77 pzero).below hb (by simp)); have Hb := Lib.hid hb; have Hr := Lib.hid hr; have hgg := Lib.hid (show w.heap.size + 1 ≤ g by simpa using hg); clear hr hb hg)
  rw [run_storeCells_row _ w.heap.size 77 pzero (xcells x53 53 g) hk.out rfl (xcells_one rfl)]
  go_wp2_with fail
  have hbb := ((Below.refl _ w).alloc (Nat.le_refl _) (.cells pzero 77)).trans (Hb.out.mono (by simp))
  exact bodyPost_ret (results_cell_row rfl _ _ w.heap.size 77 (xcells x53 53 g) (0, 0) _ rfl (hk.out.row _) Tryz.underlying77 rfl (proto_size.trans rfl)) rfl
    ⟨g, rfl, Nat.le_of_succ_le hgg.out, Hr.out.rowFar (by have := hgg.out; omega) _, below_setRow hbb (Nat.le_refl _) _⟩
theorem ptrx_53 (w : World) : Calls Tryz.prog 63 #[.int .i64 53] w (OutXP x53 53 w) := by
  go_enter Tryz.func63, Tryz.ntmps63
  go_wp2_with (go_at_call 69; refine (codedx_53 _).mono ?_; rintro e w1 ⟨g, rfl, hg, hr, hb⟩; have Hb := Lib.hid hb; have Hr := Lib.hid hr; have hgg := Lib.hid hg; clear hr hb hg)
  rw [run_storeCells_new w1 77 #[.string ⟨#[]⟩, .int .i64 0, .slice none 0 0, .int .i64 0, .bool false, .nilIface] (xcells x53 53 g) rfl (xcells_one rfl)]
  have hk := Blk.new w1 77 (xcells x53 53 g)
  have c1 : (w1.alloc (.cells (xcells x53 53 g) 77)).cell? ⟨w1.heap.size, 1, none⟩ = some (.int .i64 53) := hk.cell 1
  have HK := Lib.hid hk
  clear hk
  go_wp2_with fail
  go_ret
  exact ⟨w1.heap.size, g, rfl, Hb.out.size, hgg.out, Nat.ne_of_gt Hr.out.lt, HK.out, Hr.out.alloc _, Hb.out.alloc Hb.out.size _⟩
theorem codedx_54 (w : World) : Calls Tryz.prog 69 #[.int .i64 54] w (OutX x54 54 w) := by
  go_enter Tryz.func69, Tryz.ntmps69
  go_wp2_with (go_at_call 74; refine (px_54 _).mono ?_; rintro e w1 ⟨g, rfl, hg, hr, hb⟩; have hk := Lib.hid ((Blk.new w 77 pzero).below hb (by simp)); have Hb := Lib.hid hb; have Hr := Lib.hid hr; have hgg := Lib.hid (show w.heap.size + 1 ≤ g by simpa using hg); clear hr hb hg)
  rw [run_storeCells_row _ w.heap.size 77 pzero (xcells x54 54 g) hk.out rfl (xcells_one rfl)]
  go_wp2_with fail
  have hbb := ((Below.refl _ w).alloc (Nat.le_refl _) (.cells pzero 77)).trans (Hb.out.mono (by simp))
  exact bodyPost_ret (results_cell_row rfl _ _ w.heap.size 77 (xcells x54 54 g) (0, 0) _ rfl (hk.out.row _) Tryz.underlying77 rfl (proto_size.trans rfl)) rfl
    ⟨g, rfl, Nat.le_of_succ_le hgg.out, Hr.out.rowFar (by have := hgg.out; omega) _, below_setRow hbb (Nat.le_refl _) _⟩
theorem pcodex_54 (w : World) : Calls Tryz.prog 62 #[.int .i64 54] w (OutX x54 54 w) := by
  go_enter Tryz.func62, Tryz.ntmps62
  go_wp2_with (go_at_call 69; refine (codedx_54 _).mono ?_; rintro e w1 ⟨g, rfl, hg, hr, hb⟩; have hk := Lib.hid ((Blk.new w 77 pzero).below hb (by simp)); have Hb := Lib.hid hb; have Hr := Lib.hid hr; have hgg := Lib.hid (show w.heap.size + 1 ≤ g by simpa using hg); clear hr hb hg)
  rw [run_storeCells_row _ w.heap.size 77 pzero (xcells x54 54 g) hk.out rfl (xcells_one rfl)]
  go_wp2_with fail
  have hbb := ((Below.refl _ w).alloc (Nat.le_refl _) (.cells pzero 77)).trans (Hb.out.mono (by simp))
  exact bodyPost_ret (results_cell_row rfl _ _ w.heap.size 77 (xcells x54 54 g) (0, 0) _ rfl (hk.out.row _) Tryz.underlying77 rfl (proto_size.trans rfl)) rfl
    ⟨g, rfl, Nat.le_of_succ_le hgg.out, Hr.out.rowFar (by have := hgg.out; omega) _, below_setRow hbb (Nat.le_refl _) _⟩
theorem ptrx_54 (w : World) : Calls Tryz.prog 63 #[.int .i64 54] w (OutXP x54 54 w) := by
  go_enter Tryz.func63, Tryz.ntmps63
  go_wp2_with (go_at_call 69; refine (codedx_54 _).mono ?_; rintro e w1 ⟨g, rfl, hg, hr, hb⟩; have Hb := Lib.hid hb; have Hr := Lib.hid hr; have hgg := Lib.hid hg; clear hr hb hg)
  rw [run_storeCells_new w1 77 #[.string ⟨#[]⟩, .int .i64 0, .slice none 0 0, .int .i64 0, .bool false, .nilIface] (xcells x54 54 g) rfl (xcells_one rfl)]
  have hk := Blk.new w1 77 (xcells x54 54 g)
  have c1 : (w1.alloc (.cells (xcells x54 54 g) 77)).cell? ⟨w1.heap.size, 1, none⟩ = some (.int .i64 54) := hk.cell 1
  have HK := Lib.hid hk
  clear hk
  go_wp2_with fail
  go_ret
  exact ⟨w1.heap.size, g, rfl, Hb.out.size, hgg.out, Nat.ne_of_gt Hr.out.lt, HK.out, Hr.out.alloc _, Hb.out.alloc Hb.out.size _⟩
theorem codedx_55 (w : World) : Calls Tryz.prog 69 #[.int .i64 55] w (OutX x55 55 w) := by
  go_enter Tryz.func69, Tryz.ntmps69
  go_wp2_with (go_at_call 75; refine (px_55 _).mono ?_; rintro e w1 ⟨g, rfl, hg, hr, hb⟩; have hk := Lib.hid ((Blk.new w 77 pzero).below hb (by simp)); have Hb := Lib.hid hb; have Hr := Lib.hid hr; have hgg := Lib.hid (show w.heap.size + 1 ≤ g by simpa using hg); clear hr hb hg)
  rw [run_storeCells_row _ w.heap.size 77 pzero (xcells x55 55 g) hk.out rfl (xcells_one rfl)]
  go_wp2_with fail
  have hbb := ((Below.refl _ w).alloc (Nat.le_refl _) (.cells pzero 77)).trans (Hb.out.mono (by simp))
  exact bodyPost_ret (results_cell_row rfl _ _ w.heap.size 77 (xcells x55 55 g) (0, 0) _ rfl (hk.out.row _) Tryz.underlying77 rfl (proto_size.trans rfl)) rfl
    ⟨g, rfl, Nat.le_of_succ_le hgg.out, Hr.out.rowFar (by have := hgg.out; omega) _, below_setRow hbb (Nat.le_refl _) _⟩
theorem pcodex_55 (w : World) : Calls Tryz.prog 62 #[.int .i64 55] w (OutX x55 55 w) := by
  go_enter Tryz.func62, Tryz.ntmps62
  go_wp2_with (go_at_call 69; refine (codedx_55 _).mono ?_; rintro e w1 ⟨g, rfl, hg, hr, hb⟩; have hk := Lib.hid ((Blk.new w 77 pzero).below hb (by simp)); have Hb := Lib.hid hb; have Hr := Lib.hid hr; have hgg := Lib.hid (show w.heap.size + 1 ≤ g by simpa using hg); clear hr hb hg)
  rw [run_storeCells_row _ w.heap.size 77 pzero (xcells x55 55 g) hk.out rfl (xcells_one rfl)]
  go_wp2_with fail
  have hbb := ((Below.refl _ w).alloc (Nat.le_refl _) (.cells pzero 77)).trans (Hb.out.mono (by simp))
  exact bodyPost_ret (results_cell_row rfl _ _ w.heap.size 77 (xcells x55 55 g) (0, 0) _ rfl (hk.out.row _) Tryz.underlying77 rfl (proto_size.trans rfl)) rfl
    ⟨g, rfl, Nat.le_of_succ_le hgg.out, Hr.out.rowFar (by have := hgg.out; omega) _, below_setRow hbb (Nat.le_refl _) _⟩
theorem ptrx_55 (w : World) : Calls Tryz.prog 63 #[.int .i64 55] w (OutXP x55 55 w) := by
  go_enter Tryz.func63, Tryz.ntmps63
  go_wp2_with (go_at_call 69; refine (codedx_55 _).mono ?_; rintro e w1 ⟨g, rfl, hg, hr, hb⟩; have Hb := Lib.hid hb; have Hr := Lib.hid hr; have hgg := Lib.hid hg; clear hr hb hg)
  rw [run_storeCells_new w1 77 #[.string ⟨#[]⟩, .int .i64 0, .slice none 0 0, .int .i64 0, .bool false, .nilIface] (xcells x55 55 g) rfl (xcells_one rfl)]
  have hk := Blk.new w1 77 (xcells x55 55 g)
  have c1 : (w1.alloc (.cells (xcells x55 55 g) 77)).cell? ⟨w1.heap.size, 1, none⟩ = some (.int .i64 55) := hk.cell 1
  have HK := Lib.hid hk
  clear hk
  go_wp2_with fail
  go_ret
  exact ⟨w1.heap.size, g, rfl, Hb.out.size, hgg.out, Nat.ne_of_gt Hr.out.lt, HK.out, Hr.out.alloc _, Hb.out.alloc Hb.out.size _⟩
theorem codedx_56 (w : World) : Calls Tryz.prog 69 #[.int .i64 56] w (OutX x56 56 w) := by
  go_enter Tryz.func69, Tryz.ntmps69
  go_wp2_with (go_at_call 76; refine (px_56 _).mono ?_; rintro e w1 ⟨g, rfl, hg, hr, hb⟩; have hk := Lib.hid ((Blk.new w 77 pzero).below hb (by simp)); have Hb := Lib.hid hb; have Hr := Lib.hid hr; have hgg := Lib.hid (show w.heap.size + 1 ≤ g by simpa using hg); clear hr hb hg)
  rw [run_storeCells_row _ w.heap.size 77 pzero (xcells x56 56 g) hk.out rfl (xcells_one rfl)]
  go_wp2_with fail
  have hbb := ((Below.refl _ w).alloc (Nat.le_refl _) (.cells pzero 77)).trans (Hb.out.mono (by simp))
  exact bodyPost_ret (results_cell_row rfl _ _ w.heap.size 77 (xcells x56 56 g) (0, 0) _ rfl (hk.out.row _) Tryz.underlying77 rfl (proto_size.trans rfl)) rfl
    ⟨g, rfl, Nat.le_of_succ_le hgg.out, Hr.out.rowFar (by have := hgg.out; omega) _, below_setRow hbb (Nat.le_refl _) _⟩
theorem pcodex_56 (w : World) : Calls Tryz.prog 62 #[.int .i64 56] w (OutX x56 56 w) := by
  go_enter Tryz.func62, Tryz.ntmps62
  go_wp2_with (go_at_call 69; refine (codedx_56 _).mono ?_; rintro e w1 ⟨g, rfl, hg, hr, hb⟩; have hk := Lib.hid ((Blk.new w 77 pzero).below hb (by simp)); have Hb := Lib.hid hb; have Hr := Lib.hid hr; have hgg := Lib.hid (show w.heap.size + 1 ≤ g by simpa using hg); clear hr hb hg)
  rw [run_storeCells_row _ w.heap.size 77 pzero (xcells x56 56 g) hk.out rfl (xcells_one rfl)]
  go_wp2_with fail
  have hbb := ((Below.refl _ w).alloc (Nat.le_refl _) (.cells pzero 77)).trans (Hb.out.mono (by simp))
  exact bodyPost_ret (results_cell_row rfl _ _ w.heap.size 77 (xcells x56 56 g) (0, 0) _ rfl (hk.out.row _) Tryz.underlying77 rfl (proto_size.trans rfl)) rfl
    ⟨g, rfl, Nat.le_of_succ_le hgg.out, Hr.out.rowFar (by have := hgg.out; omega) _, below_setRow hbb (Nat.le_refl _) _⟩
theorem ptrx_56 (w : World) : Calls Tryz.prog 63 #[.int .i64 56] w (OutXP x56 56 w) := by
  go_enter Tryz.func63, Tryz.ntmps63
  go_wp2_with (go_at_call 69; refine (codedx_56 _).mono ?_; rintro e w1 ⟨g, rfl, hg, hr, hb⟩; have Hb := Lib.hid hb; have Hr := Lib.hid hr; have hgg := Lib.hid hg; clear hr hb hg)
  rw [run_storeCells_new w1 77 #[.string ⟨#[]⟩, .int .i64 0, .slice none 0 0, .int .i64 0, .bool false, .nilIface] (xcells x56 56 g) rfl (xcells_one rfl)]
  have hk := Blk.new w1 77 (xcells x56 56 g)
  have c1 : (w1.alloc (.cells (xcells x56 56 g) 77)).cell? ⟨w1.heap.size, 1, none⟩ = some (.int .i64 56) := hk.cell 1
  have HK := Lib.hid hk
  clear hk
  go_wp2_with fail
  go_ret
  exact ⟨w1.heap.size, g, rfl, Hb.out.size, hgg.out, Nat.ne_of_gt Hr.out.lt, HK.out, Hr.out.alloc _, Hb.out.alloc Hb.out.size _⟩
end Go.Proofs.YtghddiboggdhcaaGreatDoor
/- Protocols by their codes: zzCoded, ProtocolWithCode, zzPtr. -/
namespace Go.Proofs.YtghddiboggdhcaaGreatDoor
open Go.RowKit
theorem codedx_132 (w : World) : Calls Tryz.prog 69 #[.int .i64 132] w (OutX x132 132 w) := by
  go_enter Tryz.func69, Tryz.ntmps69
  go_wp2_with (go_at_call 82; refine (px_132 _).mono ?_; rintro e w1 ⟨g, rfl, hg, hr, hb⟩; have hk := Lib.hid ((Blk.new w 77 pzero).below hb (by simp)); have Hb := Lib.hid hb; have Hr := Lib.hid hr; have hgg := Lib.hid (show w.heap.size + 1 ≤ g by simpa using hg); clear hr hb hg)
  rw [run_storeCells_row _ w.heap.size 77 pzero (xcells x132 132 g) hk.out rfl (xcells_one rfl)]
  go_wp2_with fail
  have hbb := ((Below.refl _ w).alloc (Nat.le_refl _) (.cells pzero 77)).trans (Hb.out.mono (by simp))
  exact bodyPost_ret (results_cell_row rfl _ _ w.heap.size 77 (xcells x132 132 g) (0, 0) _ rfl (hk.out.row _) Tryz.underlying77 rfl (proto_size.trans rfl)) rfl
    ⟨g, rfl, Nat.le_of_succ_le hgg.out, Hr.out.rowFar (by have := hgg.out; omega) _, below_setRow hbb (Nat.le_refl _) _⟩
theorem pcodex_132 (w : World) : Calls Tryz.prog 62 #[.int .i64 132] w (OutX x132 132 w) := by
  go_enter Tryz.func62, Tryz.ntmps62
  go_wp2_with (go_at_call 69; refine (codedx_132 _).mono ?_; rintro e w1 ⟨g, rfl, hg, hr, hb⟩; have hk := Lib.hid ((Blk.new w 77 pzero).below hb (by simp)); have Hb := Lib.hid hb; have Hr := Lib.hid hr; have hgg := Lib.hid (show w.heap.size + 1 ≤ g by simpa using hg); clear hr hb hg)
  rw [run_storeCells_row _ w.heap.size 77 pzero (xcells x132 132 g) hk.out rfl (xcells_one rfl)]
  go_wp2_with fail
  have hbb := ((Below.refl _ w).alloc (Nat.le_refl _) (.cells pzero 77)).trans (Hb.out.mono (by simp))
  exact bodyPost_ret (results_cell_row rfl _ _ w.heap.size 77 (xcells x132 132 g) (0, 0) _ rfl (hk.out.row _) Tryz.underlying77 rfl (proto_size.trans rfl)) rfl
    ⟨g, rfl, Nat.le_of_succ_le hgg.out, Hr.out.rowFar (by have := hgg.out; omega) _, below_setRow hbb (Nat.le_refl _) _⟩
theorem ptrx_132 (w : World) : Calls Tryz.prog 63 #[.int .i64 132] w (OutXP x132 132 w) := by
  go_enter Tryz.func63, Tryz.ntmps63
  go_wp2_with (go_at_call 69; refine (codedx_132 _).mono ?_; rintro e w1 ⟨g, rfl, hg, hr, hb⟩; have Hb := Lib.hid hb; have Hr := Lib.hid hr; have hgg := Lib.hid hg; clear hr hb hg)
  rw [run_storeCells_new w1 77 #[.string ⟨#[]⟩, .int .i64 0, .slice none 0 0, .int .i64 0, .bool false, .nilIface] (xcells x132 132 g) rfl (xcells_one rfl)]
  have hk := Blk.new w1 77 (xcells x132 132 g)
  have c1 : (w1.alloc (.cells (xcells x132 132 g) 77)).cell? ⟨w1.heap.size, 1, none⟩ = some (.int .i64 132) := hk.cell 1
  have HK := Lib.hid hk
  clear hk
  go_wp2_with fail
  go_ret
  exact ⟨w1.heap.size, g, rfl, Hb.out.size, hgg.out, Nat.ne_of_gt Hr.out.lt, HK.out, Hr.out.alloc _, Hb.out.alloc Hb.out.size _⟩
theorem pcodex_273 (w : World) : Calls Tryz.prog 62 #[.int .i64 273] w (OutX x273 273 w) := (pcode_273 w).mono fun _ _ h => h
theorem ptrx_273 (w : World) : Calls Tryz.prog 63 #[.int .i64 273] w (OutXP x273 273 w) := (ptr_273 w).mono fun _ _ h => h
theorem codedx_276 (w : World) : Calls Tryz.prog 69 #[.int .i64 276] w (OutX x276 276 w) := by
  go_enter Tryz.func69, Tryz.ntmps69
  go_wp2_with (go_at_call 99; refine (px_276 _).mono ?_; rintro e w1 ⟨g, rfl, hg, hr, hb⟩; have hk := Lib.hid ((Blk.new w 77 pzero).below hb (by simp)); have Hb := Lib.hid hb; have Hr := Lib.hid hr; have hgg := Lib.hid (show w.heap.size + 1 ≤ g by simpa using hg); clear hr hb hg)
  rw [run_storeCells_row _ w.heap.size 77 pzero (xcells x276 276 g) hk.out rfl (xcells_one rfl)]
  go_wp2_with fail
  have hbb := ((Below.refl _ w).alloc (Nat.le_refl _) (.cells pzero 77)).trans (Hb.out.mono (by simp))
  exact bodyPost_ret (results_cell_row rfl _ _ w.heap.size 77 (xcells x276 276 g) (0, 0) _ rfl (hk.out.row _) Tryz.underlying77 rfl (proto_size.trans rfl)) rfl
    ⟨g, rfl, Nat.le_of_succ_le hgg.out, Hr.out.rowFar (by have := hgg.out; omega) _, below_setRow hbb (Nat.le_refl _) _⟩
theorem pcodex_276 (w : World) : Calls Tryz.prog 62 #[.int .i64 276] w (OutX x276 276 w) := by
  go_enter Tryz.func62, Tryz.ntmps62
  go_wp2_with (go_at_call 69; refine (codedx_276 _).mono ?_; rintro e w1 ⟨g, rfl, hg, hr, hb⟩; have hk := Lib.hid ((Blk.new w 77 pzero).below hb (by simp)); have Hb := Lib.hid hb; have Hr := Lib.hid hr; have hgg := Lib.hid (show w.heap.size + 1 ≤ g by simpa using hg); clear hr hb hg)
  rw [run_storeCells_row _ w.heap.size 77 pzero (xcells x276 276 g) hk.out rfl (xcells_one rfl)]
  go_wp2_with fail
  have hbb := ((Below.refl _ w).alloc (Nat.le_refl _) (.cells pzero 77)).trans (Hb.out.mono (by simp))
  exact bodyPost_ret (results_cell_row rfl _ _ w.heap.size 77 (xcells x276 276 g) (0, 0) _ rfl (hk.out.row _) Tryz.underlying77 rfl (proto_size.trans rfl)) rfl
    ⟨g, rfl, Nat.le_of_succ_le hgg.out, Hr.out.rowFar (by have := hgg.out; omega) _, below_setRow hbb (Nat.le_refl _) _⟩
theorem ptrx_276 (w : World) : Calls Tryz.prog 63 #[.int .i64 276] w (OutXP x276 276 w) := by
  go_enter Tryz.func63, Tryz.ntmps63
  go_wp2_with (go_at_call 69; refine (codedx_276 _).mono ?_; rintro e w1 ⟨g, rfl, hg, hr, hb⟩; have Hb := Lib.hid hb; have Hr := Lib.hid hr; have hgg := Lib.hid hg; clear hr hb hg)
  rw [run_storeCells_new w1 77 #[.string ⟨#[]⟩, .int .i64 0, .slice none 0 0, .int .i64 0, .bool false, .nilIface] (xcells x276 276 g) rfl (xcells_one rfl)]
  have hk := Blk.new w1 77 (xcells x276 276 g)
  have c1 : (w1.alloc (.cells (xcells x276 276 g) 77)).cell? ⟨w1.heap.size, 1, none⟩ = some (.int .i64 276) := hk.cell 1
  have HK := Lib.hid hk
  clear hk
  go_wp2_with fail
  go_ret
  exact ⟨w1.heap.size, g, rfl, Hb.out.size, hgg.out, Nat.ne_of_gt Hr.out.lt, HK.out, Hr.out.alloc _, Hb.out.alloc Hb.out.size _⟩
theorem codedx_280 (w : World) : Calls Tryz.prog 69 #[.int .i64 280] w (OutX x280 280 w) := by
  go_enter Tryz.func69, Tryz.ntmps69
  go_wp2_with (go_at_call 106; refine (px_280 _).mono ?_; rintro e w1 ⟨g, rfl, hg, hr, hb⟩; have hk := Lib.hid ((Blk.new w 77 pzero).below hb (by simp)); have Hb := Lib.hid hb; have Hr := Lib.hid hr; have hgg := Lib.hid (show w.heap.size + 1 ≤ g by simpa using hg); clear hr hb hg)
  rw [run_storeCells_row _ w.heap.size 77 pzero (xcells x280 280 g) hk.out rfl (xcells_one rfl)]
  go_wp2_with fail
  have hbb := ((Below.refl _ w).alloc (Nat.le_refl _) (.cells pzero 77)).trans (Hb.out.mono (by simp))
  exact bodyPost_ret (results_cell_row rfl _ _ w.heap.size 77 (xcells x280 280 g) (0, 0) _ rfl (hk.out.row _) Tryz.underlying77 rfl (proto_size.trans rfl)) rfl
    ⟨g, rfl, Nat.le_of_succ_le hgg.out, Hr.out.rowFar (by have := hgg.out; omega) _, below_setRow hbb (Nat.le_refl _) _⟩
theorem pcodex_280 (w : World) : Calls Tryz.prog 62 #[.int .i64 280] w (OutX x280 280 w) := by
  go_enter Tryz.func62, Tryz.ntmps62
  go_wp2_with (go_at_call 69; refine (codedx_280 _).mono ?_; rintro e w1 ⟨g, rfl, hg, hr, hb⟩; have hk := Lib.hid ((Blk.new w 77 pzero).below hb (by simp)); have Hb := Lib.hid hb; have Hr := Lib.hid hr; have hgg := Lib.hid (show w.heap.size + 1 ≤ g by simpa using hg); clear hr hb hg)
  rw [run_storeCells_row _ w.heap.size 77 pzero (xcells x280 280 g) hk.out rfl (xcells_one rfl)]
  go_wp2_with fail
  have hbb := ((Below.refl _ w).alloc (Nat.le_refl _) (.cells pzero 77)).trans (Hb.out.mono (by simp))
  exact bodyPost_ret (results_cell_row rfl _ _ w.heap.size 77 (xcells x280 280 g) (0, 0) _ rfl (hk.out.row _) Tryz.underlying77 rfl (proto_size.trans rfl)) rfl
    ⟨g, rfl, Nat.le_of_succ_le hgg.out, Hr.out.rowFar (by have := hgg.out; omega) _, below_setRow hbb (Nat.le_refl _) _⟩
theorem ptrx_280 (w : World) : Calls Tryz.prog 63 #[.int .i64 280] w (OutXP x280 280 w) := by
  go_enter Tryz.func63, Tryz.ntmps63
  go_wp2_with (go_at_call 69; refine (codedx_280 _).mono ?_; rintro e w1 ⟨g, rfl, hg, hr, hb⟩; have Hb := Lib.hid hb; have Hr := Lib.hid hr; have hgg := Lib.hid hg; clear hr hb hg)
  rw [run_storeCells_new w1 77 #[.string ⟨#[]⟩, .int .i64 0, .slice none 0 0, .int .i64 0, .bool false, .nilIface] (xcells x280 280 g) rfl (xcells_one rfl)]
  have hk := Blk.new w1 77 (xcells x280 280 g)
  have c1 : (w1.alloc (.cells (xcells x280 280 g) 77)).cell? ⟨w1.heap.size, 1, none⟩ = some (.int .i64 280) := hk.cell 1
  have HK := Lib.hid hk
  clear hk
  go_wp2_with fail
  go_ret
  exact ⟨w1.heap.size, g, rfl, Hb.out.size, hgg.out, Nat.ne_of_gt Hr.out.lt, HK.out, Hr.out.alloc _, Hb.out.alloc Hb.out.size _⟩
theorem codedx_281 (w : World) : Calls Tryz.prog 69 #[.int .i64 281] w (OutX x281 281 w) := by
  go_enter Tryz.func69, Tryz.ntmps69
  go_wp2_with (go_at_call 107; refine (px_281 _).mono ?_; rintro e w1 ⟨g, rfl, hg, hr, hb⟩; have hk := Lib.hid ((Blk.new w 77 pzero).below hb (by simp)); have Hb := Lib.hid hb; have Hr := Lib.hid hr; have hgg := Lib.hid (show w.heap.size + 1 ≤ g by simpa using hg); clear hr hb hg)
  rw [run_storeCells_row _ w.heap.size 77 pzero (xcells x281 281 g) hk.out rfl (xcells_one rfl)]
  go_wp2_with fail
  have hbb := ((Below.refl _ w).alloc (Nat.le_refl _) (.cells pzero 77)).trans (Hb.out.mono (by simp))
  exact bodyPost_ret (results_cell_row rfl _ _ w.heap.size 77 (xcells x281 281 g) (0, 0) _ rfl (hk.out.row _) Tryz.underlying77 rfl (proto_size.trans rfl)) rfl
    ⟨g, rfl, Nat.le_of_succ_le hgg.out, Hr.out.rowFar (by have := hgg.out; omega) _, below_setRow hbb (Nat.le_refl _) _⟩
theorem pcodex_281 (w : World) : Calls Tryz.prog 62 #[.int .i64 281] w (OutX x281 281 w) := by
  go_enter Tryz.func62, Tryz.ntmps62
  go_wp2_with (go_at_call 69; refine (codedx_281 _).mono ?_; rintro e w1 ⟨g, rfl, hg, hr, hb⟩; have hk := Lib.hid ((Blk.new w 77 pzero).below hb (by simp)); have Hb := Lib.hid hb; have Hr := Lib.hid hr; have hgg := Lib.hid (show w.heap.size + 1 ≤ g by simpa using hg); clear hr hb hg)
  rw [run_storeCells_row _ w.heap.size 77 pzero (xcells x281 281 g) hk.out rfl (xcells_one rfl)]
  go_wp2_with fail
  have hbb := ((Below.refl _ w).alloc (Nat.le_refl _) (.cells pzero 77)).trans (Hb.out.mono (by simp))
  exact bodyPost_ret (results_cell_row rfl _ _ w.heap.size 77 (xcells x281 281 g) (0, 0) _ rfl (hk.out.row _) Tryz.underlying77 rfl (proto_size.trans rfl)) rfl
    ⟨g, rfl, Nat.le_of_succ_le hgg.out, Hr.out.rowFar (by have := hgg.out; omega) _, below_setRow hbb (Nat.le_refl _) _⟩
theorem ptrx_281 (w : World) : Calls Tryz.prog 63 #[.int .i64 281] w (OutXP x281 281 w) := by
  go_enter Tryz.func63, Tryz.ntmps63
  go_wp2_with (go_at_call 69; refine (codedx_281 _).mono ?_; rintro e w1 ⟨g, rfl, hg, hr, hb⟩; have Hb := Lib.hid hb; have Hr := Lib.hid hr; have hgg := Lib.hid hg; clear hr hb hg)
  rw [run_storeCells_new w1 77 #[.string ⟨#[]⟩, .int .i64 0, .slice none 0 0, .int .i64 0, .bool false, .nilIface] (xcells x281 281 g) rfl (xcells_one rfl)]
  have hk := Blk.new w1 77 (xcells x281 281 g)
  have c1 : (w1.alloc (.cells (xcells x281 281 g) 77)).cell? ⟨w1.heap.size, 1, none⟩ = some (.int .i64 281) := hk.cell 1
  have HK := Lib.hid hk
  clear hk
  go_wp2_with fail
  go_ret
  exact ⟨w1.heap.size, g, rfl, Hb.out.size, hgg.out, Nat.ne_of_gt Hr.out.lt, HK.out, Hr.out.alloc _, Hb.out.alloc Hb.out.size _⟩
theorem pcodex_290 (w : World) : Calls Tryz.prog 62 #[.int .i64 290] w (OutX x290 290 w) := (pcode_290 w).mono fun _ _ h => h
theorem ptrx_290 (w : World) : Calls Tryz.prog 63 #[.int .i64 290] w (OutXP x290 290 w) := (ptr_290 w).mono fun _ _ h => h
theorem codedx_301 (w : World) : Calls Tryz.prog 69 #[.int .i64 301] w (OutX x301 301 w) := by
  go_enter Tryz.func69, Tryz.ntmps69
  go_wp2_with (go_at_call 89; refine (px_301 _).mono ?_; rintro e w1 ⟨g, rfl, hg, hr, hb⟩; have hk := Lib.hid ((Blk.new w 77 pzero).below hb (by simp)); have Hb := Lib.hid hb; have Hr := Lib.hid hr; have hgg := Lib.hid (show w.heap.size + 1 ≤ g by simpa using hg); clear hr hb hg)
  rw [run_storeCells_row _ w.heap.size 77 pzero (xcells x301 301 g) hk.out rfl (xcells_one rfl)]
  go_wp2_with fail
  have hbb := ((Below.refl _ w).alloc (Nat.le_refl _) (.cells pzero 77)).trans (Hb.out.mono (by simp))
  exact bodyPost_ret (results_cell_row rfl _ _ w.heap.size 77 (xcells x301 301 g) (0, 0) _ rfl (hk.out.row _) Tryz.underlying77 rfl (proto_size.trans rfl)) rfl
    ⟨g, rfl, Nat.le_of_succ_le hgg.out, Hr.out.rowFar (by have := hgg.out; omega) _, below_setRow hbb (Nat.le_refl _) _⟩
theorem pcodex_301 (w : World) : Calls Tryz.prog 62 #[.int .i64 301] w (OutX x301 301 w) := by
  go_enter Tryz.func62, Tryz.ntmps62
  go_wp2_with (go_at_call 69; refine (codedx_301 _).mono ?_; rintro e w1 ⟨g, rfl, hg, hr, hb⟩; have hk := Lib.hid ((Blk.new w 77 pzero).below hb (by simp)); have Hb := Lib.hid hb; have Hr := Lib.hid hr; have hgg := Lib.hid (show w.heap.size + 1 ≤ g by simpa using hg); clear hr hb hg)
  rw [run_storeCells_row _ w.heap.size 77 pzero (xcells x301 301 g) hk.out rfl (xcells_one rfl)]
  go_wp2_with fail
  have hbb := ((Below.refl _ w).alloc (Nat.le_refl _) (.cells pzero 77)).trans (Hb.out.mono (by simp))
  exact bodyPost_ret (results_cell_row rfl _ _ w.heap.size 77 (xcells x301 301 g) (0, 0) _ rfl (hk.out.row _) Tryz.underlying77 rfl (proto_size.trans rfl)) rfl
    ⟨g, rfl, Nat.le_of_succ_le hgg.out, Hr.out.rowFar (by have := hgg.out; omega) _, below_setRow hbb (Nat.le_refl _) _⟩
theorem ptrx_301 (w : World) : Calls Tryz.prog 63 #[.int .i64 301] w (OutXP x301 301 w) := by
  go_enter Tryz.func63, Tryz.ntmps63
  go_wp2_with (go_at_call 69; refine (codedx_301 _).mono ?_; rintro e w1 ⟨g, rfl, hg, hr, hb⟩; have Hb := Lib.hid hb; have Hr := Lib.hid hr; have hgg := Lib.hid hg; clear hr hb hg)
  rw [run_storeCells_new w1 77 #[.string ⟨#[]⟩, .int .i64 0, .slice none 0 0, .int .i64 0, .bool false, .nilIface] (xcells x301 301 g) rfl (xcells_one rfl)]
  have hk := Blk.new w1 77 (xcells x301 301 g)
  have c1 : (w1.alloc (.cells (xcells x301 301 g) 77)).cell? ⟨w1.heap.size, 1, none⟩ = some (.int .i64 301) := hk.cell 1
  have HK := Lib.hid hk
  clear hk
  go_wp2_with fail
  go_ret
  exact ⟨w1.heap.size, g, rfl, Hb.out.size, hgg.out, Nat.ne_of_gt Hr.out.lt, HK.out, Hr.out.alloc _, Hb.out.alloc Hb.out.size _⟩
theorem codedx_302 (w : World) : Calls Tryz.prog 69 #[.int .i64 302] w (OutX x302 302 w) := by
  go_enter Tryz.func69, Tryz.ntmps69
  go_wp2_with (go_at_call 88; refine (px_302 _).mono ?_; rintro e w1 ⟨g, rfl, hg, hr, hb⟩; have hk := Lib.hid ((Blk.new w 77 pzero).below hb (by simp)); have Hb := Lib.hid hb; have Hr := Lib.hid hr; have hgg := Lib.hid (show w.heap.size + 1 ≤ g by simpa using hg); clear hr hb hg)
  rw [run_storeCells_row _ w.heap.size 77 pzero (xcells x302 302 g) hk.out rfl (xcells_one rfl)]
  go_wp2_with fail
  have hbb := ((Below.refl _ w).alloc (Nat.le_refl _) (.cells pzero 77)).trans (Hb.out.mono (by simp))
  exact bodyPost_ret (results_cell_row rfl _ _ w.heap.size 77 (xcells x302 302 g) (0, 0) _ rfl (hk.out.row _) Tryz.underlying77 rfl (proto_size.trans rfl)) rfl
    ⟨g, rfl, Nat.le_of_succ_le hgg.out, Hr.out.rowFar (by have := hgg.out; omega) _, below_setRow hbb (Nat.le_refl _) _⟩
theorem pcodex_302 (w : World) : Calls Tryz.prog 62 #[.int .i64 302] w (OutX x302 302 w) := by
  go_enter Tryz.func62, Tryz.ntmps62
  go_wp2_with (go_at_call 69; refine (codedx_302 _).mono ?_; rintro e w1 ⟨g, rfl, hg, hr, hb⟩; have hk := Lib.hid ((Blk.new w 77 pzero).below hb (by simp)); have Hb := Lib.hid hb; have Hr := Lib.hid hr; have hgg := Lib.hid (show w.heap.size + 1 ≤ g by simpa using hg); clear hr hb hg)
  rw [run_storeCells_row _ w.heap.size 77 pzero (xcells x302 302 g) hk.out rfl (xcells_one rfl)]
  go_wp2_with fail
  have hbb := ((Below.refl _ w).alloc (Nat.le_refl _) (.cells pzero 77)).trans (Hb.out.mono (by simp))
  exact bodyPost_ret (results_cell_row rfl _ _ w.heap.size 77 (xcells x302 302 g) (0, 0) _ rfl (hk.out.row _) Tryz.underlying77 rfl (proto_size.trans rfl)) rfl
    ⟨g, rfl, Nat.le_of_succ_le hgg.out, Hr.out.rowFar (by have := hgg.out; omega) _, below_setRow hbb (Nat.le_refl _) _⟩
theorem ptrx_302 (w : World) : Calls Tryz.prog 63 #[.int .i64 302] w (OutXP x302 302 w) := by
  go_enter Tryz.func63, Tryz.ntmps63
  go_wp2_with (go_at_call 69; refine (codedx_302 _).mono ?_; rintro e w1 ⟨g, rfl, hg, hr, hb⟩; have Hb := Lib.hid hb; have Hr := Lib.hid hr; have hgg := Lib.hid hg; clear hr hb hg)
  rw [run_storeCells_new w1 77 #[.string ⟨#[]⟩, .int .i64 0, .slice none 0 0, .int .i64 0, .bool false, .nilIface] (xcells x302 302 g) rfl (xcells_one rfl)]
  have hk := Blk.new w1 77 (xcells x302 302 g)
  have c1 : (w1.alloc (.cells (xcells x302 302 g) 77)).cell? ⟨w1.heap.size, 1, none⟩ = some (.int .i64 302) := hk.cell 1
  have HK := Lib.hid hk
  clear hk
  go_wp2_with fail
  go_ret
  exact ⟨w1.heap.size, g, rfl, Hb.out.size, hgg.out, Nat.ne_of_gt Hr.out.lt, HK.out, Hr.out.alloc _, Hb.out.alloc Hb.out.size _⟩
theorem codedx_400 (w : World) : Calls Tryz.prog 69 #[.int .i64 400] w (OutX x400 400 w) := by
  go_enter Tryz.func69, Tryz.ntmps69
  go_wp2_with (go_at_call 98; refine (px_400 _).mono ?_; rintro e w1 ⟨g, rfl, hg, hr, hb⟩; have hk := Lib.hid ((Blk.new w 77 pzero).below hb (by simp)); have Hb := Lib.hid hb; have Hr := Lib.hid hr; have hgg := Lib.hid (show w.heap.size + 1 ≤ g by simpa using hg); clear hr hb hg)
  rw [run_storeCells_row _ w.heap.size 77 pzero (xcells x400 400 g) hk.out rfl (xcells_one rfl)]
  go_wp2_with fail
  have hbb := ((Below.refl _ w).alloc (Nat.le_refl _) (.cells pzero 77)).trans (Hb.out.mono (by simp))
  exact bodyPost_ret (results_cell_row rfl _ _ w.heap.size 77 (xcells x400 400 g) (0, 0) _ rfl (hk.out.row _) Tryz.underlying77 rfl (proto_size.trans rfl)) rfl
    ⟨g, rfl, Nat.le_of_succ_le hgg.out, Hr.out.rowFar (by have := hgg.out; omega) _, below_setRow hbb (Nat.le_refl _) _⟩
theorem pcodex_400 (w : World) : Calls Tryz.prog 62 #[.int .i64 400] w (OutX x400 400 w) := by
  go_enter Tryz.func62, Tryz.ntmps62
  go_wp2_with (go_at_call 69; refine (codedx_400 _).mono ?_; rintro e w1 ⟨g, rfl, hg, hr, hb⟩; have hk := Lib.hid ((Blk.new w 77 pzero).below hb (by simp)); have Hb := Lib.hid hb; have Hr := Lib.hid hr; have hgg := Lib.hid (show w.heap.size + 1 ≤ g by simpa using hg); clear hr hb hg)
  rw [run_storeCells_row _ w.heap.size 77 pzero (xcells x400 400 g) hk.out rfl (xcells_one rfl)]
  go_wp2_with fail
  have hbb := ((Below.refl _ w).alloc (Nat.le_refl _) (.cells pzero 77)).trans (Hb.out.mono (by simp))
  exact bodyPost_ret (results_cell_row rfl _ _ w.heap.size 77 (xcells x400 400 g) (0, 0) _ rfl (hk.out.row _) Tryz.underlying77 rfl (proto_size.trans rfl)) rfl
    ⟨g, rfl, Nat.le_of_succ_le hgg.out, Hr.out.rowFar (by have := hgg.out; omega) _, below_setRow hbb (Nat.le_refl _) _⟩
theorem ptrx_400 (w : World) : Calls Tryz.prog 63 #[.int .i64 400] w (OutXP x400 400 w) := by
  go_enter Tryz.func63, Tryz.ntmps63
  go_wp2_with (go_at_call 69; refine (codedx_400 _).mono ?_; rintro e w1 ⟨g, rfl, hg, hr, hb⟩; have Hb := Lib.hid hb; have Hr := Lib.hid hr; have hgg := Lib.hid hg; clear hr hb hg)
  rw [run_storeCells_new w1 77 #[.string ⟨#[]⟩, .int .i64 0, .slice none 0 0, .int .i64 0, .bool false, .nilIface] (xcells x400 400 g) rfl (xcells_one rfl)]
  have hk := Blk.new w1 77 (xcells x400 400 g)
  have c1 : (w1.alloc (.cells (xcells x400 400 g) 77)).cell? ⟨w1.heap.size, 1, none⟩ = some (.int .i64 400) := hk.cell 1
  have HK := Lib.hid hk
  clear hk
  go_wp2_with fail
  go_ret
  exact ⟨w1.heap.size, g, rfl, Hb.out.size, hgg.out, Nat.ne_of_gt Hr.out.lt, HK.out, Hr.out.alloc _, Hb.out.alloc Hb.out.size _⟩
theorem pcodex_421 (w : World) : Calls Tryz.prog 62 #[.int .i64 421] w (OutX x421 421 w) := (pcode_421 w).mono fun _ _ h => h
theorem ptrx_421 (w : World) : Calls Tryz.prog 63 #[.int .i64 421] w (OutXP x421 421 w) := (ptr_421 w).mono fun _ _ h => h
end Go.Proofs.YtghddiboggdhcaaGreatDoor
/- Protocols by their codes: zzCoded, ProtocolWithCode, zzPtr. -/
namespace Go.Proofs.YtghddiboggdhcaaGreatDoor
open Go.RowKit
theorem codedx_443 (w : World) : Calls Tryz.prog 69 #[.int .i64 443] w (OutX x443 443 w) := by
  go_enter Tryz.func69, Tryz.ntmps69
  go_wp2_with (go_at_call 96; refine (px_443 _).mono ?_; rintro e w1 ⟨g, rfl, hg, hr, hb⟩; have hk := Lib.hid ((Blk.new w 77 pzero).below hb (by simp)); have Hb := Lib.hid hb; have Hr := Lib.hid hr; have hgg := Lib.hid (show w.heap.size + 1 ≤ g by simpa using hg); clear hr hb hg)
  rw [run_storeCells_row _ w.heap.size 77 pzero (xcells x443 443 g) hk.out rfl (xcells_one rfl)]
  go_wp2_with fail
  have hbb := ((Below.refl _ w).alloc (Nat.le_refl _) (.cells pzero 77)).trans (Hb.out.mono (by simp))
  exact bodyPost_ret (results_cell_row rfl _ _ w.heap.size 77 (xcells x443 443 g) (0, 0) _ rfl (hk.out.row _) Tryz.underlying77 rfl (proto_size.trans rfl)) rfl
    ⟨g, rfl, Nat.le_of_succ_le hgg.out, Hr.out.rowFar (by have := hgg.out; omega) _, below_setRow hbb (Nat.le_refl _) _⟩
theorem pcodex_443 (w : World) : Calls Tryz.prog 62 #[.int .i64 443] w (OutX x443 443 w) := by
  go_enter Tryz.func62, Tryz.ntmps62
  go_wp2_with (go_at_call 69; refine (codedx_443 _).mono ?_; rintro e w1 ⟨g, rfl, hg, hr, hb⟩; have hk := Lib.hid ((Blk.new w 77 pzero).below hb (by simp)); have Hb := Lib.hid hb; have Hr := Lib.hid hr; have hgg := Lib.hid (show w.heap.size + 1 ≤ g by simpa using hg); clear hr hb hg)
  rw [run_storeCells_row _ w.heap.size 77 pzero (xcells x443 443 g) hk.out rfl (xcells_one rfl)]
  go_wp2_with fail
  have hbb := ((Below.refl _ w).alloc (Nat.le_refl _) (.cells pzero 77)).trans (Hb.out.mono (by simp))
  exact bodyPost_ret (results_cell_row rfl _ _ w.heap.size 77 (xcells x443 443 g) (0, 0) _ rfl (hk.out.row _) Tryz.underlying77 rfl (proto_size.trans rfl)) rfl
    ⟨g, rfl, Nat.le_of_succ_le hgg.out, Hr.out.rowFar (by have := hgg.out; omega) _, below_setRow hbb (Nat.le_refl _) _⟩
theorem ptrx_443 (w : World) : Calls Tryz.prog 63 #[.int .i64 443] w (OutXP x443 443 w) := by
  go_enter Tryz.func63, Tryz.ntmps63
  go_wp2_with (go_at_call 69; refine (codedx_443 _).mono ?_; rintro e w1 ⟨g, rfl, hg, hr, hb⟩; have Hb := Lib.hid hb; have Hr := Lib.hid hr; have hgg := Lib.hid hg; clear hr hb hg)
  rw [run_storeCells_new w1 77 #[.string ⟨#[]⟩, .int .i64 0, .slice none 0 0, .int .i64 0, .bool false, .nilIface] (xcells x443 443 g) rfl (xcells_one rfl)]
  have hk := Blk.new w1 77 (xcells x443 443 g)
  have c1 : (w1.alloc (.cells (xcells x443 443 g) 77)).cell? ⟨w1.heap.size, 1, none⟩ = some (.int .i64 443) := hk.cell 1
  have HK := Lib.hid hk
  clear hk
  go_wp2_with fail
  go_ret
  exact ⟨w1.heap.size, g, rfl, Hb.out.size, hgg.out, Nat.ne_of_gt Hr.out.lt, HK.out, Hr.out.alloc _, Hb.out.alloc Hb.out.size _⟩
theorem codedx_444 (w : World) : Calls Tryz.prog 69 #[.int .i64 444] w (OutX x444 444 w) := by
  go_enter Tryz.func69, Tryz.ntmps69
  go_wp2_with (go_at_call 84; refine (px_444 _).mono ?_; rintro e w1 ⟨g, rfl, hg, hr, hb⟩; have hk := Lib.hid ((Blk.new w 77 pzero).below hb (by simp)); have Hb := Lib.hid hb; have Hr := Lib.hid hr; have hgg := Lib.hid (show w.heap.size + 1 ≤ g by simpa using hg); clear hr hb hg)
  rw [run_storeCells_row _ w.heap.size 77 pzero (xcells x444 444 g) hk.out rfl (xcells_one rfl)]
  go_wp2_with fail
  have hbb := ((Below.refl _ w).alloc (Nat.le_refl _) (.cells pzero 77)).trans (Hb.out.mono (by simp))
  exact bodyPost_ret (results_cell_row rfl _ _ w.heap.size 77 (xcells x444 444 g) (0, 0) _ rfl (hk.out.row _) Tryz.underlying77 rfl (proto_size.trans rfl)) rfl
    ⟨g, rfl, Nat.le_of_succ_le hgg.out, Hr.out.rowFar (by have := hgg.out; omega) _, below_setRow hbb (Nat.le_refl _) _⟩
theorem pcodex_444 (w : World) : Calls Tryz.prog 62 #[.int .i64 444] w (OutX x444 444 w) := by
  go_enter Tryz.func62, Tryz.ntmps62
  go_wp2_with (go_at_call 69; refine (codedx_444 _).mono ?_; rintro e w1 ⟨g, rfl, hg, hr, hb⟩; have hk := Lib.hid ((Blk.new w 77 pzero).below hb (by simp)); have Hb := Lib.hid hb; have Hr := Lib.hid hr; have hgg := Lib.hid (show w.heap.size + 1 ≤ g by simpa using hg); clear hr hb hg)
  rw [run_storeCells_row _ w.heap.size 77 pzero (xcells x444 444 g) hk.out rfl (xcells_one rfl)]
  go_wp2_with fail
  have hbb := ((Below.refl _ w).alloc (Nat.le_refl _) (.cells pzero 77)).trans (Hb.out.mono (by simp))
  exact bodyPost_ret (results_cell_row rfl _ _ w.heap.size 77 (xcells x444 444 g) (0, 0) _ rfl (hk.out.row _) Tryz.underlying77 rfl (proto_size.trans rfl)) rfl
    ⟨g, rfl, Nat.le_of_succ_le hgg.out, Hr.out.rowFar (by have := hgg.out; omega) _, below_setRow hbb (Nat.le_refl _) _⟩
theorem ptrx_444 (w : World) : Calls Tryz.prog 63 #[.int .i64 444] w (OutXP x444 444 w) := by
  go_enter Tryz.func63, Tryz.ntmps63
  go_wp2_with (go_at_call 69; refine (codedx_444 _).mono ?_; rintro e w1 ⟨g, rfl, hg, hr, hb⟩; have Hb := Lib.hid hb; have Hr := Lib.hid hr; have hgg := Lib.hid hg; clear hr hb hg)
  rw [run_storeCells_new w1 77 #[.string ⟨#[]⟩, .int .i64 0, .slice none 0 0, .int .i64 0, .bool false, .nilIface] (xcells x444 444 g) rfl (xcells_one rfl)]
  have hk := Blk.new w1 77 (xcells x444 444 g)
  have c1 : (w1.alloc (.cells (xcells x444 444 g) 77)).cell? ⟨w1.heap.size, 1, none⟩ = some (.int .i64 444) := hk.cell 1
  have HK := Lib.hid hk
  clear hk
  go_wp2_with fail
  go_ret
  exact ⟨w1.heap.size, g, rfl, Hb.out.size, hgg.out, Nat.ne_of_gt Hr.out.lt, HK.out, Hr.out.alloc _, Hb.out.alloc Hb.out.size _⟩
theorem codedx_445 (w : World) : Calls Tryz.prog 69 #[.int .i64 445] w (OutX x445 445 w) := by
  go_enter Tryz.func69, Tryz.ntmps69
  go_wp2_with (go_at_call 85; refine (px_445 _).mono ?_; rintro e w1 ⟨g, rfl, hg, hr, hb⟩; have hk := Lib.hid ((Blk.new w 77 pzero).below hb (by simp)); have Hb := Lib.hid hb; have Hr := Lib.hid hr; have hgg := Lib.hid (show w.heap.size + 1 ≤ g by simpa using hg); clear hr hb hg)
  rw [run_storeCells_row _ w.heap.size 77 pzero (xcells x445 445 g) hk.out rfl (xcells_one rfl)]
  go_wp2_with fail
  have hbb := ((Below.refl _ w).alloc (Nat.le_refl _) (.cells pzero 77)).trans (Hb.out.mono (by simp))
  exact bodyPost_ret (results_cell_row rfl _ _ w.heap.size 77 (xcells x445 445 g) (0, 0) _ rfl (hk.out.row _) Tryz.underlying77 rfl (proto_size.trans rfl)) rfl
    ⟨g, rfl, Nat.le_of_succ_le hgg.out, Hr.out.rowFar (by have := hgg.out; omega) _, below_setRow hbb (Nat.le_refl _) _⟩
theorem pcodex_445 (w : World) : Calls Tryz.prog 62 #[.int .i64 445] w (OutX x445 445 w) := by
  go_enter Tryz.func62, Tryz.ntmps62
  go_wp2_with (go_at_call 69; refine (codedx_445 _).mono ?_; rintro e w1 ⟨g, rfl, hg, hr, hb⟩; have hk := Lib.hid ((Blk.new w 77 pzero).below hb (by simp)); have Hb := Lib.hid hb; have Hr := Lib.hid hr; have hgg := Lib.hid (show w.heap.size + 1 ≤ g by simpa using hg); clear hr hb hg)
  rw [run_storeCells_row _ w.heap.size 77 pzero (xcells x445 445 g) hk.out rfl (xcells_one rfl)]
  go_wp2_with fail
  have hbb := ((Below.refl _ w).alloc (Nat.le_refl _) (.cells pzero 77)).trans (Hb.out.mono (by simp))
  exact bodyPost_ret (results_cell_row rfl _ _ w.heap.size 77 (xcells x445 445 g) (0, 0) _ rfl (hk.out.row _) Tryz.underlying77 rfl (proto_size.trans rfl)) rfl
    ⟨g, rfl, Nat.le_of_succ_le hgg.out, Hr.out.rowFar (by have := hgg.out; omega) _, below_setRow hbb (Nat.le_refl _) _⟩
theorem ptrx_445 (w : World) : Calls Tryz.prog 63 #[.int .i64 445] w (OutXP x445 445 w) := by
  go_enter Tryz.func63, Tryz.ntmps63
  go_wp2_with (go_at_call 69; refine (codedx_445 _).mono ?_; rintro e w1 ⟨g, rfl, hg, hr, hb⟩; have Hb := Lib.hid hb; have Hr := Lib.hid hr; have hgg := Lib.hid hg; clear hr hb hg)
  rw [run_storeCells_new w1 77 #[.string ⟨#[]⟩, .int .i64 0, .slice none 0 0, .int .i64 0, .bool false, .nilIface] (xcells x445 445 g) rfl (xcells_one rfl)]
  have hk := Blk.new w1 77 (xcells x445 445 g)
  have c1 : (w1.alloc (.cells (xcells x445 445 g) 77)).cell? ⟨w1.heap.size, 1, none⟩ = some (.int .i64 445) := hk.cell 1
  have HK := Lib.hid hk
  clear hk
  go_wp2_with fail
  go_ret
  exact ⟨w1.heap.size, g, rfl, Hb.out.size, hgg.out, Nat.ne_of_gt Hr.out.lt, HK.out, Hr.out.alloc _, Hb.out.alloc Hb.out.size _⟩
theorem codedx_446 (w : World) : Calls Tryz.prog 69 #[.int .i64 446] w (OutX x446 446 w) := by
  go_enter Tryz.func69, Tryz.ntmps69
  go_wp2_with (go_at_call 86; refine (px_446 _).mono ?_; rintro e w1 ⟨g, rfl, hg, hr, hb⟩; have hk := Lib.hid ((Blk.new w 77 pzero).below hb (by simp)); have Hb := Lib.hid hb; have Hr := Lib.hid hr; have hgg := Lib.hid (show w.heap.size + 1 ≤ g by simpa using hg); clear hr hb hg)
  rw [run_storeCells_row _ w.heap.size 77 pzero (xcells x446 446 g) hk.out rfl (xcells_one rfl)]
  go_wp2_with fail
  have hbb := ((Below.refl _ w).alloc (Nat.le_refl _) (.cells pzero 77)).trans (Hb.out.mono (by simp))
  exact bodyPost_ret (results_cell_row rfl _ _ w.heap.size 77 (xcells x446 446 g) (0, 0) _ rfl (hk.out.row _) Tryz.underlying77 rfl (proto_size.trans rfl)) rfl
    ⟨g, rfl, Nat.le_of_succ_le hgg.out, Hr.out.rowFar (by have := hgg.out; omega) _, below_setRow hbb (Nat.le_refl _) _⟩
theorem pcodex_446 (w : World) : Calls Tryz.prog 62 #[.int .i64 446] w (OutX x446 446 w) := by
  go_enter Tryz.func62, Tryz.ntmps62
  go_wp2_with (go_at_call 69; refine (codedx_446 _).mono ?_; rintro e w1 ⟨g, rfl, hg, hr, hb⟩; have hk := Lib.hid ((Blk.new w 77 pzero).below hb (by simp)); have Hb := Lib.hid hb; have Hr := Lib.hid hr; have hgg := Lib.hid (show w.heap.size + 1 ≤ g by simpa using hg); clear hr hb hg)
  rw [run_storeCells_row _ w.heap.size 77 pzero (xcells x446 446 g) hk.out rfl (xcells_one rfl)]
  go_wp2_with fail
  have hbb := ((Below.refl _ w).alloc (Nat.le_refl _) (.cells pzero 77)).trans (Hb.out.mono (by simp))
  exact bodyPost_ret (results_cell_row rfl _ _ w.heap.size 77 (xcells x446 446 g) (0, 0) _ rfl (hk.out.row _) Tryz.underlying77 rfl (proto_size.trans rfl)) rfl
    ⟨g, rfl, Nat.le_of_succ_le hgg.out, Hr.out.rowFar (by have := hgg.out; omega) _, below_setRow hbb (Nat.le_refl _) _⟩
theorem ptrx_446 (w : World) : Calls Tryz.prog 63 #[.int .i64 446] w (OutXP x446 446 w) := by
  go_enter Tryz.func63, Tryz.ntmps63
  go_wp2_with (go_at_call 69; refine (codedx_446 _).mono ?_; rintro e w1 ⟨g, rfl, hg, hr, hb⟩; have Hb := Lib.hid hb; have Hr := Lib.hid hr; have hgg := Lib.hid hg; clear hr hb hg)
  rw [run_storeCells_new w1 77 #[.string ⟨#[]⟩, .int .i64 0, .slice none 0 0, .int .i64 0, .bool false, .nilIface] (xcells x446 446 g) rfl (xcells_one rfl)]
  have hk := Blk.new w1 77 (xcells x446 446 g)
  have c1 : (w1.alloc (.cells (xcells x446 446 g) 77)).cell? ⟨w1.heap.size, 1, none⟩ = some (.int .i64 446) := hk.cell 1
  have HK := Lib.hid hk
  clear hk
  go_wp2_with fail
  go_ret
  exact ⟨w1.heap.size, g, rfl, Hb.out.size, hgg.out, Nat.ne_of_gt Hr.out.lt, HK.out, Hr.out.alloc _, Hb.out.alloc Hb.out.size _⟩
theorem codedx_447 (w : World) : Calls Tryz.prog 69 #[.int .i64 447] w (OutX x447 447 w) := by
  go_enter Tryz.func69, Tryz.ntmps69
  go_wp2_with (go_at_call 87; refine (px_447 _).mono ?_; rintro e w1 ⟨g, rfl, hg, hr, hb⟩; have hk := Lib.hid ((Blk.new w 77 pzero).below hb (by simp)); have Hb := Lib.hid hb; have Hr := Lib.hid hr; have hgg := Lib.hid (show w.heap.size + 1 ≤ g by simpa using hg); clear hr hb hg)
  rw [run_storeCells_row _ w.heap.size 77 pzero (xcells x447 447 g) hk.out rfl (xcells_one rfl)]
  go_wp2_with fail
  have hbb := ((Below.refl _ w).alloc (Nat.le_refl _) (.cells pzero 77)).trans (Hb.out.mono (by simp))
  exact bodyPost_ret (results_cell_row rfl _ _ w.heap.size 77 (xcells x447 447 g) (0, 0) _ rfl (hk.out.row _) Tryz.underlying77 rfl (proto_size.trans rfl)) rfl
    ⟨g, rfl, Nat.le_of_succ_le hgg.out, Hr.out.rowFar (by have := hgg.out; omega) _, below_setRow hbb (Nat.le_refl _) _⟩
theorem pcodex_447 (w : World) : Calls Tryz.prog 62 #[.int .i64 447] w (OutX x447 447 w) := by
  go_enter Tryz.func62, Tryz.ntmps62
  go_wp2_with (go_at_call 69; refine (codedx_447 _).mono ?_; rintro e w1 ⟨g, rfl, hg, hr, hb⟩; have hk := Lib.hid ((Blk.new w 77 pzero).below hb (by simp)); have Hb := Lib.hid hb; have Hr := Lib.hid hr; have hgg := Lib.hid (show w.heap.size + 1 ≤ g by simpa using hg); clear hr hb hg)
  rw [run_storeCells_row _ w.heap.size 77 pzero (xcells x447 447 g) hk.out rfl (xcells_one rfl)]
  go_wp2_with fail
  have hbb := ((Below.refl _ w).alloc (Nat.le_refl _) (.cells pzero 77)).trans (Hb.out.mono (by simp))
  exact bodyPost_ret (results_cell_row rfl _ _ w.heap.size 77 (xcells x447 447 g) (0, 0) _ rfl (hk.out.row _) Tryz.underlying77 rfl (proto_size.trans rfl)) rfl
    ⟨g, rfl, Nat.le_of_succ_le hgg.out, Hr.out.rowFar (by have := hgg.out; omega) _, below_setRow hbb (Nat.le_refl _) _⟩
theorem ptrx_447 (w : World) : Calls Tryz.prog 63 #[.int .i64 447] w (OutXP x447 447 w) := by
  go_enter Tryz.func63, Tryz.ntmps63
  go_wp2_with (go_at_call 69; refine (codedx_447 _).mono ?_; rintro e w1 ⟨g, rfl, hg, hr, hb⟩; have Hb := Lib.hid hb; have Hr := Lib.hid hr; have hgg := Lib.hid hg; clear hr hb hg)
  rw [run_storeCells_new w1 77 #[.string ⟨#[]⟩, .int .i64 0, .slice none 0 0, .int .i64 0, .bool false, .nilIface] (xcells x447 447 g) rfl (xcells_one rfl)]
  have hk := Blk.new w1 77 (xcells x447 447 g)
  have c1 : (w1.alloc (.cells (xcells x447 447 g) 77)).cell? ⟨w1.heap.size, 1, none⟩ = some (.int .i64 447) := hk.cell 1
  have HK := Lib.hid hk
  clear hk
  go_wp2_with fail
  go_ret
  exact ⟨w1.heap.size, g, rfl, Hb.out.size, hgg.out, Nat.ne_of_gt Hr.out.lt, HK.out, Hr.out.alloc _, Hb.out.alloc Hb.out.size _⟩
theorem codedx_448 (w : World) : Calls Tryz.prog 69 #[.int .i64 448] w (OutX x448 448 w) := by
  go_enter Tryz.func69, Tryz.ntmps69
  go_wp2_with (go_at_call 100; refine (px_448 _).mono ?_; rintro e w1 ⟨g, rfl, hg, hr, hb⟩; have hk := Lib.hid ((Blk.new w 77 pzero).below hb (by simp)); have Hb := Lib.hid hb; have Hr := Lib.hid hr; have hgg := Lib.hid (show w.heap.size + 1 ≤ g by simpa using hg); clear hr hb hg)
  rw [run_storeCells_row _ w.heap.size 77 pzero (xcells x448 448 g) hk.out rfl (xcells_one rfl)]
  go_wp2_with fail
  have hbb := ((Below.refl _ w).alloc (Nat.le_refl _) (.cells pzero 77)).trans (Hb.out.mono (by simp))
  exact bodyPost_ret (results_cell_row rfl _ _ w.heap.size 77 (xcells x448 448 g) (0, 0) _ rfl (hk.out.row _) Tryz.underlying77 rfl (proto_size.trans rfl)) rfl
    ⟨g, rfl, Nat.le_of_succ_le hgg.out, Hr.out.rowFar (by have := hgg.out; omega) _, below_setRow hbb (Nat.le_refl _) _⟩
theorem pcodex_448 (w : World) : Calls Tryz.prog 62 #[.int .i64 448] w (OutX x448 448 w) := by
  go_enter Tryz.func62, Tryz.ntmps62
  go_wp2_with (go_at_call 69; refine (codedx_448 _).mono ?_; rintro e w1 ⟨g, rfl, hg, hr, hb⟩; have hk := Lib.hid ((Blk.new w 77 pzero).below hb (by simp)); have Hb := Lib.hid hb; have Hr := Lib.hid hr; have hgg := Lib.hid (show w.heap.size + 1 ≤ g by simpa using hg); clear hr hb hg)
  rw [run_storeCells_row _ w.heap.size 77 pzero (xcells x448 448 g) hk.out rfl (xcells_one rfl)]
  go_wp2_with fail
  have hbb := ((Below.refl _ w).alloc (Nat.le_refl _) (.cells pzero 77)).trans (Hb.out.mono (by simp))
  exact bodyPost_ret (results_cell_row rfl _ _ w.heap.size 77 (xcells x448 448 g) (0, 0) _ rfl (hk.out.row _) Tryz.underlying77 rfl (proto_size.trans rfl)) rfl
    ⟨g, rfl, Nat.le_of_succ_le hgg.out, Hr.out.rowFar (by have := hgg.out; omega) _, below_setRow hbb (Nat.le_refl _) _⟩
theorem ptrx_448 (w : World) : Calls Tryz.prog 63 #[.int .i64 448] w (OutXP x448 448 w) := by
  go_enter Tryz.func63, Tryz.ntmps63
  go_wp2_with (go_at_call 69; refine (codedx_448 _).mono ?_; rintro e w1 ⟨g, rfl, hg, hr, hb⟩; have Hb := Lib.hid hb; have Hr := Lib.hid hr; have hgg := Lib.hid hg; clear hr hb hg)
  rw [run_storeCells_new w1 77 #[.string ⟨#[]⟩, .int .i64 0, .slice none 0 0, .int .i64 0, .bool false, .nilIface] (xcells x448 448 g) rfl (xcells_one rfl)]
  have hk := Blk.new w1 77 (xcells x448 448 g)
  have c1 : (w1.alloc (.cells (xcells x448 448 g) 77)).cell? ⟨w1.heap.size, 1, none⟩ = some (.int .i64 448) := hk.cell 1
  have HK := Lib.hid hk
  clear hk
  go_wp2_with fail
  go_ret
  exact ⟨w1.heap.size, g, rfl, Hb.out.size, hgg.out, Nat.ne_of_gt Hr.out.lt, HK.out, Hr.out.alloc _, Hb.out.alloc Hb.out.size _⟩
theorem codedx_449 (w : World) : Calls Tryz.prog 69 #[.int .i64 449] w (OutX x449 449 w) := by
  go_enter Tryz.func69, Tryz.ntmps69
  go_wp2_with (go_at_call 101; refine (px_449 _).mono ?_; rintro e w1 ⟨g, rfl, hg, hr, hb⟩; have hk := Lib.hid ((Blk.new w 77 pzero).below hb (by simp)); have Hb := Lib.hid hb; have Hr := Lib.hid hr; have hgg := Lib.hid (show w.heap.size + 1 ≤ g by simpa using hg); clear hr hb hg)
  rw [run_storeCells_row _ w.heap.size 77 pzero (xcells x449 449 g) hk.out rfl (xcells_one rfl)]
  go_wp2_with fail
  have hbb := ((Below.refl _ w).alloc (Nat.le_refl _) (.cells pzero 77)).trans (Hb.out.mono (by simp))
  exact bodyPost_ret (results_cell_row rfl _ _ w.heap.size 77 (xcells x449 449 g) (0, 0) _ rfl (hk.out.row _) Tryz.underlying77 rfl (proto_size.trans rfl)) rfl
    ⟨g, rfl, Nat.le_of_succ_le hgg.out, Hr.out.rowFar (by have := hgg.out; omega) _, below_setRow hbb (Nat.le_refl _) _⟩
theorem pcodex_449 (w : World) : Calls Tryz.prog 62 #[.int .i64 449] w (OutX x449 449 w) := by
  go_enter Tryz.func62, Tryz.ntmps62
  go_wp2_with (go_at_call 69; refine (codedx_449 _).mono ?_; rintro e w1 ⟨g, rfl, hg, hr, hb⟩; have hk := Lib.hid ((Blk.new w 77 pzero).below hb (by simp)); have Hb := Lib.hid hb; have Hr := Lib.hid hr; have hgg := Lib.hid (show w.heap.size + 1 ≤ g by simpa using hg); clear hr hb hg)
  rw [run_storeCells_row _ w.heap.size 77 pzero (xcells x449 449 g) hk.out rfl (xcells_one rfl)]
  go_wp2_with fail
  have hbb := ((Below.refl _ w).alloc (Nat.le_refl _) (.cells pzero 77)).trans (Hb.out.mono (by simp))
  exact bodyPost_ret (results_cell_row rfl _ _ w.heap.size 77 (xcells x449 449 g) (0, 0) _ rfl (hk.out.row _) Tryz.underlying77 rfl (proto_size.trans rfl)) rfl
    ⟨g, rfl, Nat.le_of_succ_le hgg.out, Hr.out.rowFar (by have := hgg.out; omega) _, below_setRow hbb (Nat.le_refl _) _⟩
theorem ptrx_449 (w : World) : Calls Tryz.prog 63 #[.int .i64 449] w (OutXP x449 449 w) := by
  go_enter Tryz.func63, Tryz.ntmps63
  go_wp2_with (go_at_call 69; refine (codedx_449 _).mono ?_; rintro e w1 ⟨g, rfl, hg, hr, hb⟩; have Hb := Lib.hid hb; have Hr := Lib.hid hr; have hgg := Lib.hid hg; clear hr hb hg)
  rw [run_storeCells_new w1 77 #[.string ⟨#[]⟩, .int .i64 0, .slice none 0 0, .int .i64 0, .bool false, .nilIface] (xcells x449 449 g) rfl (xcells_one rfl)]
  have hk := Blk.new w1 77 (xcells x449 449 g)
  have c1 : (w1.alloc (.cells (xcells x449 449 g) 77)).cell? ⟨w1.heap.size, 1, none⟩ = some (.int .i64 449) := hk.cell 1
  have HK := Lib.hid hk
  clear hk
  go_wp2_with fail
  go_ret
  exact ⟨w1.heap.size, g, rfl, Hb.out.size, hgg.out, Nat.ne_of_gt Hr.out.lt, HK.out, Hr.out.alloc _, Hb.out.alloc Hb.out.size _⟩
theorem codedx_454 (w : World) : Calls Tryz.prog 69 #[.int .i64 454] w (OutX x454 454 w) := by
  go_enter Tryz.func69, Tryz.ntmps69
  go_wp2_with (go_at_call 102; refine (px_454 _).mono ?_; rintro e w1 ⟨g, rfl, hg, hr, hb⟩; have hk := Lib.hid ((Blk.new w 77 pzero).below hb (by simp)); have Hb := Lib.hid hb; have Hr := Lib.hid hr; have hgg := Lib.hid (show w.heap.size + 1 ≤ g by simpa using hg); clear hr hb hg)
  rw [run_storeCells_row _ w.heap.size 77 pzero (xcells x454 454 g) hk.out rfl (xcells_one rfl)]
  go_wp2_with fail
  have hbb := ((Below.refl _ w).alloc (Nat.le_refl _) (.cells pzero 77)).trans (Hb.out.mono (by simp))
  exact bodyPost_ret (results_cell_row rfl _ _ w.heap.size 77 (xcells x454 454 g) (0, 0) _ rfl (hk.out.row _) Tryz.underlying77 rfl (proto_size.trans rfl)) rfl
    ⟨g, rfl, Nat.le_of_succ_le hgg.out, Hr.out.rowFar (by have := hgg.out; omega) _, below_setRow hbb (Nat.le_refl _) _⟩
theorem pcodex_454 (w : World) : Calls Tryz.prog 62 #[.int .i64 454] w (OutX x454 454 w) := by
  go_enter Tryz.func62, Tryz.ntmps62
  go_wp2_with (go_at_call 69; refine (codedx_454 _).mono ?_; rintro e w1 ⟨g, rfl, hg, hr, hb⟩; have hk := Lib.hid ((Blk.new w 77 pzero).below hb (by simp)); have Hb := Lib.hid hb; have Hr := Lib.hid hr; have hgg := Lib.hid (show w.heap.size + 1 ≤ g by simpa using hg); clear hr hb hg)
  rw [run_storeCells_row _ w.heap.size 77 pzero (xcells x454 454 g) hk.out rfl (xcells_one rfl)]
  go_wp2_with fail
  have hbb := ((Below.refl _ w).alloc (Nat.le_refl _) (.cells pzero 77)).trans (Hb.out.mono (by simp))
  exact bodyPost_ret (results_cell_row rfl _ _ w.heap.size 77 (xcells x454 454 g) (0, 0) _ rfl (hk.out.row _) Tryz.underlying77 rfl (proto_size.trans rfl)) rfl
    ⟨g, rfl, Nat.le_of_succ_le hgg.out, Hr.out.rowFar (by have := hgg.out; omega) _, below_setRow hbb (Nat.le_refl _) _⟩
theorem ptrx_454 (w : World) : Calls Tryz.prog 63 #[.int .i64 454] w (OutXP x454 454 w) := by
  go_enter Tryz.func63, Tryz.ntmps63
  go_wp2_with (go_at_call 69; refine (codedx_454 _).mono ?_; rintro e w1 ⟨g, rfl, hg, hr, hb⟩; have Hb := Lib.hid hb; have Hr := Lib.hid hr; have hgg := Lib.hid hg; clear hr hb hg)
  rw [run_storeCells_new w1 77 #[.string ⟨#[]⟩, .int .i64 0, .slice none 0 0, .int .i64 0, .bool false, .nilIface] (xcells x454 454 g) rfl (xcells_one rfl)]
  have hk := Blk.new w1 77 (xcells x454 454 g)
  have c1 : (w1.alloc (.cells (xcells x454 454 g) 77)).cell? ⟨w1.heap.size, 1, none⟩ = some (.int .i64 454) := hk.cell 1
  have HK := Lib.hid hk
  clear hk
  go_wp2_with fail
  go_ret
  exact ⟨w1.heap.size, g, rfl, Hb.out.size, hgg.out, Nat.ne_of_gt Hr.out.lt, HK.out, Hr.out.alloc _, Hb.out.alloc Hb.out.size _⟩
theorem codedx_460 (w : World) : Calls Tryz.prog 69 #[.int .i64 460] w (OutX x460 460 w) := by
  go_enter Tryz.func69, Tryz.ntmps69
  go_wp2_with (go_at_call 90; refine (px_460 _).mono ?_; rintro e w1 ⟨g, rfl, hg, hr, hb⟩; have hk := Lib.hid ((Blk.new w 77 pzero).below hb (by simp)); have Hb := Lib.hid hb; have Hr := Lib.hid hr; have hgg := Lib.hid (show w.heap.size + 1 ≤ g by simpa using hg); clear hr hb hg)
  rw [run_storeCells_row _ w.heap.size 77 pzero (xcells x460 460 g) hk.out rfl (xcells_one rfl)]
  go_wp2_with fail
  have hbb := ((Below.refl _ w).alloc (Nat.le_refl _) (.cells pzero 77)).trans (Hb.out.mono (by simp))
  exact bodyPost_ret (results_cell_row rfl _ _ w.heap.size 77 (xcells x460 460 g) (0, 0) _ rfl (hk.out.row _) Tryz.underlying77 rfl (proto_size.trans rfl)) rfl
    ⟨g, rfl, Nat.le_of_succ_le hgg.out, Hr.out.rowFar (by have := hgg.out; omega) _, below_setRow hbb (Nat.le_refl _) _⟩
theorem pcodex_460 (w : World) : Calls Tryz.prog 62 #[.int .i64 460] w (OutX x460 460 w) := by
  go_enter Tryz.func62, Tryz.ntmps62
  go_wp2_with (go_at_call 69; refine (codedx_460 _).mono ?_; rintro e w1 ⟨g, rfl, hg, hr, hb⟩; have hk := Lib.hid ((Blk.new w 77 pzero).below hb (by simp)); have Hb := Lib.hid hb; have Hr := Lib.hid hr; have hgg := Lib.hid (show w.heap.size + 1 ≤ g by simpa using hg); clear hr hb hg)
  rw [run_storeCells_row _ w.heap.size 77 pzero (xcells x460 460 g) hk.out rfl (xcells_one rfl)]
  go_wp2_with fail
  have hbb := ((Below.refl _ w).alloc (Nat.le_refl _) (.cells pzero 77)).trans (Hb.out.mono (by simp))
  exact bodyPost_ret (results_cell_row rfl _ _ w.heap.size 77 (xcells x460 460 g) (0, 0) _ rfl (hk.out.row _) Tryz.underlying77 rfl (proto_size.trans rfl)) rfl
    ⟨g, rfl, Nat.le_of_succ_le hgg.out, Hr.out.rowFar (by have := hgg.out; omega) _, below_setRow hbb (Nat.le_refl _) _⟩
theorem ptrx_460 (w : World) : Calls Tryz.prog 63 #[.int .i64 460] w (OutXP x460 460 w) := by
  go_enter Tryz.func63, Tryz.ntmps63
  go_wp2_with (go_at_call 69; refine (codedx_460 _).mono ?_; rintro e w1 ⟨g, rfl, hg, hr, hb⟩; have Hb := Lib.hid hb; have Hr := Lib.hid hr; have hgg := Lib.hid hg; clear hr hb hg)
  rw [run_storeCells_new w1 77 #[.string ⟨#[]⟩, .int .i64 0, .slice none 0 0, .int .i64 0, .bool false, .nilIface] (xcells x460 460 g) rfl (xcells_one rfl)]
  have hk := Blk.new w1 77 (xcells x460 460 g)
  have c1 : (w1.alloc (.cells (xcells x460 460 g) 77)).cell? ⟨w1.heap.size, 1, none⟩ = some (.int .i64 460) := hk.cell 1
  have HK := Lib.hid hk
  clear hk
  go_wp2_with fail
  go_ret
  exact ⟨w1.heap.size, g, rfl, Hb.out.size, hgg.out, Nat.ne_of_gt Hr.out.lt, HK.out, Hr.out.alloc _, Hb.out.alloc Hb.out.size _⟩
theorem pcodex_461 (w : World) : Calls Tryz.prog 62 #[.int .i64 461] w (OutX x461 461 w) := (pcode_461 w).mono fun _ _ h => h
theorem ptrx_461 (w : World) : Calls Tryz.prog 63 #[.int .i64 461] w (OutXP x461 461 w) := (ptr_461 w).mono fun _ _ h => h
end Go.Proofs.YtghddiboggdhcaaGreatDoor
