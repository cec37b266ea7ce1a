/- FnAddrWrong: what the listed package variables give the walk. -/
import Derived.Test.YtghddiboggdhcaaGreatDoorPv
import Derived.Test.YtghddiboggdhcaaGreatDoorRows
import Derived.ProofKit
import Derived.Lay
import Derived.LaidLaws
import Derived.LaidMore
import Derived.Carry
import Derived.Lib.LaidTab
import Derived.Lib.LaidU8
namespace Go.Proofs.YtghddiboggdhcaaGreatDoor
open Go Go.ChangeShapes Go.WideShapes Go.ChangeAt Go.WideMaps Go.WideElems Go.RowKit
abbrev tabsW : List (String × DataW Unit) := [("pub-symmory/pub/govarint.ErrOverflow", Rows.laid_pub_symmory_pub_govarint_ErrOverflow), ("pub-symmory/pub/govarint.ErrNotMinimal", Rows.laid_pub_symmory_pub_govarint_ErrNotMinimal), ("pub-symmory/pub/govarint.ErrUnderflow", Rows.laid_pub_symmory_pub_govarint_ErrUnderflow), ("internal/strconv.uint64pow10", Rows.laid_internal_strconv_uint64pow10), ("math/bits.deBruijn32tab", Rows.laid_math_bits_deBruijn32tab), ("math/bits.deBruijn64tab", Rows.laid_math_bits_deBruijn64tab), ("strconv.ErrSyntax", Rows.laid_strconv_ErrSyntax), ("strconv.ErrRange", Rows.laid_strconv_ErrRange), ("pub-symmory/pub/gomultibase.ErrUnsupportedEncoding", Rows.laid_pub_symmory_pub_gomultibase_ErrUnsupportedEncoding), ("unicode/utf8.first", Rows.laid_unicode_utf8_first), ("unicode/utf8.acceptRanges", Rows.laid_unicode_utf8_acceptRanges), ("encoding/hex.ErrLength", Rows.laid_encoding_hex_ErrLength), ("pub-symmory/pub/gomultibase.base256emojiTable", Rows.laid_pub_symmory_pub_gomultibase_base256emojiTable), ("pub-symmory/pub/gomultihash.ErrTooShort", Rows.laid_pub_symmory_pub_gomultihash_ErrTooShort), ("pub-symmory/pub/gomultihash.ErrVarintBufferShort", Rows.laid_pub_symmory_pub_gomultihash_ErrVarintBufferShort), ("pub-symmory/pub/gomultihash.ErrVarintTooLong", Rows.laid_pub_symmory_pub_gomultihash_ErrVarintTooLong), ("pub-symmory/pub/gomultibase.hexTableUppers", Rows.laid_pub_symmory_pub_gomultibase_hexTableUppers), ("net/url.table", Rows.laid_net_url_table), ("pub-symmory/pub/gomultihash.ErrInvalidMultihash", Rows.laid_pub_symmory_pub_gomultihash_ErrInvalidMultihash), ("pub-symmory/pub/gocid.errCidTooShort", Rows.laid_pub_symmory_pub_gocid_errCidTooShort), ("pub-symmory/pub/multiaddr.errNilPtr", Rows.laid_pub_symmory_pub_multiaddr_errNilPtr), ("pub-symmory/pub/libp2p/core/peer.ErrInvalidAddr", Rows.laid_pub_symmory_pub_libp2p_core_peer_ErrInvalidAddr)]
theorem pow_data : Rows.laid_internal_strconv_uint64pow10 (H := Unit) = Lib.tabData .u64 Lib.pow10Tab := by rfl
def urlTab : List Int := [0, 0, 0, 0, 0, 0, 0, 0, 0, 0, 0, 0, 0, 0, 0, 0, 0, 0, 0, 0, 0, 0, 0, 0, 0, 0, 0, 0, 0, 0, 0, 0, 0, 76, 12, 0, 95, 0, 95, 12, 76, 76, 76, 95, 93, 127, 127, 65, 255, 255, 255, 255, 255, 255, 255, 255, 255, 255, 79, 93, 12, 95, 12, 64, 67, 255, 255, 255, 255, 255, 255, 127, 127, 127, 127, 127, 127, 127, 127, 127, 127, 127, 127, 127, 127, 127, 127, 127, 127, 127, 127, 12, 0, 12, 0, 127, 0, 255, 255, 255, 255, 255, 255, 127, 127, 127, 127, 127, 127, 127, 127, 127, 127, 127, 127, 127, 127, 127, 127, 127, 127, 127, 127, 0, 0, 0, 127, 0, 0, 0, 0, 0, 0, 0, 0, 0, 0, 0, 0, 0, 0, 0, 0, 0, 0, 0, 0, 0, 0, 0, 0, 0, 0, 0, 0, 0, 0, 0, 0, 0, 0, 0, 0, 0, 0, 0, 0, 0, 0, 0, 0, 0, 0, 0, 0, 0, 0, 0, 0, 0, 0, 0, 0, 0, 0, 0, 0, 0, 0, 0, 0, 0, 0, 0, 0, 0, 0, 0, 0, 0, 0, 0, 0, 0, 0, 0, 0, 0, 0, 0, 0, 0, 0, 0, 0, 0, 0, 0, 0, 0, 0, 0, 0, 0, 0, 0, 0, 0, 0, 0, 0, 0, 0, 0, 0, 0, 0, 0, 0, 0, 0, 0, 0, 0, 0, 0, 0, 0, 0, 0, 0, 0, 0, 0, 0, 0]
theorem url_data : Rows.laid_net_url_table (H := Unit) = Lib.tabData .u8 urlTab := by kernel_rfl
theorem url_len : urlTab.length = 256 := by kernel_rfl
theorem held_ov {W : World} (h : laidMet Tryz.prog tabsW W) : ∃ u v, W.cell? ⟨2, 0, none⟩ = some (.iface u v) := by
  obtain ⟨g, t, cs, fuel, p, hg, hty, hvar, hd⟩ := Lib.laidMet.reads h (n := "pub-symmory/pub/govarint.ErrOverflow") (d := Rows.laid_pub_symmory_pub_govarint_ErrOverflow) (by simp [tabsW])
  have hgu : Tryz.prog.globalNamed "pub-symmory/pub/govarint.ErrOverflow" = some 2 := by kernel_rfl
  have htu : (Tryz.prog.globals[2]?).map (·.type) = some 52 := by kernel_rfl
  obtain rfl := Option.some.inj (hgu.symm.trans hg)
  obtain rfl := Option.some.inj (htu.symm.trans hty)
  obtain ⟨_, u, v, hcs, _, _⟩ := iface_of_trod Tryz.underlying52 hd
  have := World.var?_cell hgu hvar 0
  obtain ⟨l⟩ := cs
  have hl : l = [.iface u v] := hcs
  subst hl
  exact ⟨u, v, this⟩
theorem held_un {W : World} (h : laidMet Tryz.prog tabsW W) : ∃ u v, W.cell? ⟨5, 0, none⟩ = some (.iface u v) := by
  obtain ⟨g, t, cs, fuel, p, hg, hty, hvar, hd⟩ := Lib.laidMet.reads h (n := "pub-symmory/pub/govarint.ErrUnderflow") (d := Rows.laid_pub_symmory_pub_govarint_ErrUnderflow) (by simp [tabsW])
  have hgu : Tryz.prog.globalNamed "pub-symmory/pub/govarint.ErrUnderflow" = some 5 := by kernel_rfl
  have htu : (Tryz.prog.globals[5]?).map (·.type) = some 52 := by kernel_rfl
  obtain rfl := Option.some.inj (hgu.symm.trans hg)
  obtain rfl := Option.some.inj (htu.symm.trans hty)
  obtain ⟨_, u, v, hcs, _, _⟩ := iface_of_trod Tryz.underlying52 hd
  have := World.var?_cell hgu hvar 0
  obtain ⟨l⟩ := cs
  have hl : l = [.iface u v] := hcs
  subst hl
  exact ⟨u, v, this⟩
theorem held_nm {W : World} (h : laidMet Tryz.prog tabsW W) : ∃ u v, W.cell? ⟨4, 0, none⟩ = some (.iface u v) := by
  obtain ⟨g, t, cs, fuel, p, hg, hty, hvar, hd⟩ := Lib.laidMet.reads h (n := "pub-symmory/pub/govarint.ErrNotMinimal") (d := Rows.laid_pub_symmory_pub_govarint_ErrNotMinimal) (by simp [tabsW])
  have hgu : Tryz.prog.globalNamed "pub-symmory/pub/govarint.ErrNotMinimal" = some 4 := by kernel_rfl
  have htu : (Tryz.prog.globals[4]?).map (·.type) = some 52 := by kernel_rfl
  obtain rfl := Option.some.inj (hgu.symm.trans hg)
  obtain rfl := Option.some.inj (htu.symm.trans hty)
  obtain ⟨_, u, v, hcs, _, _⟩ := iface_of_trod Tryz.underlying52 hd
  have := World.var?_cell hgu hvar 0
  obtain ⟨l⟩ := cs
  have hl : l = [.iface u v] := hcs
  subst hl
  exact ⟨u, v, this⟩
theorem held_ts {W : World} (h : laidMet Tryz.prog tabsW W) : ∃ u v, W.cell? ⟨18, 0, none⟩ = some (.iface u v) := by
  obtain ⟨g, t, cs, fuel, p, hg, hty, hvar, hd⟩ := Lib.laidMet.reads h (n := "pub-symmory/pub/gomultihash.ErrTooShort") (d := Rows.laid_pub_symmory_pub_gomultihash_ErrTooShort) (by simp [tabsW])
  have hgu : Tryz.prog.globalNamed "pub-symmory/pub/gomultihash.ErrTooShort" = some 18 := by kernel_rfl
  have htu : (Tryz.prog.globals[18]?).map (·.type) = some 52 := by kernel_rfl
  obtain rfl := Option.some.inj (hgu.symm.trans hg)
  obtain rfl := Option.some.inj (htu.symm.trans hty)
  obtain ⟨_, u, v, hcs, _, _⟩ := iface_of_trod Tryz.underlying52 hd
  have := World.var?_cell hgu hvar 0
  obtain ⟨l⟩ := cs
  have hl : l = [.iface u v] := hcs
  subst hl
  exact ⟨u, v, this⟩
theorem held_iv {W : World} (h : laidMet Tryz.prog tabsW W) : ∃ u v, W.cell? ⟨0, 0, none⟩ = some (.iface u v) := by
  obtain ⟨g, t, cs, fuel, p, hg, hty, hvar, hd⟩ := Lib.laidMet.reads h (n := "pub-symmory/pub/libp2p/core/peer.ErrInvalidAddr") (d := Rows.laid_pub_symmory_pub_libp2p_core_peer_ErrInvalidAddr) (by simp [tabsW])
  have hgu : Tryz.prog.globalNamed "pub-symmory/pub/libp2p/core/peer.ErrInvalidAddr" = some 0 := by kernel_rfl
  have htu : (Tryz.prog.globals[0]?).map (·.type) = some 52 := by kernel_rfl
  obtain rfl := Option.some.inj (hgu.symm.trans hg)
  obtain rfl := Option.some.inj (htu.symm.trans hty)
  obtain ⟨_, u, v, hcs, _, _⟩ := iface_of_trod Tryz.underlying52 hd
  have := World.var?_cell hgu hvar 0
  obtain ⟨l⟩ := cs
  have hl : l = [.iface u v] := hcs
  subst hl
  exact ⟨u, v, this⟩
theorem held_pow {W : World} (h : laidMet Tryz.prog tabsW W) : Lib.TabIs Tryz.prog W "internal/strconv.uint64pow10" .u64 Lib.pow10Tab := by
  obtain ⟨g, t, cs, fuel, p, hg, hty, hvar, hd⟩ := Lib.laidMet.reads h (n := "internal/strconv.uint64pow10") (d := Rows.laid_internal_strconv_uint64pow10) (by simp [tabsW])
  have htu : Tryz.prog.globalNamed "internal/strconv.uint64pow10" = some 14 := by kernel_rfl
  have hty2 : (Tryz.prog.globals[14]?).map (·.type) = some 295 := by kernel_rfl
  obtain rfl := Option.some.inj (htu.symm.trans hg)
  obtain rfl := Option.some.inj (hty2.symm.trans hty)
  unfold Lib.TabIs
  rw [pow_data] at hd
  rw [hvar, ← Lib.cells_of_tab Tryz.underlying295 Tryz.underlying108 (by kernel_rfl) (by kernel_rfl) hd]
theorem held_url {W : World} (h : laidMet Tryz.prog tabsW W) : UrlT (fun j => urlTab.getD j 0) W := by
  obtain ⟨g, t, cs, fuel, p, hg, hty, hvar, hd⟩ := Lib.laidMet.reads h (n := "net/url.table") (d := Rows.laid_net_url_table) (by simp [tabsW])
  have htu : Tryz.prog.globalNamed "net/url.table" = some 20 := by kernel_rfl
  have hty2 : (Tryz.prog.globals[20]?).map (·.type) = some 320 := by kernel_rfl
  obtain rfl := Option.some.inj (htu.symm.trans hg)
  obtain rfl := Option.some.inj (hty2.symm.trans hty)
  rw [url_data] at hd
  have hcs := Lib.cells_of_tab Tryz.underlying320 Tryz.underlying222 (by kernel_rfl) (by kernel_rfl) hd
  intro j hj
  rw [World.var?_cell htu hvar j, ← Array.getElem?_toList, hcs]
  have hl := url_len
  rw [List.getElem?_map, List.getElem?_eq_getElem (by omega)]
  simp [List.getD, List.getElem?_eq_getElem (show j < urlTab.length by omega)]
theorem env_of {W : World} (h : laidMetH Tryz.prog tabsW W) : EnvX 18446744073709551616 (fun j => urlTab.getD j 0) W ∧ Inv W := by
  rw [MakeChecks.laidMetH_plain _ _ _ (by kernel_rfl)] at h
  obtain ⟨u, v, hts⟩ := held_ts h
  exact ⟨⟨⟨fun _ => held_pow h⟩, ⟨held_ov h, held_un h, held_nm h⟩, ⟨_, hts, Or.inr ⟨u, v, rfl⟩⟩, held_url h⟩, ⟨held_iv h⟩⟩
end Go.Proofs.YtghddiboggdhcaaGreatDoor
