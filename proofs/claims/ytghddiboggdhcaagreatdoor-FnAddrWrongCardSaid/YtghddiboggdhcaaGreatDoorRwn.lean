/- The tie's other facts: the variables' names, where the door lays them; the pinned table; what the list asks. -/
import Derived.Test.YtghddiboggdhcaaGreatDoorRows
import Derived.LaidByTextLater
import Derived.SevenTiedAt
import Derived.LaidSub
import Derived.LaidOnce
namespace Go.Proofs.YtghddiboggdhcaaGreatDoor
open Go
set_option maxRecDepth 100000
abbrev namedTabs : List (String × DataW Unit) := [("pub-symmory/pub/govarint.ErrOverflow", Rows.laid_pub_symmory_pub_govarint_ErrOverflow), ("pub-symmory/pub/govarint.ErrNotMinimal", Rows.laid_pub_symmory_pub_govarint_ErrNotMinimal), ("pub-symmory/pub/govarint.ErrUnderflow", Rows.laid_pub_symmory_pub_govarint_ErrUnderflow), ("internal/strconv.uint64pow10", Rows.laid_internal_strconv_uint64pow10), ("math/bits.deBruijn32tab", Rows.laid_math_bits_deBruijn32tab), ("math/bits.deBruijn64tab", Rows.laid_math_bits_deBruijn64tab), ("strconv.ErrSyntax", Rows.laid_strconv_ErrSyntax), ("strconv.ErrRange", Rows.laid_strconv_ErrRange), ("pub-symmory/pub/gomultibase.ErrUnsupportedEncoding", Rows.laid_pub_symmory_pub_gomultibase_ErrUnsupportedEncoding), ("unicode/utf8.acceptRanges", Rows.laid_unicode_utf8_acceptRanges), ("encoding/hex.ErrLength", Rows.laid_encoding_hex_ErrLength), ("pub-symmory/pub/gomultibase.base256emojiTable", Rows.laid_pub_symmory_pub_gomultibase_base256emojiTable), ("pub-symmory/pub/gomultihash.ErrTooShort", Rows.laid_pub_symmory_pub_gomultihash_ErrTooShort), ("pub-symmory/pub/gomultihash.ErrVarintBufferShort", Rows.laid_pub_symmory_pub_gomultihash_ErrVarintBufferShort), ("pub-symmory/pub/gomultihash.ErrVarintTooLong", Rows.laid_pub_symmory_pub_gomultihash_ErrVarintTooLong), ("pub-symmory/pub/gomultibase.hexTableUppers", Rows.laid_pub_symmory_pub_gomultibase_hexTableUppers), ("net/url.table", Rows.laid_net_url_table), ("pub-symmory/pub/gomultihash.ErrInvalidMultihash", Rows.laid_pub_symmory_pub_gomultihash_ErrInvalidMultihash), ("pub-symmory/pub/gocid.errCidTooShort", Rows.laid_pub_symmory_pub_gocid_errCidTooShort), ("pub-symmory/pub/multiaddr.errNilPtr", Rows.laid_pub_symmory_pub_multiaddr_errNilPtr), ("pub-symmory/pub/libp2p/core/peer.ErrInvalidAddr", Rows.laid_pub_symmory_pub_libp2p_core_peer_ErrInvalidAddr)]
theorem own_hw : Tryz.prog.worded (varsWordLater true) = true := by kernel_rfl
theorem own_hw' : Tryz.prog.worded (varsWordLater !true) = false := by kernel_rfl
theorem own_root : Tryz.prog.worded rootWordLater = true := by kernel_rfl
theorem own_kinds : namedTabs.map (fun x => Tryz.prog.kindOfLater x.1) = [.sentinel, .sentinel, .sentinel, .data, .data, .data, .sentinel, .sentinel, .sentinel, .data, .sentinel, .data, .sentinel, .sentinel, .sentinel, .data, .data, .sentinel, .sentinel, .sentinel, .sentinel].map some := by kernel_rfl
theorem own_some : (Tryz.prog.funcNamed "gosem.cut.vars").isSome = true := by kernel_rfl
theorem own_named : varsNamedLaterB Tryz.prog (varsId Tryz.prog) namedTabs = true := by kernel_rfl
end Go.Proofs.YtghddiboggdhcaaGreatDoor
