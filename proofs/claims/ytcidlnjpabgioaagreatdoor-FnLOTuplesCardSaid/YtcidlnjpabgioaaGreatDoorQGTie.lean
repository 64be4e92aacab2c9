import Derived.Test.YtcidlnjpabgioaaGreatDoorQTieN
import Derived.Test.YtcidlnjpabgioaaGreatDoorQTieD
import Derived.Test.YtcidlnjpabgioaaGreatDoorQTieE
import Derived.Test.YtcidlnjpabgioaaGreatDoorQTieF
import Derived.Test.YtcidlnjpabgioaaGreatDoorRows
import Derived.SevenTiedAt
namespace Go.Proofs.YtcidlnjpabgioaaGreatDoor
open Go
set_option maxRecDepth 100000
theorem tie : Tryz.prog.laidByTextLater tieList [.data, .data, .data, .data, .sentinel, .sentinel, .listed, .data, .data] true :=
 Program.laidByTextLater_by_run 400 8 tie_worded tie_unworded tie_root tie_kinds tie_vars tie_named tie_done tie_read tie_apart (by kernel_rfl)
end Go.Proofs.YtcidlnjpabgioaaGreatDoor
namespace Go.Proofs.YtcidlnjpabgioaaGreatDoor
open Go
set_option maxRecDepth 100000
theorem pin_laid_unicode_utf8_first : Tryz.pinned.checked.prog.pinnedFits "unicode/utf8.first" = true := by kernel_rfl
theorem noOwnUnsafe : Tryz.pinned.checked.prog.headLifts.contains "ownunsafe" = false := by kernel_rfl
theorem fits1 : Tryz.pinned.checked.prog.listedFits [("math/bits.deBruijn32tab", Rows.laid_math_bits_deBruijn32tab), ("math/bits.deBruijn64tab", Rows.laid_math_bits_deBruijn64tab), ("internal/strconv.uint64pow10", Rows.laid_internal_strconv_uint64pow10), ("unicode/utf8.acceptRanges", Rows.laid_unicode_utf8_acceptRanges), ("strconv.ErrRange", Rows.laid_strconv_ErrRange), ("strconv.ErrSyntax", Rows.laid_strconv_ErrSyntax), ("unicode.White_Space", Rows.laid_unicode_White_Space), ("strings.asciiSpace", Rows.laid_strings_asciiSpace), ("given.example/pub-bradawl/impl.kindNames", Rows.laid_given_example_pub_bradawl_impl_kindNames), ("unicode/utf8.first", Rows.laid_unicode_utf8_first)] = true := by
 unfold Program.listedFits
 rw [noOwnUnsafe]
 kernel_rfl
end Go.Proofs.YtcidlnjpabgioaaGreatDoor
namespace Go.Proofs.YtcidlnjpabgioaaGreatDoor
open Go
set_option maxRecDepth 100000
theorem card_main : Tryz.pinned.checked.prog.mainIs = some (true, "4034e2885ad37c80a1a8cbb2098fa5464e780aac8a05fc8aeb6fc05506455eb2".toList) := by kernel_rfl
theorem card_looks : true = Tryz.pinned.checked.prog.looks [] := by kernel_rfl
theorem card_bytes : Tryz.prog.wantsStandIn 22 = false := by kernel_rfl
theorem card_byte : Tryz.prog.wantsStandIn 5 = false := by kernel_rfl
end Go.Proofs.YtcidlnjpabgioaaGreatDoor
