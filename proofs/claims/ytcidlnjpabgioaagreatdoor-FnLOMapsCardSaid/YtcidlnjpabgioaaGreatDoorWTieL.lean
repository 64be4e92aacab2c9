import Derived.Test.YtcidlnjpabgioaaGreatDoorRows
import Derived.LaidByTextLater
import Derived.SevenTiedAt
import Derived.LaidSub
import Derived.LaidOnce
namespace Go.Proofs.YtcidlnjpabgioaaGreatDoor
open Go
def jE : List (String × DataW Unit) := [("math/bits.deBruijn32tab", Rows.laid_math_bits_deBruijn32tab), ("math/bits.deBruijn64tab", Rows.laid_math_bits_deBruijn64tab), ("internal/strconv.uint64pow10", Rows.laid_internal_strconv_uint64pow10), ("unicode/utf8.acceptRanges", Rows.laid_unicode_utf8_acceptRanges), ("strconv.ErrRange", Rows.laid_strconv_ErrRange), ("strconv.ErrSyntax", Rows.laid_strconv_ErrSyntax), ("unicode.White_Space", Rows.laid_unicode_White_Space), ("strings.asciiSpace", Rows.laid_strings_asciiSpace), ("given.example/pub-bradawl/impl.kindNames", Rows.laid_given_example_pub_bradawl_impl_kindNames)]
theorem aEu : Tryz.prog.worded (varsWordLater true) = true := by kernel_rfl
theorem aBu : Tryz.prog.worded (varsWordLater !true) = false := by kernel_rfl
theorem aJr : Tryz.prog.worded rootWordLater = true := by kernel_rfl
theorem aGi : jE.map (fun x => Tryz.prog.kindOfLater x.1) = ([.data, .data, .data, .data, .sentinel, .sentinel, .listed, .data, .data] : List LaidKind).map some := by kernel_rfl
end Go.Proofs.YtcidlnjpabgioaaGreatDoor
