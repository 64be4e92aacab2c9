import Derived.Test.YtcidlnjpabgioaaGreatDoorRows
import Derived.SevenTiedAt
import Derived.LaidSub
import Derived.LaidOnce
namespace Go.Proofs.YtcidlnjpabgioaaGreatDoor
open Go
def jU:List (String × DataW Unit):=[("math/bits.deBruijn32tab",Rows.laid_math_bits_deBruijn32tab),("math/bits.deBruijn64tab",Rows.laid_math_bits_deBruijn64tab),("internal/strconv.uint64pow10",Rows.laid_internal_strconv_uint64pow10),("unicode/utf8.acceptRanges",Rows.laid_unicode_utf8_acceptRanges),("strconv.ErrRange",Rows.laid_strconv_ErrRange),("strconv.ErrSyntax",Rows.laid_strconv_ErrSyntax),("unicode.White_Space",Rows.laid_unicode_White_Space),("strings.asciiSpace",Rows.laid_strings_asciiSpace),("given.example/pub-bradawl/impl.kindNames",Rows.laid_given_example_pub_bradawl_impl_kindNames)]
theorem aGt:Tryz.prog.worded (varsWordLater true)=true:=by kernel_rfl
theorem aCs:Tryz.prog.worded (varsWordLater !true)=false:=by kernel_rfl
theorem aMr:Tryz.prog.worded rootWordLater=true:=by kernel_rfl
theorem aJt:jU.map (fun x=>Tryz.prog.kindOfLater x.1)=([.data,.data,.data,.data,.sentinel,.sentinel,.listed,.data,.data]:List LaidKind).map some:=by kernel_rfl
end Go.Proofs.YtcidlnjpabgioaaGreatDoor
