import Derived.Test.YtcidlnjpabgioaaGreatDoorUTieN
import Derived.Test.YtcidlnjpabgioaaGreatDoorUTieD
import Derived.Test.YtcidlnjpabgioaaGreatDoorUTieE
import Derived.Test.YtcidlnjpabgioaaGreatDoorUTieF
set_option maxRecDepth 100000
namespace Go.Proofs.YtcidlnjpabgioaaGreatDoor
open Go
theorem tie:Tryz.prog.laidByTextLater jU [.data,.data,.data,.data,.sentinel,.sentinel,.listed,.data,.data] true :=
 Program.laidByTextLater_by_run 400 8 aGt aCs aMr aJt aMs aJu aMp aMq aJr (by kernel_rfl)
theorem pin_laid_unicode_utf8_first:Tryz.pinned.checked.prog.pinnedFits "unicode/utf8.first" = true:=by kernel_rfl
theorem noOwnUnsafe:Tryz.pinned.checked.prog.headLifts.contains "ownunsafe" = false:=by kernel_rfl
theorem fits1:Tryz.pinned.checked.prog.listedFits [("math/bits.deBruijn32tab",Rows.laid_math_bits_deBruijn32tab),("math/bits.deBruijn64tab",Rows.laid_math_bits_deBruijn64tab),("internal/strconv.uint64pow10",Rows.laid_internal_strconv_uint64pow10),("unicode/utf8.acceptRanges",Rows.laid_unicode_utf8_acceptRanges),("strconv.ErrRange",Rows.laid_strconv_ErrRange),("strconv.ErrSyntax",Rows.laid_strconv_ErrSyntax),("unicode.White_Space",Rows.laid_unicode_White_Space),("strings.asciiSpace",Rows.laid_strings_asciiSpace),("given.example/pub-bradawl/impl.kindNames",Rows.laid_given_example_pub_bradawl_impl_kindNames),("unicode/utf8.first",Rows.laid_unicode_utf8_first)]=true:=by
 unfold Program.listedFits;rw[noOwnUnsafe]
 kernel_rfl
theorem aHO:Tryz.pinned.checked.prog.mainIs=some (true, "4034e2885ad37c80a1a8cbb2098fa5464e780aac8a05fc8aeb6fc05506455eb2".toList):=by kernel_rfl
theorem aEE:true=Tryz.pinned.checked.prog.looks []:=by kernel_rfl
theorem aED:Tryz.prog.wantsStandIn 22=false:=by kernel_rfl
theorem aHN:Tryz.prog.wantsStandIn 5=false:=by kernel_rfl
end Go.Proofs.YtcidlnjpabgioaaGreatDoor
