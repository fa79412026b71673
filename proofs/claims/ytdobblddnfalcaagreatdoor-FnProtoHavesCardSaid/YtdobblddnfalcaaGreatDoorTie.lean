/-
  DERIVED. GIVEN WITH THE SEED: THE PROGRAM's TIES (one call each: nine closed facts by the kernel) AND EACH ROW's TIE, after the 31st guide's Derived/Test/Toyas{Tie, Card}.lean. No idea stands in it: it is a product of the set-up. Laid BY PROGRAM, IN A SANDBOX (cutbox-door.mjs). By AI agents, Wed Nov 11 2026. No macro, syntax, notation, axiom, sorry.
-/
import Derived.Test.YtdobblddnfalcaaGreatDoorRows
import Derived.LaidByTextLater
import Derived.SevenTiedAt
import Derived.LaidSub
import Derived.LaidOnce
namespace Go.Proofs.YtdobblddnfalcaaGreatDoor
open Go
set_option maxRecDepth 100000
theorem seatTie1 : Tryz.prog.laidByTextLater [("unicode/utf8.acceptRanges", Rows.laid_unicode_utf8_acceptRanges), ("io.ErrShortBuffer", Rows.laid_io_ErrShortBuffer), ("io.EOF", Rows.laid_io_EOF), ("io.ErrUnexpectedEOF", Rows.laid_io_ErrUnexpectedEOF), ("unicode.White_Space", Rows.laid_unicode_White_Space), ("bytes.asciiSpace", Rows.laid_bytes_asciiSpace), ("strings.asciiSpace", Rows.laid_strings_asciiSpace), ("encoding/hex.ErrLength", Rows.laid_encoding_hex_ErrLength), ("loop.example/pub-g01474/pub/gogit/plumbing/format/pktline.ErrInvalidPktLen", Rows.laid_loop_example_pub_g01474_pub_gogit_plumbing_format_pktline_ErrInvalidPktLen), ("loop.example/pub-g01474/pub/gogit/plumbing/protocol/packp/capability.ErrArgumentsRequired", Rows.laid_loop_example_pub_g01474_pub_gogit_plumbing_protocol_packp_capability_ErrArgumentsRequired), ("loop.example/pub-g01474/pub/gogit/plumbing/protocol/packp/capability.ErrArguments", Rows.laid_loop_example_pub_g01474_pub_gogit_plumbing_protocol_packp_capability_ErrArguments), ("loop.example/pub-g01474/pub/gogit/plumbing/protocol/packp/capability.ErrEmptyArgument", Rows.laid_loop_example_pub_g01474_pub_gogit_plumbing_protocol_packp_capability_ErrEmptyArgument), ("loop.example/pub-g01474/pub/gogit/plumbing/protocol/packp/capability.ErrMultipleArguments", Rows.laid_loop_example_pub_g01474_pub_gogit_plumbing_protocol_packp_capability_ErrMultipleArguments), ("loop.example/pub-g01474/pub/gogit/plumbing/protocol/packp.ErrEmptyAdvRefs", Rows.laid_loop_example_pub_g01474_pub_gogit_plumbing_protocol_packp_ErrEmptyAdvRefs), ("loop.example/pub-g01474/pub/gogit/plumbing/protocol/packp.ErrEmptyInput", Rows.laid_loop_example_pub_g01474_pub_gogit_plumbing_protocol_packp_ErrEmptyInput)] [.data, .sentinel, .sentinel, .sentinel, .listed, .data, .data, .sentinel, .sentinel, .sentinel, .sentinel, .sentinel, .sentinel, .sentinel, .sentinel] true :=
  Program.laidByTextLater_by_one 310 8 257 (by kernel_rfl) (by kernel_rfl) (by kernel_rfl) (by kernel_rfl) (by kernel_rfl) (by kernel_rfl) (fun _ _ => by kernel_rfl)
theorem seatTie2 : Tryz.prog.laidByTextLater [("unicode/utf8.acceptRanges", Rows.laid_unicode_utf8_acceptRanges), ("io.ErrShortBuffer", Rows.laid_io_ErrShortBuffer), ("io.EOF", Rows.laid_io_EOF), ("io.ErrUnexpectedEOF", Rows.laid_io_ErrUnexpectedEOF), ("unicode.White_Space", Rows.laid_unicode_White_Space), ("strings.asciiSpace", Rows.laid_strings_asciiSpace), ("encoding/hex.ErrLength", Rows.laid_encoding_hex_ErrLength), ("loop.example/pub-g01474/pub/gogit/plumbing/format/pktline.ErrPayloadTooLong", Rows.laid_loop_example_pub_g01474_pub_gogit_plumbing_format_pktline_ErrPayloadTooLong), ("loop.example/pub-g01474/pub/gogit/plumbing/format/pktline.ErrInvalidPktLen", Rows.laid_loop_example_pub_g01474_pub_gogit_plumbing_format_pktline_ErrInvalidPktLen)] [.data, .sentinel, .sentinel, .sentinel, .listed, .data, .sentinel, .sentinel, .sentinel] true :=
  Program.laidByTextLater_by_one 310 8 257 (by kernel_rfl) (by kernel_rfl) (by kernel_rfl) (by kernel_rfl) (by kernel_rfl) (by kernel_rfl) (fun _ _ => by kernel_rfl)
theorem seatTie3 : Tryz.prog.laidByTextLater [("math/bits.deBruijn32tab", Rows.laid_math_bits_deBruijn32tab), ("math/bits.deBruijn64tab", Rows.laid_math_bits_deBruijn64tab), ("internal/strconv.uint64pow10", Rows.laid_internal_strconv_uint64pow10), ("unicode/utf8.acceptRanges", Rows.laid_unicode_utf8_acceptRanges), ("io.ErrShortBuffer", Rows.laid_io_ErrShortBuffer), ("io.EOF", Rows.laid_io_EOF), ("io.ErrUnexpectedEOF", Rows.laid_io_ErrUnexpectedEOF), ("unicode.White_Space", Rows.laid_unicode_White_Space), ("strings.asciiSpace", Rows.laid_strings_asciiSpace), ("encoding/hex.ErrLength", Rows.laid_encoding_hex_ErrLength), ("loop.example/pub-g01474/pub/gogit/plumbing/format/pktline.ErrPayloadTooLong", Rows.laid_loop_example_pub_g01474_pub_gogit_plumbing_format_pktline_ErrPayloadTooLong), ("loop.example/pub-g01474/pub/gogit/plumbing/format/pktline.ErrInvalidPktLen", Rows.laid_loop_example_pub_g01474_pub_gogit_plumbing_format_pktline_ErrInvalidPktLen), ("loop.example/pub-g01474/pub/gogit/plumbing/protocol/packp/capability.ErrArgumentsRequired", Rows.laid_loop_example_pub_g01474_pub_gogit_plumbing_protocol_packp_capability_ErrArgumentsRequired), ("loop.example/pub-g01474/pub/gogit/plumbing/protocol/packp/capability.ErrArguments", Rows.laid_loop_example_pub_g01474_pub_gogit_plumbing_protocol_packp_capability_ErrArguments), ("loop.example/pub-g01474/pub/gogit/plumbing/protocol/packp/capability.ErrEmptyArgument", Rows.laid_loop_example_pub_g01474_pub_gogit_plumbing_protocol_packp_capability_ErrEmptyArgument), ("loop.example/pub-g01474/pub/gogit/plumbing/protocol/packp/capability.ErrMultipleArguments", Rows.laid_loop_example_pub_g01474_pub_gogit_plumbing_protocol_packp_capability_ErrMultipleArguments)] [.data, .data, .data, .data, .sentinel, .sentinel, .sentinel, .listed, .data, .sentinel, .sentinel, .sentinel, .sentinel, .sentinel, .sentinel, .sentinel] true :=
  Program.laidByTextLater_by_one 310 8 257 (by kernel_rfl) (by kernel_rfl) (by kernel_rfl) (by kernel_rfl) (by kernel_rfl) (by kernel_rfl) (fun _ _ => by kernel_rfl)
theorem pin_laid_unicode_utf8_first : Tryz.pinned.checked.prog.pinnedFits "unicode/utf8.first" = true := by kernel_rfl
theorem noOwnUnsafe : Tryz.pinned.checked.prog.headLifts.contains "ownunsafe" = false := by kernel_rfl
theorem fits1 : Tryz.pinned.checked.prog.listedFits [("unicode/utf8.acceptRanges", Rows.laid_unicode_utf8_acceptRanges), ("io.ErrShortBuffer", Rows.laid_io_ErrShortBuffer), ("io.EOF", Rows.laid_io_EOF), ("io.ErrUnexpectedEOF", Rows.laid_io_ErrUnexpectedEOF), ("unicode.White_Space", Rows.laid_unicode_White_Space), ("bytes.asciiSpace", Rows.laid_bytes_asciiSpace), ("strings.asciiSpace", Rows.laid_strings_asciiSpace), ("encoding/hex.ErrLength", Rows.laid_encoding_hex_ErrLength), ("loop.example/pub-g01474/pub/gogit/plumbing/format/pktline.ErrInvalidPktLen", Rows.laid_loop_example_pub_g01474_pub_gogit_plumbing_format_pktline_ErrInvalidPktLen), ("loop.example/pub-g01474/pub/gogit/plumbing/protocol/packp/capability.ErrArgumentsRequired", Rows.laid_loop_example_pub_g01474_pub_gogit_plumbing_protocol_packp_capability_ErrArgumentsRequired), ("loop.example/pub-g01474/pub/gogit/plumbing/protocol/packp/capability.ErrArguments", Rows.laid_loop_example_pub_g01474_pub_gogit_plumbing_protocol_packp_capability_ErrArguments), ("loop.example/pub-g01474/pub/gogit/plumbing/protocol/packp/capability.ErrEmptyArgument", Rows.laid_loop_example_pub_g01474_pub_gogit_plumbing_protocol_packp_capability_ErrEmptyArgument), ("loop.example/pub-g01474/pub/gogit/plumbing/protocol/packp/capability.ErrMultipleArguments", Rows.laid_loop_example_pub_g01474_pub_gogit_plumbing_protocol_packp_capability_ErrMultipleArguments), ("loop.example/pub-g01474/pub/gogit/plumbing/protocol/packp.ErrEmptyAdvRefs", Rows.laid_loop_example_pub_g01474_pub_gogit_plumbing_protocol_packp_ErrEmptyAdvRefs), ("loop.example/pub-g01474/pub/gogit/plumbing/protocol/packp.ErrEmptyInput", Rows.laid_loop_example_pub_g01474_pub_gogit_plumbing_protocol_packp_ErrEmptyInput), ("unicode/utf8.first", Rows.laid_unicode_utf8_first)] = true := by
  unfold Program.listedFits
  rw [noOwnUnsafe]
  kernel_rfl
theorem tie : Tryz.prog.laidByTextLater [("unicode/utf8.acceptRanges", Rows.laid_unicode_utf8_acceptRanges), ("io.ErrShortBuffer", Rows.laid_io_ErrShortBuffer), ("io.EOF", Rows.laid_io_EOF), ("io.ErrUnexpectedEOF", Rows.laid_io_ErrUnexpectedEOF), ("unicode.White_Space", Rows.laid_unicode_White_Space), ("bytes.asciiSpace", Rows.laid_bytes_asciiSpace), ("strings.asciiSpace", Rows.laid_strings_asciiSpace), ("encoding/hex.ErrLength", Rows.laid_encoding_hex_ErrLength), ("loop.example/pub-g01474/pub/gogit/plumbing/format/pktline.ErrInvalidPktLen", Rows.laid_loop_example_pub_g01474_pub_gogit_plumbing_format_pktline_ErrInvalidPktLen), ("loop.example/pub-g01474/pub/gogit/plumbing/protocol/packp/capability.ErrArgumentsRequired", Rows.laid_loop_example_pub_g01474_pub_gogit_plumbing_protocol_packp_capability_ErrArgumentsRequired), ("loop.example/pub-g01474/pub/gogit/plumbing/protocol/packp/capability.ErrArguments", Rows.laid_loop_example_pub_g01474_pub_gogit_plumbing_protocol_packp_capability_ErrArguments), ("loop.example/pub-g01474/pub/gogit/plumbing/protocol/packp/capability.ErrEmptyArgument", Rows.laid_loop_example_pub_g01474_pub_gogit_plumbing_protocol_packp_capability_ErrEmptyArgument), ("loop.example/pub-g01474/pub/gogit/plumbing/protocol/packp/capability.ErrMultipleArguments", Rows.laid_loop_example_pub_g01474_pub_gogit_plumbing_protocol_packp_capability_ErrMultipleArguments), ("loop.example/pub-g01474/pub/gogit/plumbing/protocol/packp.ErrEmptyAdvRefs", Rows.laid_loop_example_pub_g01474_pub_gogit_plumbing_protocol_packp_ErrEmptyAdvRefs), ("loop.example/pub-g01474/pub/gogit/plumbing/protocol/packp.ErrEmptyInput", Rows.laid_loop_example_pub_g01474_pub_gogit_plumbing_protocol_packp_ErrEmptyInput)] [.data, .sentinel, .sentinel, .sentinel, .listed, .data, .data, .sentinel, .sentinel, .sentinel, .sentinel, .sentinel, .sentinel, .sentinel, .sentinel] true :=
  Program.laidByTextLater.sub seatTie1 ["unicode/utf8.acceptRanges", "io.ErrShortBuffer", "io.EOF", "io.ErrUnexpectedEOF", "unicode.White_Space", "bytes.asciiSpace", "strings.asciiSpace", "encoding/hex.ErrLength", "loop.example/pub-g01474/pub/gogit/plumbing/format/pktline.ErrInvalidPktLen", "loop.example/pub-g01474/pub/gogit/plumbing/protocol/packp/capability.ErrArgumentsRequired", "loop.example/pub-g01474/pub/gogit/plumbing/protocol/packp/capability.ErrArguments", "loop.example/pub-g01474/pub/gogit/plumbing/protocol/packp/capability.ErrEmptyArgument", "loop.example/pub-g01474/pub/gogit/plumbing/protocol/packp/capability.ErrMultipleArguments", "loop.example/pub-g01474/pub/gogit/plumbing/protocol/packp.ErrEmptyAdvRefs", "loop.example/pub-g01474/pub/gogit/plumbing/protocol/packp.ErrEmptyInput"] (by kernel_rfl) (by kernel_rfl)
theorem fnProtoAdvRead_row_tie : Rows.fnProtoAdvReadRow.laidByTextAt .later Tryz.pinned [.data, .sentinel, .sentinel, .sentinel, .listed, .data, .data, .sentinel, .sentinel, .sentinel, .sentinel, .sentinel, .sentinel, .sentinel, .sentinel, .pinned] true :=
  OpenClaim.laidByTextAt_pinned rfl rfl tie rfl rfl rfl rfl (fun y hy _e => by
    simp only [Rows.fnProtoAdvReadRow, List.zip_cons_cons, List.zip_nil_right, List.mem_cons, List.mem_nil_iff, or_false] at hy
    rcases hy with rfl | rfl | rfl | rfl | rfl | rfl | rfl | rfl | rfl | rfl | rfl | rfl | rfl | rfl | rfl | rfl
    · cases _e
    · cases _e
    · cases _e
    · cases _e
    · cases _e
    · cases _e
    · cases _e
    · cases _e
    · cases _e
    · cases _e
    · cases _e
    · cases _e
    · cases _e
    · cases _e
    · cases _e
    · exact ⟨pin_laid_unicode_utf8_first, by kernel_rfl⟩) fits1
theorem fits2 : Tryz.pinned.checked.prog.listedFits [("unicode/utf8.acceptRanges", Rows.laid_unicode_utf8_acceptRanges), ("io.ErrShortBuffer", Rows.laid_io_ErrShortBuffer), ("io.EOF", Rows.laid_io_EOF), ("io.ErrUnexpectedEOF", Rows.laid_io_ErrUnexpectedEOF), ("unicode.White_Space", Rows.laid_unicode_White_Space), ("strings.asciiSpace", Rows.laid_strings_asciiSpace), ("encoding/hex.ErrLength", Rows.laid_encoding_hex_ErrLength), ("loop.example/pub-g01474/pub/gogit/plumbing/format/pktline.ErrPayloadTooLong", Rows.laid_loop_example_pub_g01474_pub_gogit_plumbing_format_pktline_ErrPayloadTooLong), ("loop.example/pub-g01474/pub/gogit/plumbing/format/pktline.ErrInvalidPktLen", Rows.laid_loop_example_pub_g01474_pub_gogit_plumbing_format_pktline_ErrInvalidPktLen), ("unicode/utf8.first", Rows.laid_unicode_utf8_first)] = true := by
  unfold Program.listedFits
  rw [noOwnUnsafe]
  kernel_rfl
theorem tie2 : Tryz.prog.laidByTextLater [("unicode/utf8.acceptRanges", Rows.laid_unicode_utf8_acceptRanges), ("io.ErrShortBuffer", Rows.laid_io_ErrShortBuffer), ("io.EOF", Rows.laid_io_EOF), ("io.ErrUnexpectedEOF", Rows.laid_io_ErrUnexpectedEOF), ("unicode.White_Space", Rows.laid_unicode_White_Space), ("strings.asciiSpace", Rows.laid_strings_asciiSpace), ("encoding/hex.ErrLength", Rows.laid_encoding_hex_ErrLength), ("loop.example/pub-g01474/pub/gogit/plumbing/format/pktline.ErrPayloadTooLong", Rows.laid_loop_example_pub_g01474_pub_gogit_plumbing_format_pktline_ErrPayloadTooLong), ("loop.example/pub-g01474/pub/gogit/plumbing/format/pktline.ErrInvalidPktLen", Rows.laid_loop_example_pub_g01474_pub_gogit_plumbing_format_pktline_ErrInvalidPktLen)] [.data, .sentinel, .sentinel, .sentinel, .listed, .data, .sentinel, .sentinel, .sentinel] true :=
  Program.laidByTextLater.sub seatTie2 ["unicode/utf8.acceptRanges", "io.ErrShortBuffer", "io.EOF", "io.ErrUnexpectedEOF", "unicode.White_Space", "strings.asciiSpace", "encoding/hex.ErrLength", "loop.example/pub-g01474/pub/gogit/plumbing/format/pktline.ErrPayloadTooLong", "loop.example/pub-g01474/pub/gogit/plumbing/format/pktline.ErrInvalidPktLen"] (by kernel_rfl) (by kernel_rfl)
theorem fnProtoHaves_row_tie : Rows.fnProtoHavesRow.laidByTextAt .later Tryz.pinned [.data, .sentinel, .sentinel, .sentinel, .listed, .data, .sentinel, .sentinel, .sentinel, .pinned] true :=
  OpenClaim.laidByTextAt_pinned rfl rfl tie2 rfl rfl rfl rfl (fun y hy _e => by
    simp only [Rows.fnProtoHavesRow, List.zip_cons_cons, List.zip_nil_right, List.mem_cons, List.mem_nil_iff, or_false] at hy
    rcases hy with rfl | rfl | rfl | rfl | rfl | rfl | rfl | rfl | rfl | rfl
    · cases _e
    · cases _e
    · cases _e
    · cases _e
    · cases _e
    · cases _e
    · cases _e
    · cases _e
    · cases _e
    · exact ⟨pin_laid_unicode_utf8_first, by kernel_rfl⟩) fits2
theorem fits3 : Tryz.pinned.checked.prog.listedFits [("math/bits.deBruijn32tab", Rows.laid_math_bits_deBruijn32tab), ("math/bits.deBruijn64tab", Rows.laid_math_bits_deBruijn64tab), ("internal/strconv.uint64pow10", Rows.laid_internal_strconv_uint64pow10), ("unicode/utf8.acceptRanges", Rows.laid_unicode_utf8_acceptRanges), ("io.ErrShortBuffer", Rows.laid_io_ErrShortBuffer), ("io.EOF", Rows.laid_io_EOF), ("io.ErrUnexpectedEOF", Rows.laid_io_ErrUnexpectedEOF), ("unicode.White_Space", Rows.laid_unicode_White_Space), ("strings.asciiSpace", Rows.laid_strings_asciiSpace), ("encoding/hex.ErrLength", Rows.laid_encoding_hex_ErrLength), ("loop.example/pub-g01474/pub/gogit/plumbing/format/pktline.ErrPayloadTooLong", Rows.laid_loop_example_pub_g01474_pub_gogit_plumbing_format_pktline_ErrPayloadTooLong), ("loop.example/pub-g01474/pub/gogit/plumbing/format/pktline.ErrInvalidPktLen", Rows.laid_loop_example_pub_g01474_pub_gogit_plumbing_format_pktline_ErrInvalidPktLen), ("loop.example/pub-g01474/pub/gogit/plumbing/protocol/packp/capability.ErrArgumentsRequired", Rows.laid_loop_example_pub_g01474_pub_gogit_plumbing_protocol_packp_capability_ErrArgumentsRequired), ("loop.example/pub-g01474/pub/gogit/plumbing/protocol/packp/capability.ErrArguments", Rows.laid_loop_example_pub_g01474_pub_gogit_plumbing_protocol_packp_capability_ErrArguments), ("loop.example/pub-g01474/pub/gogit/plumbing/protocol/packp/capability.ErrEmptyArgument", Rows.laid_loop_example_pub_g01474_pub_gogit_plumbing_protocol_packp_capability_ErrEmptyArgument), ("loop.example/pub-g01474/pub/gogit/plumbing/protocol/packp/capability.ErrMultipleArguments", Rows.laid_loop_example_pub_g01474_pub_gogit_plumbing_protocol_packp_capability_ErrMultipleArguments), ("unicode/utf8.first", Rows.laid_unicode_utf8_first)] = true := by
  unfold Program.listedFits
  rw [noOwnUnsafe]
  kernel_rfl
theorem tie3 : Tryz.prog.laidByTextLater [("math/bits.deBruijn32tab", Rows.laid_math_bits_deBruijn32tab), ("math/bits.deBruijn64tab", Rows.laid_math_bits_deBruijn64tab), ("internal/strconv.uint64pow10", Rows.laid_internal_strconv_uint64pow10), ("unicode/utf8.acceptRanges", Rows.laid_unicode_utf8_acceptRanges), ("io.ErrShortBuffer", Rows.laid_io_ErrShortBuffer), ("io.EOF", Rows.laid_io_EOF), ("io.ErrUnexpectedEOF", Rows.laid_io_ErrUnexpectedEOF), ("unicode.White_Space", Rows.laid_unicode_White_Space), ("strings.asciiSpace", Rows.laid_strings_asciiSpace), ("encoding/hex.ErrLength", Rows.laid_encoding_hex_ErrLength), ("loop.example/pub-g01474/pub/gogit/plumbing/format/pktline.ErrPayloadTooLong", Rows.laid_loop_example_pub_g01474_pub_gogit_plumbing_format_pktline_ErrPayloadTooLong), ("loop.example/pub-g01474/pub/gogit/plumbing/format/pktline.ErrInvalidPktLen", Rows.laid_loop_example_pub_g01474_pub_gogit_plumbing_format_pktline_ErrInvalidPktLen), ("loop.example/pub-g01474/pub/gogit/plumbing/protocol/packp/capability.ErrArgumentsRequired", Rows.laid_loop_example_pub_g01474_pub_gogit_plumbing_protocol_packp_capability_ErrArgumentsRequired), ("loop.example/pub-g01474/pub/gogit/plumbing/protocol/packp/capability.ErrArguments", Rows.laid_loop_example_pub_g01474_pub_gogit_plumbing_protocol_packp_capability_ErrArguments), ("loop.example/pub-g01474/pub/gogit/plumbing/protocol/packp/capability.ErrEmptyArgument", Rows.laid_loop_example_pub_g01474_pub_gogit_plumbing_protocol_packp_capability_ErrEmptyArgument), ("loop.example/pub-g01474/pub/gogit/plumbing/protocol/packp/capability.ErrMultipleArguments", Rows.laid_loop_example_pub_g01474_pub_gogit_plumbing_protocol_packp_capability_ErrMultipleArguments)] [.data, .data, .data, .data, .sentinel, .sentinel, .sentinel, .listed, .data, .sentinel, .sentinel, .sentinel, .sentinel, .sentinel, .sentinel, .sentinel] true :=
  Program.laidByTextLater.sub seatTie3 ["math/bits.deBruijn32tab", "math/bits.deBruijn64tab", "internal/strconv.uint64pow10", "unicode/utf8.acceptRanges", "io.ErrShortBuffer", "io.EOF", "io.ErrUnexpectedEOF", "unicode.White_Space", "strings.asciiSpace", "encoding/hex.ErrLength", "loop.example/pub-g01474/pub/gogit/plumbing/format/pktline.ErrPayloadTooLong", "loop.example/pub-g01474/pub/gogit/plumbing/format/pktline.ErrInvalidPktLen", "loop.example/pub-g01474/pub/gogit/plumbing/protocol/packp/capability.ErrArgumentsRequired", "loop.example/pub-g01474/pub/gogit/plumbing/protocol/packp/capability.ErrArguments", "loop.example/pub-g01474/pub/gogit/plumbing/protocol/packp/capability.ErrEmptyArgument", "loop.example/pub-g01474/pub/gogit/plumbing/protocol/packp/capability.ErrMultipleArguments"] (by kernel_rfl) (by kernel_rfl)
theorem fnProtoWantSorted_row_tie : Rows.fnProtoWantSortedRow.laidByTextAt .later Tryz.pinned [.data, .data, .data, .data, .sentinel, .sentinel, .sentinel, .listed, .data, .sentinel, .sentinel, .sentinel, .sentinel, .sentinel, .sentinel, .sentinel, .pinned] true :=
  OpenClaim.laidByTextAt_pinned rfl rfl tie3 rfl rfl rfl rfl (fun y hy _e => by
    simp only [Rows.fnProtoWantSortedRow, List.zip_cons_cons, List.zip_nil_right, List.mem_cons, List.mem_nil_iff, or_false] at hy
    rcases hy with rfl | rfl | rfl | rfl | rfl | rfl | rfl | rfl | rfl | rfl | rfl | rfl | rfl | rfl | rfl | rfl | rfl
    · cases _e
    · cases _e
    · cases _e
    · cases _e
    · cases _e
    · cases _e
    · cases _e
    · cases _e
    · cases _e
    · cases _e
    · cases _e
    · cases _e
    · cases _e
    · cases _e
    · cases _e
    · cases _e
    · exact ⟨pin_laid_unicode_utf8_first, by kernel_rfl⟩) fits3
theorem fnProtoAdvReadUpto_row_tie : Rows.fnProtoAdvReadUptoRow.laidByTextAt .later Tryz.pinned [.data, .sentinel, .sentinel, .sentinel, .listed, .data, .data, .sentinel, .sentinel, .sentinel, .sentinel, .sentinel, .sentinel, .sentinel, .sentinel, .pinned] true :=
  OpenClaim.laidByTextAt_pinned rfl rfl tie rfl rfl rfl rfl (fun y hy _e => by
    simp only [Rows.fnProtoAdvReadUptoRow, List.zip_cons_cons, List.zip_nil_right, List.mem_cons, List.mem_nil_iff, or_false] at hy
    rcases hy with rfl | rfl | rfl | rfl | rfl | rfl | rfl | rfl | rfl | rfl | rfl | rfl | rfl | rfl | rfl | rfl
    · cases _e
    · cases _e
    · cases _e
    · cases _e
    · cases _e
    · cases _e
    · cases _e
    · cases _e
    · cases _e
    · cases _e
    · cases _e
    · cases _e
    · cases _e
    · cases _e
    · cases _e
    · exact ⟨pin_laid_unicode_utf8_first, by kernel_rfl⟩) fits1
theorem fnProtoHavesUpto_row_tie : Rows.fnProtoHavesUptoRow.laidByTextAt .later Tryz.pinned [.data, .sentinel, .sentinel, .sentinel, .listed, .data, .sentinel, .sentinel, .sentinel, .pinned] true :=
  OpenClaim.laidByTextAt_pinned rfl rfl tie2 rfl rfl rfl rfl (fun y hy _e => by
    simp only [Rows.fnProtoHavesUptoRow, List.zip_cons_cons, List.zip_nil_right, List.mem_cons, List.mem_nil_iff, or_false] at hy
    rcases hy with rfl | rfl | rfl | rfl | rfl | rfl | rfl | rfl | rfl | rfl
    · cases _e
    · cases _e
    · cases _e
    · cases _e
    · cases _e
    · cases _e
    · cases _e
    · cases _e
    · cases _e
    · exact ⟨pin_laid_unicode_utf8_first, by kernel_rfl⟩) fits2
theorem fnProtoWantSortedUpto_row_tie : Rows.fnProtoWantSortedUptoRow.laidByTextAt .later Tryz.pinned [.data, .data, .data, .data, .sentinel, .sentinel, .sentinel, .listed, .data, .sentinel, .sentinel, .sentinel, .sentinel, .sentinel, .sentinel, .sentinel, .pinned] true :=
  OpenClaim.laidByTextAt_pinned rfl rfl tie3 rfl rfl rfl rfl (fun y hy _e => by
    simp only [Rows.fnProtoWantSortedUptoRow, List.zip_cons_cons, List.zip_nil_right, List.mem_cons, List.mem_nil_iff, or_false] at hy
    rcases hy with rfl | rfl | rfl | rfl | rfl | rfl | rfl | rfl | rfl | rfl | rfl | rfl | rfl | rfl | rfl | rfl | rfl
    · cases _e
    · cases _e
    · cases _e
    · cases _e
    · cases _e
    · cases _e
    · cases _e
    · cases _e
    · cases _e
    · cases _e
    · cases _e
    · cases _e
    · cases _e
    · cases _e
    · cases _e
    · cases _e
    · exact ⟨pin_laid_unicode_utf8_first, by kernel_rfl⟩) fits3
end Go.Proofs.YtdobblddnfalcaaGreatDoor
