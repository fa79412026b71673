/-
  DERIVED. GIVEN WITH THE SEED: THE PROGRAM's TIES (one call each: nine closed facts by the kernel) AND EACH ROW's TIE, after the 31st guide's Derived/Test/Toyas{Tie, Card}.lean. No idea stands in it: it is a product of the set-up. Laid BY PROGRAM, IN A SANDBOX (cutbox-door.mjs). By AI agents, Wed Nov 11 2026. No macro, syntax, notation, axiom, sorry.
-/
import Derived.Test.YtghcecngdhcjpaaDoorRows
import Derived.LaidByTextLater
import Derived.SevenTiedAt
import Derived.LaidSub
import Derived.LaidOnce
namespace Go.Proofs.YtghcecngdhcjpaaDoor
open Go
set_option maxRecDepth 100000
theorem seatTie1 : Tryd.prog.laidByTextLater [("unicode/utf8.acceptRanges", Rows.laid_unicode_utf8_acceptRanges), ("io.ErrShortBuffer", Rows.laid_io_ErrShortBuffer), ("io.EOF", Rows.laid_io_EOF), ("io.ErrUnexpectedEOF", Rows.laid_io_ErrUnexpectedEOF), ("unicode.White_Space", Rows.laid_unicode_White_Space), ("bytes.ErrTooLarge", Rows.laid_bytes_ErrTooLarge), ("strings.asciiSpace", Rows.laid_strings_asciiSpace), ("loop.example/pub-g01474/pub/gogit/plumbing/format/pktline.ErrPayloadTooLong", Rows.laid_loop_example_pub_g01474_pub_gogit_plumbing_format_pktline_ErrPayloadTooLong), ("loop.example/pub-g01474/pub/gogit/plumbing/format/pktline.ErrInvalidPktLen", Rows.laid_loop_example_pub_g01474_pub_gogit_plumbing_format_pktline_ErrInvalidPktLen), ("loop.example/pub-g01474/pub/gogit/plumbing/protocol/packp/sideband.ErrMaxPackedExceeded", Rows.laid_loop_example_pub_g01474_pub_gogit_plumbing_protocol_packp_sideband_ErrMaxPackedExceeded)] [.data, .sentinel, .sentinel, .sentinel, .listed, .sentinel, .data, .sentinel, .sentinel, .sentinel] true :=
  Program.laidByTextLater_by_one 307 8 257 (by kernel_rfl) (by kernel_rfl) (by kernel_rfl) (by kernel_rfl) (by kernel_rfl) (by kernel_rfl) (fun _ _ => by kernel_rfl)
theorem seatTie2 : Tryd.prog.laidByTextLater [("io.ErrShortWrite", Rows.laid_io_ErrShortWrite), ("io.errInvalidWrite", Rows.laid_io_errInvalidWrite), ("io.EOF", Rows.laid_io_EOF), ("bytes.ErrTooLarge", Rows.laid_bytes_ErrTooLarge), ("bytes.errNegativeRead", Rows.laid_bytes_errNegativeRead), ("loop.example/pub-g01474/pub/gogit/plumbing/format/packfile.ErrInvalidDelta", Rows.laid_loop_example_pub_g01474_pub_gogit_plumbing_format_packfile_ErrInvalidDelta), ("loop.example/pub-g01474/pub/gogit/plumbing/format/packfile.ErrDeltaCmd", Rows.laid_loop_example_pub_g01474_pub_gogit_plumbing_format_packfile_ErrDeltaCmd), ("loop.example/pub-g01474/pub/gogit/plumbing/format/packfile.offsets", Rows.laid_loop_example_pub_g01474_pub_gogit_plumbing_format_packfile_offsets), ("loop.example/pub-g01474/pub/gogit/plumbing/format/packfile.sizes", Rows.laid_loop_example_pub_g01474_pub_gogit_plumbing_format_packfile_sizes), ("loop.example/pub-g01474/pub/gogit/plumbing/format/packfile.ErrLengthOverflow", Rows.laid_loop_example_pub_g01474_pub_gogit_plumbing_format_packfile_ErrLengthOverflow)] [.sentinel, .sentinel, .sentinel, .sentinel, .sentinel, .sentinel, .sentinel, .data, .data, .sentinel] true :=
  Program.laidByTextLater_by_one 307 8 257 (by kernel_rfl) (by kernel_rfl) (by kernel_rfl) (by kernel_rfl) (by kernel_rfl) (by kernel_rfl) (fun _ _ => by kernel_rfl)
theorem pin_laid_unicode_utf8_first : Tryd.pinned.checked.prog.pinnedFits "unicode/utf8.first" = true := by kernel_rfl
theorem noOwnUnsafe : Tryd.pinned.checked.prog.headLifts.contains "ownunsafe" = false := by kernel_rfl
theorem fits1 : Tryd.pinned.checked.prog.listedFits [("unicode/utf8.acceptRanges", Rows.laid_unicode_utf8_acceptRanges), ("io.ErrShortBuffer", Rows.laid_io_ErrShortBuffer), ("io.EOF", Rows.laid_io_EOF), ("io.ErrUnexpectedEOF", Rows.laid_io_ErrUnexpectedEOF), ("unicode.White_Space", Rows.laid_unicode_White_Space), ("bytes.ErrTooLarge", Rows.laid_bytes_ErrTooLarge), ("strings.asciiSpace", Rows.laid_strings_asciiSpace), ("loop.example/pub-g01474/pub/gogit/plumbing/format/pktline.ErrPayloadTooLong", Rows.laid_loop_example_pub_g01474_pub_gogit_plumbing_format_pktline_ErrPayloadTooLong), ("loop.example/pub-g01474/pub/gogit/plumbing/format/pktline.ErrInvalidPktLen", Rows.laid_loop_example_pub_g01474_pub_gogit_plumbing_format_pktline_ErrInvalidPktLen), ("loop.example/pub-g01474/pub/gogit/plumbing/protocol/packp/sideband.ErrMaxPackedExceeded", Rows.laid_loop_example_pub_g01474_pub_gogit_plumbing_protocol_packp_sideband_ErrMaxPackedExceeded), ("unicode/utf8.first", Rows.laid_unicode_utf8_first)] = true := by
  unfold Program.listedFits
  rw [noOwnUnsafe]
  kernel_rfl
theorem tie : Tryd.prog.laidByTextLater [("unicode/utf8.acceptRanges", Rows.laid_unicode_utf8_acceptRanges), ("io.ErrShortBuffer", Rows.laid_io_ErrShortBuffer), ("io.EOF", Rows.laid_io_EOF), ("io.ErrUnexpectedEOF", Rows.laid_io_ErrUnexpectedEOF), ("unicode.White_Space", Rows.laid_unicode_White_Space), ("bytes.ErrTooLarge", Rows.laid_bytes_ErrTooLarge), ("strings.asciiSpace", Rows.laid_strings_asciiSpace), ("loop.example/pub-g01474/pub/gogit/plumbing/format/pktline.ErrPayloadTooLong", Rows.laid_loop_example_pub_g01474_pub_gogit_plumbing_format_pktline_ErrPayloadTooLong), ("loop.example/pub-g01474/pub/gogit/plumbing/format/pktline.ErrInvalidPktLen", Rows.laid_loop_example_pub_g01474_pub_gogit_plumbing_format_pktline_ErrInvalidPktLen), ("loop.example/pub-g01474/pub/gogit/plumbing/protocol/packp/sideband.ErrMaxPackedExceeded", Rows.laid_loop_example_pub_g01474_pub_gogit_plumbing_protocol_packp_sideband_ErrMaxPackedExceeded)] [.data, .sentinel, .sentinel, .sentinel, .listed, .sentinel, .data, .sentinel, .sentinel, .sentinel] true :=
  Program.laidByTextLater.sub seatTie1 ["unicode/utf8.acceptRanges", "io.ErrShortBuffer", "io.EOF", "io.ErrUnexpectedEOF", "unicode.White_Space", "bytes.ErrTooLarge", "strings.asciiSpace", "loop.example/pub-g01474/pub/gogit/plumbing/format/pktline.ErrPayloadTooLong", "loop.example/pub-g01474/pub/gogit/plumbing/format/pktline.ErrInvalidPktLen", "loop.example/pub-g01474/pub/gogit/plumbing/protocol/packp/sideband.ErrMaxPackedExceeded"] (by kernel_rfl) (by kernel_rfl)
theorem fnSideBack_row_tie : Rows.fnSideBackRow.laidByTextAt .later Tryd.pinned [.data, .sentinel, .sentinel, .sentinel, .listed, .sentinel, .data, .sentinel, .sentinel, .sentinel, .pinned] true :=
  OpenClaim.laidByTextAt_pinned rfl rfl tie rfl rfl rfl rfl (fun y hy _e => by
    simp only [Rows.fnSideBackRow, List.zip_cons_cons, List.zip_nil_right, List.mem_cons, List.mem_nil_iff, or_false] at hy
    rcases hy with rfl | rfl | rfl | rfl | rfl | rfl | rfl | rfl | rfl | rfl | rfl
    · cases _e
    · cases _e
    · cases _e
    · cases _e
    · cases _e
    · cases _e
    · cases _e
    · cases _e
    · cases _e
    · cases _e
    · exact ⟨pin_laid_unicode_utf8_first, by kernel_rfl⟩) fits1
theorem tie2 : Tryd.prog.laidByTextLater [("io.ErrShortWrite", Rows.laid_io_ErrShortWrite), ("io.errInvalidWrite", Rows.laid_io_errInvalidWrite), ("io.EOF", Rows.laid_io_EOF), ("bytes.ErrTooLarge", Rows.laid_bytes_ErrTooLarge), ("bytes.errNegativeRead", Rows.laid_bytes_errNegativeRead), ("loop.example/pub-g01474/pub/gogit/plumbing/format/packfile.ErrInvalidDelta", Rows.laid_loop_example_pub_g01474_pub_gogit_plumbing_format_packfile_ErrInvalidDelta), ("loop.example/pub-g01474/pub/gogit/plumbing/format/packfile.ErrDeltaCmd", Rows.laid_loop_example_pub_g01474_pub_gogit_plumbing_format_packfile_ErrDeltaCmd), ("loop.example/pub-g01474/pub/gogit/plumbing/format/packfile.offsets", Rows.laid_loop_example_pub_g01474_pub_gogit_plumbing_format_packfile_offsets), ("loop.example/pub-g01474/pub/gogit/plumbing/format/packfile.sizes", Rows.laid_loop_example_pub_g01474_pub_gogit_plumbing_format_packfile_sizes), ("loop.example/pub-g01474/pub/gogit/plumbing/format/packfile.ErrLengthOverflow", Rows.laid_loop_example_pub_g01474_pub_gogit_plumbing_format_packfile_ErrLengthOverflow)] [.sentinel, .sentinel, .sentinel, .sentinel, .sentinel, .sentinel, .sentinel, .data, .data, .sentinel] true :=
  Program.laidByTextLater.sub seatTie2 ["io.ErrShortWrite", "io.errInvalidWrite", "io.EOF", "bytes.ErrTooLarge", "bytes.errNegativeRead", "loop.example/pub-g01474/pub/gogit/plumbing/format/packfile.ErrInvalidDelta", "loop.example/pub-g01474/pub/gogit/plumbing/format/packfile.ErrDeltaCmd", "loop.example/pub-g01474/pub/gogit/plumbing/format/packfile.offsets", "loop.example/pub-g01474/pub/gogit/plumbing/format/packfile.sizes", "loop.example/pub-g01474/pub/gogit/plumbing/format/packfile.ErrLengthOverflow"] (by kernel_rfl) (by kernel_rfl)
theorem fnDeltaRoads_row_tie : Rows.fnDeltaRoadsRow.laidByTextAt .later Tryd.pinned [.sentinel, .sentinel, .sentinel, .sentinel, .sentinel, .sentinel, .sentinel, .data, .data, .sentinel] true :=
  OpenClaim.laidByTextAt_later rfl rfl tie2 noOwnUnsafe
theorem fnSideBackUpto_row_tie : Rows.fnSideBackUptoRow.laidByTextAt .later Tryd.pinned [.data, .sentinel, .sentinel, .sentinel, .listed, .sentinel, .data, .sentinel, .sentinel, .sentinel, .pinned] true :=
  OpenClaim.laidByTextAt_pinned rfl rfl tie rfl rfl rfl rfl (fun y hy _e => by
    simp only [Rows.fnSideBackUptoRow, List.zip_cons_cons, List.zip_nil_right, List.mem_cons, List.mem_nil_iff, or_false] at hy
    rcases hy with rfl | rfl | rfl | rfl | rfl | rfl | rfl | rfl | rfl | rfl | rfl
    · cases _e
    · cases _e
    · cases _e
    · cases _e
    · cases _e
    · cases _e
    · cases _e
    · cases _e
    · cases _e
    · cases _e
    · exact ⟨pin_laid_unicode_utf8_first, by kernel_rfl⟩) fits1
theorem fnDeltaRoadsUpto_row_tie : Rows.fnDeltaRoadsUptoRow.laidByTextAt .later Tryd.pinned [.sentinel, .sentinel, .sentinel, .sentinel, .sentinel, .sentinel, .sentinel, .data, .data, .sentinel] true :=
  OpenClaim.laidByTextAt_later rfl rfl tie2 noOwnUnsafe
end Go.Proofs.YtghcecngdhcjpaaDoor
