/-
  DERIVED. GIVEN WITH THE SEED: THE PROGRAM's TIES (one call each: nine closed facts by the kernel) AND EACH ROW's TIE, after the 31st guide's Derived/Test/Toyas{Tie, Card}.lean. No idea stands in it: it is a product of the set-up. Laid BY PROGRAM, IN A SANDBOX (cutbox-door.mjs). By AI agents, Wed Nov 11 2026. No macro, syntax, notation, axiom, sorry.
-/
import Derived.Test.YtoofbppfbbhliaaDoorRows
import Derived.LaidByTextLater
import Derived.SevenTiedAt
import Derived.LaidSub
import Derived.LaidOnce
namespace Go.Proofs.YtoofbppfbbhliaaDoor
open Go
set_option maxRecDepth 100000
theorem seatTie1 : Tryd.prog.laidByTextLater [("bytes.ErrTooLarge", Rows.laid_bytes_ErrTooLarge), ("encoding/hex.ErrLength", Rows.laid_encoding_hex_ErrLength), ("loop.example/pub-g01474/pub/gogit/plumbing.ErrInvalidType", Rows.laid_loop_example_pub_g01474_pub_gogit_plumbing_ErrInvalidType), ("loop.example/pub-g01474/pub/gogit/plumbing/format/index.ErrEntryNotFound", Rows.laid_loop_example_pub_g01474_pub_gogit_plumbing_format_index_ErrEntryNotFound), ("loop.example/pub-g01474/pub/gogit/plumbing/format/packfile.ErrInvalidDelta", Rows.laid_loop_example_pub_g01474_pub_gogit_plumbing_format_packfile_ErrInvalidDelta), ("loop.example/pub-g01474/pub/gogit/plumbing/format/packfile.ErrDeltaCmd", Rows.laid_loop_example_pub_g01474_pub_gogit_plumbing_format_packfile_ErrDeltaCmd), ("loop.example/pub-g01474/pub/gogit/plumbing/format/packfile.offsets", Rows.laid_loop_example_pub_g01474_pub_gogit_plumbing_format_packfile_offsets), ("loop.example/pub-g01474/pub/gogit/plumbing/format/packfile.sizes", Rows.laid_loop_example_pub_g01474_pub_gogit_plumbing_format_packfile_sizes), ("loop.example/pub-g01474/pub/gogit/plumbing/format/packfile.ErrLengthOverflow", Rows.laid_loop_example_pub_g01474_pub_gogit_plumbing_format_packfile_ErrLengthOverflow)] [.sentinel, .sentinel, .sentinel, .sentinel, .sentinel, .sentinel, .data, .data, .sentinel] true :=
  Program.laidByTextLater_by_one 273 8 189 (by kernel_rfl) (by kernel_rfl) (by kernel_rfl) (by kernel_rfl) (by kernel_rfl) (by kernel_rfl) (fun _ _ => by kernel_rfl)
theorem seatTie2 : Tryd.prog.laidByTextLater [("unicode/utf8.acceptRanges", Rows.laid_unicode_utf8_acceptRanges), ("unicode.asciiFold", Rows.laid_unicode_asciiFold), ("unicode.caseOrbit", Rows.laid_unicode_caseOrbit)] [.data, .data, .data] true :=
  Program.laidByTextLater_by_one 273 8 189 (by kernel_rfl) (by kernel_rfl) (by kernel_rfl) (by kernel_rfl) (by kernel_rfl) (by kernel_rfl) (fun _ _ => by kernel_rfl)
theorem pin_laid_unicode_CaseRanges : Tryd.pinned.checked.prog.pinnedFits "unicode.CaseRanges" = true := by kernel_rfl
theorem pin_laid_unicode_utf8_first : Tryd.pinned.checked.prog.pinnedFits "unicode/utf8.first" = true := by kernel_rfl
theorem noOwnUnsafe : Tryd.pinned.checked.prog.headLifts.contains "ownunsafe" = false := by kernel_rfl
theorem tie : Tryd.prog.laidByTextLater [("loop.example/pub-g01474/pub/gogit/plumbing.ErrInvalidType", Rows.laid_loop_example_pub_g01474_pub_gogit_plumbing_ErrInvalidType)] [.sentinel] true :=
  Program.laidByTextLater.sub seatTie1 ["loop.example/pub-g01474/pub/gogit/plumbing.ErrInvalidType"] (by kernel_rfl) (by kernel_rfl)
theorem fnObjKinds_row_tie : Rows.fnObjKindsRow.laidByTextAt .later Tryd.pinned [.sentinel] true :=
  OpenClaim.laidByTextAt_later rfl rfl tie noOwnUnsafe
theorem tie2 : Tryd.prog.laidByTextLater [("encoding/hex.ErrLength", Rows.laid_encoding_hex_ErrLength)] [.sentinel] true :=
  Program.laidByTextLater.sub seatTie1 ["encoding/hex.ErrLength"] (by kernel_rfl) (by kernel_rfl)
theorem fnObjNewHash_row_tie : Rows.fnObjNewHashRow.laidByTextAt .later Tryd.pinned [.sentinel] true :=
  OpenClaim.laidByTextAt_later rfl rfl tie2 noOwnUnsafe
theorem fnRefStrings_row_tie : Rows.fnRefStringsRow.laidByTextAt .later Tryd.pinned [.sentinel] true :=
  OpenClaim.laidByTextAt_later rfl rfl tie2 noOwnUnsafe
theorem tie3 : Tryd.prog.laidByTextLater [("encoding/hex.ErrLength", Rows.laid_encoding_hex_ErrLength), ("loop.example/pub-g01474/pub/gogit/plumbing/format/index.ErrEntryNotFound", Rows.laid_loop_example_pub_g01474_pub_gogit_plumbing_format_index_ErrEntryNotFound)] [.sentinel, .sentinel] true :=
  Program.laidByTextLater.sub seatTie1 ["encoding/hex.ErrLength", "loop.example/pub-g01474/pub/gogit/plumbing/format/index.ErrEntryNotFound"] (by kernel_rfl) (by kernel_rfl)
theorem fnIdxDrop_row_tie : Rows.fnIdxDropRow.laidByTextAt .later Tryd.pinned [.sentinel, .sentinel] true :=
  OpenClaim.laidByTextAt_later rfl rfl tie3 noOwnUnsafe
theorem tie4 : Tryd.prog.laidByTextLater [("bytes.ErrTooLarge", Rows.laid_bytes_ErrTooLarge), ("loop.example/pub-g01474/pub/gogit/plumbing/format/packfile.ErrInvalidDelta", Rows.laid_loop_example_pub_g01474_pub_gogit_plumbing_format_packfile_ErrInvalidDelta), ("loop.example/pub-g01474/pub/gogit/plumbing/format/packfile.ErrDeltaCmd", Rows.laid_loop_example_pub_g01474_pub_gogit_plumbing_format_packfile_ErrDeltaCmd), ("loop.example/pub-g01474/pub/gogit/plumbing/format/packfile.offsets", Rows.laid_loop_example_pub_g01474_pub_gogit_plumbing_format_packfile_offsets), ("loop.example/pub-g01474/pub/gogit/plumbing/format/packfile.sizes", Rows.laid_loop_example_pub_g01474_pub_gogit_plumbing_format_packfile_sizes), ("loop.example/pub-g01474/pub/gogit/plumbing/format/packfile.ErrLengthOverflow", Rows.laid_loop_example_pub_g01474_pub_gogit_plumbing_format_packfile_ErrLengthOverflow)] [.sentinel, .sentinel, .sentinel, .data, .data, .sentinel] true :=
  Program.laidByTextLater.sub seatTie1 ["bytes.ErrTooLarge", "loop.example/pub-g01474/pub/gogit/plumbing/format/packfile.ErrInvalidDelta", "loop.example/pub-g01474/pub/gogit/plumbing/format/packfile.ErrDeltaCmd", "loop.example/pub-g01474/pub/gogit/plumbing/format/packfile.offsets", "loop.example/pub-g01474/pub/gogit/plumbing/format/packfile.sizes", "loop.example/pub-g01474/pub/gogit/plumbing/format/packfile.ErrLengthOverflow"] (by kernel_rfl) (by kernel_rfl)
theorem fnDeltaCut_row_tie : Rows.fnDeltaCutRow.laidByTextAt .later Tryd.pinned [.sentinel, .sentinel, .sentinel, .data, .data, .sentinel] true :=
  OpenClaim.laidByTextAt_later rfl rfl tie4 noOwnUnsafe
theorem fnDeltaInsert_row_tie : Rows.fnDeltaInsertRow.laidByTextAt .later Tryd.pinned [.sentinel, .sentinel, .sentinel, .data, .data, .sentinel] true :=
  OpenClaim.laidByTextAt_later rfl rfl tie4 noOwnUnsafe
theorem fnDeltaNothing_row_tie : Rows.fnDeltaNothingRow.laidByTextAt .later Tryd.pinned [.sentinel, .sentinel, .sentinel, .data, .data, .sentinel] true :=
  OpenClaim.laidByTextAt_later rfl rfl tie4 noOwnUnsafe
theorem fits5 : Tryd.pinned.checked.prog.listedFits [("unicode/utf8.acceptRanges", Rows.laid_unicode_utf8_acceptRanges), ("unicode.asciiFold", Rows.laid_unicode_asciiFold), ("unicode.caseOrbit", Rows.laid_unicode_caseOrbit), ("unicode.CaseRanges", Rows.laid_unicode_CaseRanges), ("unicode/utf8.first", Rows.laid_unicode_utf8_first)] = true := by
  unfold Program.listedFits
  rw [noOwnUnsafe]
  kernel_rfl
theorem tie5 : Tryd.prog.laidByTextLater [("unicode/utf8.acceptRanges", Rows.laid_unicode_utf8_acceptRanges), ("unicode.asciiFold", Rows.laid_unicode_asciiFold), ("unicode.caseOrbit", Rows.laid_unicode_caseOrbit)] [.data, .data, .data] true :=
  Program.laidByTextLater.sub seatTie2 ["unicode/utf8.acceptRanges", "unicode.asciiFold", "unicode.caseOrbit"] (by kernel_rfl) (by kernel_rfl)
theorem fnConfGet_row_tie : Rows.fnConfGetRow.laidByTextAt .later Tryd.pinned [.data, .data, .data, .pinned, .pinned] true :=
  OpenClaim.laidByTextAt_pinned rfl rfl tie5 rfl rfl rfl rfl (fun y hy _e => by
    simp only [Rows.fnConfGetRow, List.zip_cons_cons, List.zip_nil_right, List.mem_cons, List.mem_nil_iff, or_false] at hy
    rcases hy with rfl | rfl | rfl | rfl | rfl
    · cases _e
    · cases _e
    · cases _e
    · exact ⟨pin_laid_unicode_CaseRanges, by kernel_rfl⟩
    · exact ⟨pin_laid_unicode_utf8_first, by kernel_rfl⟩) fits5
theorem fnConfDrop_row_tie : Rows.fnConfDropRow.laidByTextAt .later Tryd.pinned [.data, .data, .data, .pinned, .pinned] true :=
  OpenClaim.laidByTextAt_pinned rfl rfl tie5 rfl rfl rfl rfl (fun y hy _e => by
    simp only [Rows.fnConfDropRow, List.zip_cons_cons, List.zip_nil_right, List.mem_cons, List.mem_nil_iff, or_false] at hy
    rcases hy with rfl | rfl | rfl | rfl | rfl
    · cases _e
    · cases _e
    · cases _e
    · exact ⟨pin_laid_unicode_CaseRanges, by kernel_rfl⟩
    · exact ⟨pin_laid_unicode_utf8_first, by kernel_rfl⟩) fits5
theorem fnConfAdd_row_tie : Rows.fnConfAddRow.laidByTextAt .later Tryd.pinned [.data, .data, .data, .pinned, .pinned] true :=
  OpenClaim.laidByTextAt_pinned rfl rfl tie5 rfl rfl rfl rfl (fun y hy _e => by
    simp only [Rows.fnConfAddRow, List.zip_cons_cons, List.zip_nil_right, List.mem_cons, List.mem_nil_iff, or_false] at hy
    rcases hy with rfl | rfl | rfl | rfl | rfl
    · cases _e
    · cases _e
    · cases _e
    · exact ⟨pin_laid_unicode_CaseRanges, by kernel_rfl⟩
    · exact ⟨pin_laid_unicode_utf8_first, by kernel_rfl⟩) fits5
theorem fnObjKindsUpto_row_tie : Rows.fnObjKindsUptoRow.laidByTextAt .later Tryd.pinned [.sentinel] true :=
  OpenClaim.laidByTextAt_later rfl rfl tie noOwnUnsafe
theorem fnObjNewHashUpto_row_tie : Rows.fnObjNewHashUptoRow.laidByTextAt .later Tryd.pinned [.sentinel] true :=
  OpenClaim.laidByTextAt_later rfl rfl tie2 noOwnUnsafe
theorem fnIdxDropUpto_row_tie : Rows.fnIdxDropUptoRow.laidByTextAt .later Tryd.pinned [.sentinel, .sentinel] true :=
  OpenClaim.laidByTextAt_later rfl rfl tie3 noOwnUnsafe
theorem fnRefStringsUpto_row_tie : Rows.fnRefStringsUptoRow.laidByTextAt .later Tryd.pinned [.sentinel] true :=
  OpenClaim.laidByTextAt_later rfl rfl tie2 noOwnUnsafe
theorem fnDeltaCutUpto_row_tie : Rows.fnDeltaCutUptoRow.laidByTextAt .later Tryd.pinned [.sentinel, .sentinel, .sentinel, .data, .data, .sentinel] true :=
  OpenClaim.laidByTextAt_later rfl rfl tie4 noOwnUnsafe
theorem fnDeltaInsertUpto_row_tie : Rows.fnDeltaInsertUptoRow.laidByTextAt .later Tryd.pinned [.sentinel, .sentinel, .sentinel, .data, .data, .sentinel] true :=
  OpenClaim.laidByTextAt_later rfl rfl tie4 noOwnUnsafe
theorem fnDeltaNothingUpto_row_tie : Rows.fnDeltaNothingUptoRow.laidByTextAt .later Tryd.pinned [.sentinel, .sentinel, .sentinel, .data, .data, .sentinel] true :=
  OpenClaim.laidByTextAt_later rfl rfl tie4 noOwnUnsafe
theorem fnConfGetUpto_row_tie : Rows.fnConfGetUptoRow.laidByTextAt .later Tryd.pinned [.data, .data, .data, .pinned, .pinned] true :=
  OpenClaim.laidByTextAt_pinned rfl rfl tie5 rfl rfl rfl rfl (fun y hy _e => by
    simp only [Rows.fnConfGetUptoRow, List.zip_cons_cons, List.zip_nil_right, List.mem_cons, List.mem_nil_iff, or_false] at hy
    rcases hy with rfl | rfl | rfl | rfl | rfl
    · cases _e
    · cases _e
    · cases _e
    · exact ⟨pin_laid_unicode_CaseRanges, by kernel_rfl⟩
    · exact ⟨pin_laid_unicode_utf8_first, by kernel_rfl⟩) fits5
theorem fnConfDropUpto_row_tie : Rows.fnConfDropUptoRow.laidByTextAt .later Tryd.pinned [.data, .data, .data, .pinned, .pinned] true :=
  OpenClaim.laidByTextAt_pinned rfl rfl tie5 rfl rfl rfl rfl (fun y hy _e => by
    simp only [Rows.fnConfDropUptoRow, List.zip_cons_cons, List.zip_nil_right, List.mem_cons, List.mem_nil_iff, or_false] at hy
    rcases hy with rfl | rfl | rfl | rfl | rfl
    · cases _e
    · cases _e
    · cases _e
    · exact ⟨pin_laid_unicode_CaseRanges, by kernel_rfl⟩
    · exact ⟨pin_laid_unicode_utf8_first, by kernel_rfl⟩) fits5
theorem fnConfAddUpto_row_tie : Rows.fnConfAddUptoRow.laidByTextAt .later Tryd.pinned [.data, .data, .data, .pinned, .pinned] true :=
  OpenClaim.laidByTextAt_pinned rfl rfl tie5 rfl rfl rfl rfl (fun y hy _e => by
    simp only [Rows.fnConfAddUptoRow, List.zip_cons_cons, List.zip_nil_right, List.mem_cons, List.mem_nil_iff, or_false] at hy
    rcases hy with rfl | rfl | rfl | rfl | rfl
    · cases _e
    · cases _e
    · cases _e
    · exact ⟨pin_laid_unicode_CaseRanges, by kernel_rfl⟩
    · exact ⟨pin_laid_unicode_utf8_first, by kernel_rfl⟩) fits5
end Go.Proofs.YtoofbppfbbhliaaDoor
