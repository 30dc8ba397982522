/-
  A part of the proof: The tie of the row to the program's text: its listed variables hold, behind the program's own set-up, what the row says.
  Conditions: each contract's own.
-/
import Derived.Test.YteajpfckbnfdaaaGreatDoorH29
import Derived.Test.YteajpfckbnfdaaaGreatDoorH30
import Derived.Test.YteajpfckbnfdaaaGreatDoorH31
set_option linter.all false
namespace Go.Proofs.YteajpfckbnfdaaaGreatDoor
open Go
set_option maxRecDepth 100000
theorem ownPin_laid_unicode_utf8_first : Tryz.pinned.checked.prog.pinnedFits "unicode/utf8.first" = true := by kernel_rfl
theorem ownPin_laid_unicode_CaseRanges : Tryz.pinned.checked.prog.pinnedFits "unicode.CaseRanges" = true := by kernel_rfl
theorem ownNoUnsafe : Tryz.pinned.checked.prog.headLifts.contains "ownunsafe" = false := by kernel_rfl
theorem ownFits : Tryz.pinned.checked.prog.listedFits [("bytes.ErrTooLarge", Rows.laid_bytes_ErrTooLarge), ("io.errInvalidWrite", Rows.laid_io_errInvalidWrite), ("io.ErrShortWrite", Rows.laid_io_ErrShortWrite), ("io.EOF", Rows.laid_io_EOF), ("bufio.ErrBufferFull", Rows.laid_bufio_ErrBufferFull), ("bufio.errNegativeRead", Rows.laid_bufio_errNegativeRead), ("io.ErrNoProgress", Rows.laid_io_ErrNoProgress), ("loop.example/pub-mailparts/pub/multipart.ErrMessageTooLarge", Rows.laid_loop_example_pub_mailparts_pub_multipart_ErrMessageTooLarge), ("loop.example/pub-mailparts/pub/textproto.errMessageTooLarge", Rows.laid_loop_example_pub_mailparts_pub_textproto_errMessageTooLarge), ("bufio.ErrNegativeCount", Rows.laid_bufio_ErrNegativeCount), ("io.ErrUnexpectedEOF", Rows.laid_io_ErrUnexpectedEOF), ("bufio.ErrInvalidUnreadByte", Rows.laid_bufio_ErrInvalidUnreadByte), ("unicode/utf8.first", Rows.laid_unicode_utf8_first), ("unicode/utf8.acceptRanges", Rows.laid_unicode_utf8_acceptRanges), ("unicode.asciiFold", Rows.laid_unicode_asciiFold), ("unicode.caseOrbit", Rows.laid_unicode_caseOrbit), ("unicode.CaseRanges", Rows.laid_unicode_CaseRanges), ("loop.example/pub-mailparts/pub/gomime.ErrInvalidMediaParameter", Rows.laid_loop_example_pub_mailparts_pub_gomime_ErrInvalidMediaParameter), ("loop.example/pub-mailparts/pub/gomime.errDuplicateParamName", Rows.laid_loop_example_pub_mailparts_pub_gomime_errDuplicateParamName), ("strings.asciiSpace", Rows.laid_strings_asciiSpace), ("unicode.White_Space", Rows.laid_unicode_White_Space), ("loop.example/pub-mailparts/pub/gomime.errNoMediaType", Rows.laid_loop_example_pub_mailparts_pub_gomime_errNoMediaType), ("loop.example/pub-mailparts/pub/gomime.errNoSlashAfterFirstToken", Rows.laid_loop_example_pub_mailparts_pub_gomime_errNoSlashAfterFirstToken), ("loop.example/pub-mailparts/pub/gomime.errNoTokenAfterSlash", Rows.laid_loop_example_pub_mailparts_pub_gomime_errNoTokenAfterSlash), ("loop.example/pub-mailparts/pub/gomime.errUnexpectedContentAfterMediaSubtype", Rows.laid_loop_example_pub_mailparts_pub_gomime_errUnexpectedContentAfterMediaSubtype), ("internal/strconv.uint64pow10", Rows.laid_internal_strconv_uint64pow10), ("math/bits.deBruijn32tab", Rows.laid_math_bits_deBruijn32tab), ("math/bits.deBruijn64tab", Rows.laid_math_bits_deBruijn64tab)] = true := by
  unfold Program.listedFits
  rw [ownNoUnsafe]
  kernel_rfl
theorem ownApart : ∀ os tape, (DataW.laidRun Tryz.prog (varsWorld Tryz.prog 600 (varsId Tryz.prog) os tape).memory 8 (laidL.map (·.1))).map (fun x => decide x.2.Nodup && laidRowsB Tryz.prog (varsWorld Tryz.prog 600 (varsId Tryz.prog) os tape).memory x.2) = some true := by
  intro os tape
  have h1 := t_bits os tape
  have h2 := t_rows os tape
  revert h1 h2
  generalize DataW.laidRun Tryz.prog (varsWorld Tryz.prog 600 (varsId Tryz.prog) os tape).memory 8 (laidL.map (·.1)) = r
  cases r with
  | none => intro h; cases h
  | some x =>
    simp only [Option.map_some, Option.some.injEq]
    intro h1 h2
    rw [h2, Bool.and_true]
    exact decide_eq_true (nodupBits_sound h1).1
theorem ownTie : Tryz.prog.laidByTextLater laidL [.sentinel, .sentinel, .sentinel, .sentinel, .sentinel, .sentinel, .sentinel, .sentinel, .sentinel, .sentinel, .sentinel, .sentinel, .data, .data, .data, .sentinel, .sentinel, .data, .listed, .sentinel, .sentinel, .sentinel, .sentinel, .data, .data, .data] true :=
  Program.laidByTextLater_by_run 600 8 (by kernel_rfl) (by kernel_rfl) (by kernel_rfl) (by kernel_rfl) (by kernel_rfl) (by kernel_rfl) t_done t_read ownApart
theorem ownFieldsUpto_tie : Rows.fnFieldsUptoRow.laidByTextAt .later Tryz.pinned [.sentinel, .sentinel, .sentinel, .sentinel, .sentinel, .sentinel, .sentinel, .sentinel, .sentinel, .sentinel, .sentinel, .sentinel, .pinned, .data, .data, .data, .pinned, .sentinel, .sentinel, .data, .listed, .sentinel, .sentinel, .sentinel, .sentinel, .data, .data, .data] true :=
  OpenClaim.laidByTextAt_pinned rfl rfl ownTie rfl rfl rfl rfl (fun y hy _e => by
    simp only [Rows.fnFieldsUptoRow, List.zip_cons_cons, List.zip_nil_right, List.mem_cons, List.mem_nil_iff, or_false] at hy
    rcases hy with rfl | rfl | rfl | rfl | rfl | rfl | rfl | rfl | rfl | rfl | rfl | rfl | rfl | rfl | rfl | rfl | rfl | rfl | rfl | rfl | rfl | rfl | rfl | rfl | rfl | rfl | rfl | rfl
    · cases _e
    · cases _e
    · cases _e
    · cases _e
    · cases _e
    · cases _e
    · cases _e
    · cases _e
    · cases _e
    · cases _e
    · cases _e
    · cases _e
    · exact ⟨ownPin_laid_unicode_utf8_first, by kernel_rfl⟩
    · cases _e
    · cases _e
    · cases _e
    · exact ⟨ownPin_laid_unicode_CaseRanges, by kernel_rfl⟩
    · cases _e
    · cases _e
    · cases _e
    · cases _e
    · cases _e
    · cases _e
    · cases _e
    · cases _e
    · cases _e
    · cases _e
    · cases _e) ownFits
end Go.Proofs.YteajpfckbnfdaaaGreatDoor
