/-
  DERIVED. GIVEN WITH THE SEED: THE PROGRAM's TIES (one call each: nine closed facts by the kernel) AND EACH ROW's TIE, after the 31st guide's Derived/Test/Toyas{Tie, Card}.lean. No idea stands in it: it is a product of the set-up. Laid BY PROGRAM, IN A SANDBOX (cutbox-door.mjs). By AI agents, Wed Nov 11 2026. No macro, syntax, notation, axiom, sorry.
-/
import Derived.Test.YtldcoaigecnpfaaDoorRows
import Derived.LaidByTextLater
import Derived.SevenTiedAt
import Derived.LaidSub
import Derived.LaidOnce
namespace Go.Proofs.YtldcoaigecnpfaaDoor
open Go
set_option maxRecDepth 100000
theorem seatTie1 : Tryd.prog.laidByTextLater [("unicode/utf8.acceptRanges", Rows.laid_unicode_utf8_acceptRanges), ("io.ErrUnexpectedEOF", Rows.laid_io_ErrUnexpectedEOF), ("loop.example/pub-g01450/pub/jsontext_internal_jsonwire.escapeASCII", Rows.laid_loop_example_pub_g01450_pub_jsontext_internal_jsonwire_escapeASCII), ("loop.example/pub-g01450/pub/jsontext_internal_jsonwire.ErrInvalidUTF8", Rows.laid_loop_example_pub_g01450_pub_jsontext_internal_jsonwire_ErrInvalidUTF8)] [.data, .sentinel, .data, .sentinel] true :=
  Program.laidByTextLater_by_one 62 8 129 (by kernel_rfl) (by kernel_rfl) (by kernel_rfl) (by kernel_rfl) (by kernel_rfl) (by kernel_rfl) (fun _ _ => by kernel_rfl)
theorem pin_laid_unicode_utf8_first : Tryd.pinned.checked.prog.pinnedFits "unicode/utf8.first" = true := by kernel_rfl
theorem noOwnUnsafe : Tryd.pinned.checked.prog.headLifts.contains "ownunsafe" = false := by kernel_rfl
theorem fits1 : Tryd.pinned.checked.prog.listedFits [("unicode/utf8.acceptRanges", Rows.laid_unicode_utf8_acceptRanges), ("loop.example/pub-g01450/pub/jsontext_internal_jsonwire.escapeASCII", Rows.laid_loop_example_pub_g01450_pub_jsontext_internal_jsonwire_escapeASCII), ("unicode/utf8.first", Rows.laid_unicode_utf8_first)] = true := by
  unfold Program.listedFits
  rw [noOwnUnsafe]
  kernel_rfl
theorem tie : Tryd.prog.laidByTextLater [("unicode/utf8.acceptRanges", Rows.laid_unicode_utf8_acceptRanges), ("loop.example/pub-g01450/pub/jsontext_internal_jsonwire.escapeASCII", Rows.laid_loop_example_pub_g01450_pub_jsontext_internal_jsonwire_escapeASCII)] [.data, .data] true :=
  Program.laidByTextLater.sub seatTie1 ["unicode/utf8.acceptRanges", "loop.example/pub-g01450/pub/jsontext_internal_jsonwire.escapeASCII"] (by kernel_rfl) (by kernel_rfl)
theorem fnNeedsEscapeByte_row_tie : Rows.fnNeedsEscapeByteRow.laidByTextAt .later Tryd.pinned [.data, .data, .pinned] true :=
  OpenClaim.laidByTextAt_pinned rfl rfl tie rfl rfl rfl rfl (fun y hy _e => by
    simp only [Rows.fnNeedsEscapeByteRow, List.zip_cons_cons, List.zip_nil_right, List.mem_cons, List.mem_nil_iff, or_false] at hy
    rcases hy with rfl | rfl | rfl
    · cases _e
    · cases _e
    · exact ⟨pin_laid_unicode_utf8_first, by kernel_rfl⟩) fits1
theorem fits2 : Tryd.pinned.checked.prog.listedFits [("unicode/utf8.acceptRanges", Rows.laid_unicode_utf8_acceptRanges), ("unicode/utf8.first", Rows.laid_unicode_utf8_first)] = true := by
  unfold Program.listedFits
  rw [noOwnUnsafe]
  kernel_rfl
theorem tie2 : Tryd.prog.laidByTextLater [("unicode/utf8.acceptRanges", Rows.laid_unicode_utf8_acceptRanges)] [.data] true :=
  Program.laidByTextLater.sub seatTie1 ["unicode/utf8.acceptRanges"] (by kernel_rfl) (by kernel_rfl)
theorem fnCompareAscii_row_tie : Rows.fnCompareAsciiRow.laidByTextAt .later Tryd.pinned [.data, .pinned] true :=
  OpenClaim.laidByTextAt_pinned rfl rfl tie2 rfl rfl rfl rfl (fun y hy _e => by
    simp only [Rows.fnCompareAsciiRow, List.zip_cons_cons, List.zip_nil_right, List.mem_cons, List.mem_nil_iff, or_false] at hy
    rcases hy with rfl | rfl
    · cases _e
    · exact ⟨pin_laid_unicode_utf8_first, by kernel_rfl⟩) fits2
theorem fits3 : Tryd.pinned.checked.prog.listedFits [("unicode/utf8.acceptRanges", Rows.laid_unicode_utf8_acceptRanges), ("loop.example/pub-g01450/pub/jsontext_internal_jsonwire.escapeASCII", Rows.laid_loop_example_pub_g01450_pub_jsontext_internal_jsonwire_escapeASCII), ("loop.example/pub-g01450/pub/jsontext_internal_jsonwire.ErrInvalidUTF8", Rows.laid_loop_example_pub_g01450_pub_jsontext_internal_jsonwire_ErrInvalidUTF8), ("unicode/utf8.first", Rows.laid_unicode_utf8_first)] = true := by
  unfold Program.listedFits
  rw [noOwnUnsafe]
  kernel_rfl
theorem tie3 : Tryd.prog.laidByTextLater [("unicode/utf8.acceptRanges", Rows.laid_unicode_utf8_acceptRanges), ("loop.example/pub-g01450/pub/jsontext_internal_jsonwire.escapeASCII", Rows.laid_loop_example_pub_g01450_pub_jsontext_internal_jsonwire_escapeASCII), ("loop.example/pub-g01450/pub/jsontext_internal_jsonwire.ErrInvalidUTF8", Rows.laid_loop_example_pub_g01450_pub_jsontext_internal_jsonwire_ErrInvalidUTF8)] [.data, .data, .sentinel] true :=
  Program.laidByTextLater.sub seatTie1 ["unicode/utf8.acceptRanges", "loop.example/pub-g01450/pub/jsontext_internal_jsonwire.escapeASCII", "loop.example/pub-g01450/pub/jsontext_internal_jsonwire.ErrInvalidUTF8"] (by kernel_rfl) (by kernel_rfl)
theorem fnQuote_row_tie : Rows.fnQuoteRow.laidByTextAt .later Tryd.pinned [.data, .data, .sentinel, .pinned] true :=
  OpenClaim.laidByTextAt_pinned rfl rfl tie3 rfl rfl rfl rfl (fun y hy _e => by
    simp only [Rows.fnQuoteRow, List.zip_cons_cons, List.zip_nil_right, List.mem_cons, List.mem_nil_iff, or_false] at hy
    rcases hy with rfl | rfl | rfl | rfl
    · cases _e
    · cases _e
    · cases _e
    · exact ⟨pin_laid_unicode_utf8_first, by kernel_rfl⟩) fits3
theorem fnQuoteByte_row_tie : Rows.fnQuoteByteRow.laidByTextAt .later Tryd.pinned [.data, .data, .sentinel, .pinned] true :=
  OpenClaim.laidByTextAt_pinned rfl rfl tie3 rfl rfl rfl rfl (fun y hy _e => by
    simp only [Rows.fnQuoteByteRow, List.zip_cons_cons, List.zip_nil_right, List.mem_cons, List.mem_nil_iff, or_false] at hy
    rcases hy with rfl | rfl | rfl | rfl
    · cases _e
    · cases _e
    · cases _e
    · exact ⟨pin_laid_unicode_utf8_first, by kernel_rfl⟩) fits3
theorem fnQuoteJoin_row_tie : Rows.fnQuoteJoinRow.laidByTextAt .later Tryd.pinned [.data, .data, .sentinel, .pinned] true :=
  OpenClaim.laidByTextAt_pinned rfl rfl tie3 rfl rfl rfl rfl (fun y hy _e => by
    simp only [Rows.fnQuoteJoinRow, List.zip_cons_cons, List.zip_nil_right, List.mem_cons, List.mem_nil_iff, or_false] at hy
    rcases hy with rfl | rfl | rfl | rfl
    · cases _e
    · cases _e
    · cases _e
    · exact ⟨pin_laid_unicode_utf8_first, by kernel_rfl⟩) fits3
theorem fits4 : Tryd.pinned.checked.prog.listedFits [("unicode/utf8.acceptRanges", Rows.laid_unicode_utf8_acceptRanges), ("io.ErrUnexpectedEOF", Rows.laid_io_ErrUnexpectedEOF), ("loop.example/pub-g01450/pub/jsontext_internal_jsonwire.escapeASCII", Rows.laid_loop_example_pub_g01450_pub_jsontext_internal_jsonwire_escapeASCII), ("loop.example/pub-g01450/pub/jsontext_internal_jsonwire.ErrInvalidUTF8", Rows.laid_loop_example_pub_g01450_pub_jsontext_internal_jsonwire_ErrInvalidUTF8), ("unicode/utf8.first", Rows.laid_unicode_utf8_first)] = true := by
  unfold Program.listedFits
  rw [noOwnUnsafe]
  kernel_rfl
theorem tie4 : Tryd.prog.laidByTextLater [("unicode/utf8.acceptRanges", Rows.laid_unicode_utf8_acceptRanges), ("io.ErrUnexpectedEOF", Rows.laid_io_ErrUnexpectedEOF), ("loop.example/pub-g01450/pub/jsontext_internal_jsonwire.escapeASCII", Rows.laid_loop_example_pub_g01450_pub_jsontext_internal_jsonwire_escapeASCII), ("loop.example/pub-g01450/pub/jsontext_internal_jsonwire.ErrInvalidUTF8", Rows.laid_loop_example_pub_g01450_pub_jsontext_internal_jsonwire_ErrInvalidUTF8)] [.data, .sentinel, .data, .sentinel] true :=
  Program.laidByTextLater.sub seatTie1 ["unicode/utf8.acceptRanges", "io.ErrUnexpectedEOF", "loop.example/pub-g01450/pub/jsontext_internal_jsonwire.escapeASCII", "loop.example/pub-g01450/pub/jsontext_internal_jsonwire.ErrInvalidUTF8"] (by kernel_rfl) (by kernel_rfl)
theorem fnThereAndBack_row_tie : Rows.fnThereAndBackRow.laidByTextAt .later Tryd.pinned [.data, .sentinel, .data, .sentinel, .pinned] true :=
  OpenClaim.laidByTextAt_pinned rfl rfl tie4 rfl rfl rfl rfl (fun y hy _e => by
    simp only [Rows.fnThereAndBackRow, List.zip_cons_cons, List.zip_nil_right, List.mem_cons, List.mem_nil_iff, or_false] at hy
    rcases hy with rfl | rfl | rfl | rfl | rfl
    · cases _e
    · cases _e
    · cases _e
    · cases _e
    · exact ⟨pin_laid_unicode_utf8_first, by kernel_rfl⟩) fits4
theorem fnStringAgain_row_tie : Rows.fnStringAgainRow.laidByTextAt .later Tryd.pinned [.data, .sentinel, .data, .sentinel, .pinned] true :=
  OpenClaim.laidByTextAt_pinned rfl rfl tie4 rfl rfl rfl rfl (fun y hy _e => by
    simp only [Rows.fnStringAgainRow, List.zip_cons_cons, List.zip_nil_right, List.mem_cons, List.mem_nil_iff, or_false] at hy
    rcases hy with rfl | rfl | rfl | rfl | rfl
    · cases _e
    · cases _e
    · cases _e
    · cases _e
    · exact ⟨pin_laid_unicode_utf8_first, by kernel_rfl⟩) fits4
theorem fnStringKept_row_tie : Rows.fnStringKeptRow.laidByTextAt .later Tryd.pinned [.data, .sentinel, .data, .sentinel, .pinned] true :=
  OpenClaim.laidByTextAt_pinned rfl rfl tie4 rfl rfl rfl rfl (fun y hy _e => by
    simp only [Rows.fnStringKeptRow, List.zip_cons_cons, List.zip_nil_right, List.mem_cons, List.mem_nil_iff, or_false] at hy
    rcases hy with rfl | rfl | rfl | rfl | rfl
    · cases _e
    · cases _e
    · cases _e
    · cases _e
    · exact ⟨pin_laid_unicode_utf8_first, by kernel_rfl⟩) fits4
theorem fnNeedsEscapeByteUpto_row_tie : Rows.fnNeedsEscapeByteUptoRow.laidByTextAt .later Tryd.pinned [.data, .data, .pinned] true :=
  OpenClaim.laidByTextAt_pinned rfl rfl tie rfl rfl rfl rfl (fun y hy _e => by
    simp only [Rows.fnNeedsEscapeByteUptoRow, List.zip_cons_cons, List.zip_nil_right, List.mem_cons, List.mem_nil_iff, or_false] at hy
    rcases hy with rfl | rfl | rfl
    · cases _e
    · cases _e
    · exact ⟨pin_laid_unicode_utf8_first, by kernel_rfl⟩) fits1
theorem fnCompareAsciiUpto_row_tie : Rows.fnCompareAsciiUptoRow.laidByTextAt .later Tryd.pinned [.data, .pinned] true :=
  OpenClaim.laidByTextAt_pinned rfl rfl tie2 rfl rfl rfl rfl (fun y hy _e => by
    simp only [Rows.fnCompareAsciiUptoRow, List.zip_cons_cons, List.zip_nil_right, List.mem_cons, List.mem_nil_iff, or_false] at hy
    rcases hy with rfl | rfl
    · cases _e
    · exact ⟨pin_laid_unicode_utf8_first, by kernel_rfl⟩) fits2
theorem fnQuoteUpto_row_tie : Rows.fnQuoteUptoRow.laidByTextAt .later Tryd.pinned [.data, .data, .sentinel, .pinned] true :=
  OpenClaim.laidByTextAt_pinned rfl rfl tie3 rfl rfl rfl rfl (fun y hy _e => by
    simp only [Rows.fnQuoteUptoRow, List.zip_cons_cons, List.zip_nil_right, List.mem_cons, List.mem_nil_iff, or_false] at hy
    rcases hy with rfl | rfl | rfl | rfl
    · cases _e
    · cases _e
    · cases _e
    · exact ⟨pin_laid_unicode_utf8_first, by kernel_rfl⟩) fits3
theorem fnQuoteByteUpto_row_tie : Rows.fnQuoteByteUptoRow.laidByTextAt .later Tryd.pinned [.data, .data, .sentinel, .pinned] true :=
  OpenClaim.laidByTextAt_pinned rfl rfl tie3 rfl rfl rfl rfl (fun y hy _e => by
    simp only [Rows.fnQuoteByteUptoRow, List.zip_cons_cons, List.zip_nil_right, List.mem_cons, List.mem_nil_iff, or_false] at hy
    rcases hy with rfl | rfl | rfl | rfl
    · cases _e
    · cases _e
    · cases _e
    · exact ⟨pin_laid_unicode_utf8_first, by kernel_rfl⟩) fits3
theorem fnQuoteJoinUpto_row_tie : Rows.fnQuoteJoinUptoRow.laidByTextAt .later Tryd.pinned [.data, .data, .sentinel, .pinned] true :=
  OpenClaim.laidByTextAt_pinned rfl rfl tie3 rfl rfl rfl rfl (fun y hy _e => by
    simp only [Rows.fnQuoteJoinUptoRow, List.zip_cons_cons, List.zip_nil_right, List.mem_cons, List.mem_nil_iff, or_false] at hy
    rcases hy with rfl | rfl | rfl | rfl
    · cases _e
    · cases _e
    · cases _e
    · exact ⟨pin_laid_unicode_utf8_first, by kernel_rfl⟩) fits3
theorem fnThereAndBackUpto_row_tie : Rows.fnThereAndBackUptoRow.laidByTextAt .later Tryd.pinned [.data, .sentinel, .data, .sentinel, .pinned] true :=
  OpenClaim.laidByTextAt_pinned rfl rfl tie4 rfl rfl rfl rfl (fun y hy _e => by
    simp only [Rows.fnThereAndBackUptoRow, List.zip_cons_cons, List.zip_nil_right, List.mem_cons, List.mem_nil_iff, or_false] at hy
    rcases hy with rfl | rfl | rfl | rfl | rfl
    · cases _e
    · cases _e
    · cases _e
    · cases _e
    · exact ⟨pin_laid_unicode_utf8_first, by kernel_rfl⟩) fits4
theorem fnStringAgainUpto_row_tie : Rows.fnStringAgainUptoRow.laidByTextAt .later Tryd.pinned [.data, .sentinel, .data, .sentinel, .pinned] true :=
  OpenClaim.laidByTextAt_pinned rfl rfl tie4 rfl rfl rfl rfl (fun y hy _e => by
    simp only [Rows.fnStringAgainUptoRow, List.zip_cons_cons, List.zip_nil_right, List.mem_cons, List.mem_nil_iff, or_false] at hy
    rcases hy with rfl | rfl | rfl | rfl | rfl
    · cases _e
    · cases _e
    · cases _e
    · cases _e
    · exact ⟨pin_laid_unicode_utf8_first, by kernel_rfl⟩) fits4
theorem fnStringKeptUpto_row_tie : Rows.fnStringKeptUptoRow.laidByTextAt .later Tryd.pinned [.data, .sentinel, .data, .sentinel, .pinned] true :=
  OpenClaim.laidByTextAt_pinned rfl rfl tie4 rfl rfl rfl rfl (fun y hy _e => by
    simp only [Rows.fnStringKeptUptoRow, List.zip_cons_cons, List.zip_nil_right, List.mem_cons, List.mem_nil_iff, or_false] at hy
    rcases hy with rfl | rfl | rfl | rfl | rfl
    · cases _e
    · cases _e
    · cases _e
    · cases _e
    · exact ⟨pin_laid_unicode_utf8_first, by kernel_rfl⟩) fits4
end Go.Proofs.YtldcoaigecnpfaaDoor
