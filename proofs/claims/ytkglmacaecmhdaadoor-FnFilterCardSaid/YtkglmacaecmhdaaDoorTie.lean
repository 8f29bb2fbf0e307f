/-
  DERIVED. GIVEN WITH THE SEED: THE PROGRAM's TIES (one call each: nine closed facts by the kernel) AND EACH ROW's TIE, after the 31st guide's Derived/Test/Toyas{Tie, Card}.lean. No idea stands in it: it is a product of the set-up. Laid BY PROGRAM, IN A SANDBOX (cutbox-door.mjs). By AI agents, Wed Nov 11 2026. No macro, syntax, notation, axiom, sorry.
-/
import Derived.Test.YtkglmacaecmhdaaDoorRows
import Derived.LaidByTextLater
import Derived.SevenTiedAt
import Derived.LaidSub
import Derived.LaidOnce
namespace Go.Proofs.YtkglmacaecmhdaaDoor
open Go
set_option maxRecDepth 100000
theorem seatTie1 : Tryd.prog.laidByTextLater [("unicode/utf8.acceptRanges", Rows.laid_unicode_utf8_acceptRanges), ("mochimqtt/pub/mochipackets.ErrUnspecifiedError", Rows.laid_mochimqtt_pub_mochipackets_ErrUnspecifiedError), ("mochimqtt/pub/mochipackets.ErrMalformedProtocolName", Rows.laid_mochimqtt_pub_mochipackets_ErrMalformedProtocolName), ("mochimqtt/pub/mochipackets.ErrMalformedProtocolVersion", Rows.laid_mochimqtt_pub_mochipackets_ErrMalformedProtocolVersion), ("mochimqtt/pub/mochipackets.ErrMalformedFlags", Rows.laid_mochimqtt_pub_mochipackets_ErrMalformedFlags), ("mochimqtt/pub/mochipackets.ErrMalformedKeepalive", Rows.laid_mochimqtt_pub_mochipackets_ErrMalformedKeepalive), ("mochimqtt/pub/mochipackets.ErrMalformedPacketID", Rows.laid_mochimqtt_pub_mochipackets_ErrMalformedPacketID), ("mochimqtt/pub/mochipackets.ErrMalformedTopic", Rows.laid_mochimqtt_pub_mochipackets_ErrMalformedTopic), ("mochimqtt/pub/mochipackets.ErrMalformedWillTopic", Rows.laid_mochimqtt_pub_mochipackets_ErrMalformedWillTopic), ("mochimqtt/pub/mochipackets.ErrMalformedWillPayload", Rows.laid_mochimqtt_pub_mochipackets_ErrMalformedWillPayload), ("mochimqtt/pub/mochipackets.ErrMalformedUsername", Rows.laid_mochimqtt_pub_mochipackets_ErrMalformedUsername), ("mochimqtt/pub/mochipackets.ErrMalformedPassword", Rows.laid_mochimqtt_pub_mochipackets_ErrMalformedPassword), ("mochimqtt/pub/mochipackets.ErrMalformedQos", Rows.laid_mochimqtt_pub_mochipackets_ErrMalformedQos), ("mochimqtt/pub/mochipackets.ErrMalformedOffsetUintOutOfRange", Rows.laid_mochimqtt_pub_mochipackets_ErrMalformedOffsetUintOutOfRange), ("mochimqtt/pub/mochipackets.ErrMalformedOffsetBytesOutOfRange", Rows.laid_mochimqtt_pub_mochipackets_ErrMalformedOffsetBytesOutOfRange), ("mochimqtt/pub/mochipackets.ErrMalformedOffsetByteOutOfRange", Rows.laid_mochimqtt_pub_mochipackets_ErrMalformedOffsetByteOutOfRange), ("mochimqtt/pub/mochipackets.ErrMalformedOffsetBoolOutOfRange", Rows.laid_mochimqtt_pub_mochipackets_ErrMalformedOffsetBoolOutOfRange), ("mochimqtt/pub/mochipackets.ErrMalformedInvalidUTF8", Rows.laid_mochimqtt_pub_mochipackets_ErrMalformedInvalidUTF8), ("mochimqtt/pub/mochipackets.ErrMalformedVariableByteInteger", Rows.laid_mochimqtt_pub_mochipackets_ErrMalformedVariableByteInteger), ("mochimqtt/pub/mochipackets.ErrMalformedProperties", Rows.laid_mochimqtt_pub_mochipackets_ErrMalformedProperties), ("mochimqtt/pub/mochipackets.ErrMalformedWillProperties", Rows.laid_mochimqtt_pub_mochipackets_ErrMalformedWillProperties), ("mochimqtt/pub/mochipackets.ErrMalformedSessionPresent", Rows.laid_mochimqtt_pub_mochipackets_ErrMalformedSessionPresent), ("mochimqtt/pub/mochipackets.ErrMalformedReasonCode", Rows.laid_mochimqtt_pub_mochipackets_ErrMalformedReasonCode), ("mochimqtt/pub/mochipackets.ErrProtocolViolationFlagNoUsername", Rows.laid_mochimqtt_pub_mochipackets_ErrProtocolViolationFlagNoUsername), ("mochimqtt/pub/mochipackets.ErrProtocolViolationNoPacketID", Rows.laid_mochimqtt_pub_mochipackets_ErrProtocolViolationNoPacketID), ("mochimqtt/pub/mochipackets.ErrProtocolViolationQosOutOfRange", Rows.laid_mochimqtt_pub_mochipackets_ErrProtocolViolationQosOutOfRange), ("mochimqtt/pub/mochipackets.ErrProtocolViolationDupNoQos", Rows.laid_mochimqtt_pub_mochipackets_ErrProtocolViolationDupNoQos), ("mochimqtt/pub/mochipackets.ErrProtocolViolationUnsupportedProperty", Rows.laid_mochimqtt_pub_mochipackets_ErrProtocolViolationUnsupportedProperty), ("mochimqtt/pub/mochipackets.ErrClientIdentifierNotValid", Rows.laid_mochimqtt_pub_mochipackets_ErrClientIdentifierNotValid)] [.data, .data, .data, .data, .data, .data, .data, .data, .data, .data, .data, .data, .data, .data, .data, .data, .data, .data, .data, .data, .data, .data, .data, .data, .data, .data, .data, .data, .data] true :=
  Program.laidByTextLater_by_one 263 8 189 (by kernel_rfl) (by kernel_rfl) (by kernel_rfl) (by kernel_rfl) (by kernel_rfl) (by kernel_rfl) (fun _ _ => by kernel_rfl)
theorem seatTie2 : Tryd.prog.laidByTextLater [("unicode/utf8.acceptRanges", Rows.laid_unicode_utf8_acceptRanges), ("unicode.asciiFold", Rows.laid_unicode_asciiFold), ("unicode.caseOrbit", Rows.laid_unicode_caseOrbit), ("mochimqtt/pub/mochipackets.ErrMalformedVariableByteInteger", Rows.laid_mochimqtt_pub_mochipackets_ErrMalformedVariableByteInteger)] [.data, .data, .data, .data] true :=
  Program.laidByTextLater_by_one 263 8 189 (by kernel_rfl) (by kernel_rfl) (by kernel_rfl) (by kernel_rfl) (by kernel_rfl) (by kernel_rfl) (fun _ _ => by kernel_rfl)
theorem pin_laid_unicode_CaseRanges : Tryd.pinned.checked.prog.pinnedFits "unicode.CaseRanges" = true := by kernel_rfl
theorem pin_laid_unicode_utf8_first : Tryd.pinned.checked.prog.pinnedFits "unicode/utf8.first" = true := by kernel_rfl
theorem noOwnUnsafe : Tryd.pinned.checked.prog.headLifts.contains "ownunsafe" = false := by kernel_rfl
theorem tie : Tryd.prog.laidByTextLater [("mochimqtt/pub/mochipackets.ErrMalformedVariableByteInteger", Rows.laid_mochimqtt_pub_mochipackets_ErrMalformedVariableByteInteger)] [.data] true :=
  Program.laidByTextLater.sub seatTie1 ["mochimqtt/pub/mochipackets.ErrMalformedVariableByteInteger"] (by kernel_rfl) (by kernel_rfl)
theorem fnLengthAny_row_tie : Rows.fnLengthAnyRow.laidByTextAt .later Tryd.pinned [.data] true :=
  OpenClaim.laidByTextAt_later rfl rfl tie noOwnUnsafe
theorem fnLength_row_tie : Rows.fnLengthRow.laidByTextAt .later Tryd.pinned [.data] true :=
  OpenClaim.laidByTextAt_later rfl rfl tie noOwnUnsafe
theorem tie2 : Tryd.prog.laidByTextLater [("mochimqtt/pub/mochipackets.ErrMalformedFlags", Rows.laid_mochimqtt_pub_mochipackets_ErrMalformedFlags), ("mochimqtt/pub/mochipackets.ErrMalformedVariableByteInteger", Rows.laid_mochimqtt_pub_mochipackets_ErrMalformedVariableByteInteger), ("mochimqtt/pub/mochipackets.ErrProtocolViolationQosOutOfRange", Rows.laid_mochimqtt_pub_mochipackets_ErrProtocolViolationQosOutOfRange), ("mochimqtt/pub/mochipackets.ErrProtocolViolationDupNoQos", Rows.laid_mochimqtt_pub_mochipackets_ErrProtocolViolationDupNoQos)] [.data, .data, .data, .data] true :=
  Program.laidByTextLater.sub seatTie1 ["mochimqtt/pub/mochipackets.ErrMalformedFlags", "mochimqtt/pub/mochipackets.ErrMalformedVariableByteInteger", "mochimqtt/pub/mochipackets.ErrProtocolViolationQosOutOfRange", "mochimqtt/pub/mochipackets.ErrProtocolViolationDupNoQos"] (by kernel_rfl) (by kernel_rfl)
theorem fnHeader_row_tie : Rows.fnHeaderRow.laidByTextAt .later Tryd.pinned [.data, .data, .data, .data] true :=
  OpenClaim.laidByTextAt_later rfl rfl tie2 noOwnUnsafe
theorem fits3 : Tryd.pinned.checked.prog.listedFits [("unicode/utf8.acceptRanges", Rows.laid_unicode_utf8_acceptRanges), ("unicode.asciiFold", Rows.laid_unicode_asciiFold), ("unicode.caseOrbit", Rows.laid_unicode_caseOrbit), ("mochimqtt/pub/mochipackets.ErrMalformedVariableByteInteger", Rows.laid_mochimqtt_pub_mochipackets_ErrMalformedVariableByteInteger), ("unicode.CaseRanges", Rows.laid_unicode_CaseRanges), ("unicode/utf8.first", Rows.laid_unicode_utf8_first)] = true := by
  unfold Program.listedFits
  rw [noOwnUnsafe]
  kernel_rfl
theorem tie3 : Tryd.prog.laidByTextLater [("unicode/utf8.acceptRanges", Rows.laid_unicode_utf8_acceptRanges), ("unicode.asciiFold", Rows.laid_unicode_asciiFold), ("unicode.caseOrbit", Rows.laid_unicode_caseOrbit), ("mochimqtt/pub/mochipackets.ErrMalformedVariableByteInteger", Rows.laid_mochimqtt_pub_mochipackets_ErrMalformedVariableByteInteger)] [.data, .data, .data, .data] true :=
  Program.laidByTextLater.sub seatTie2 ["unicode/utf8.acceptRanges", "unicode.asciiFold", "unicode.caseOrbit", "mochimqtt/pub/mochipackets.ErrMalformedVariableByteInteger"] (by kernel_rfl) (by kernel_rfl)
theorem fnShared_row_tie : Rows.fnSharedRow.laidByTextAt .later Tryd.pinned [.data, .data, .data, .data, .pinned, .pinned] true :=
  OpenClaim.laidByTextAt_pinned rfl rfl tie3 rfl rfl rfl rfl (fun y hy _e => by
    simp only [Rows.fnSharedRow, List.zip_cons_cons, List.zip_nil_right, List.mem_cons, List.mem_nil_iff, or_false] at hy
    rcases hy with rfl | rfl | rfl | rfl | rfl | rfl
    · cases _e
    · cases _e
    · cases _e
    · cases _e
    · exact ⟨pin_laid_unicode_CaseRanges, by kernel_rfl⟩
    · exact ⟨pin_laid_unicode_utf8_first, by kernel_rfl⟩) fits3
theorem fnFilter_row_tie : Rows.fnFilterRow.laidByTextAt .later Tryd.pinned [.data, .data, .data, .data, .pinned, .pinned] true :=
  OpenClaim.laidByTextAt_pinned rfl rfl tie3 rfl rfl rfl rfl (fun y hy _e => by
    simp only [Rows.fnFilterRow, List.zip_cons_cons, List.zip_nil_right, List.mem_cons, List.mem_nil_iff, or_false] at hy
    rcases hy with rfl | rfl | rfl | rfl | rfl | rfl
    · cases _e
    · cases _e
    · cases _e
    · cases _e
    · exact ⟨pin_laid_unicode_CaseRanges, by kernel_rfl⟩
    · exact ⟨pin_laid_unicode_utf8_first, by kernel_rfl⟩) fits3
theorem fnTopicName_row_tie : Rows.fnTopicNameRow.laidByTextAt .later Tryd.pinned [.data, .data, .data, .data, .pinned, .pinned] true :=
  OpenClaim.laidByTextAt_pinned rfl rfl tie3 rfl rfl rfl rfl (fun y hy _e => by
    simp only [Rows.fnTopicNameRow, List.zip_cons_cons, List.zip_nil_right, List.mem_cons, List.mem_nil_iff, or_false] at hy
    rcases hy with rfl | rfl | rfl | rfl | rfl | rfl
    · cases _e
    · cases _e
    · cases _e
    · cases _e
    · exact ⟨pin_laid_unicode_CaseRanges, by kernel_rfl⟩
    · exact ⟨pin_laid_unicode_utf8_first, by kernel_rfl⟩) fits3
theorem fits4 : Tryd.pinned.checked.prog.listedFits [("unicode/utf8.acceptRanges", Rows.laid_unicode_utf8_acceptRanges), ("mochimqtt/pub/mochipackets.ErrMalformedOffsetUintOutOfRange", Rows.laid_mochimqtt_pub_mochipackets_ErrMalformedOffsetUintOutOfRange), ("mochimqtt/pub/mochipackets.ErrMalformedOffsetBytesOutOfRange", Rows.laid_mochimqtt_pub_mochipackets_ErrMalformedOffsetBytesOutOfRange), ("mochimqtt/pub/mochipackets.ErrMalformedOffsetByteOutOfRange", Rows.laid_mochimqtt_pub_mochipackets_ErrMalformedOffsetByteOutOfRange), ("mochimqtt/pub/mochipackets.ErrMalformedInvalidUTF8", Rows.laid_mochimqtt_pub_mochipackets_ErrMalformedInvalidUTF8), ("mochimqtt/pub/mochipackets.ErrMalformedVariableByteInteger", Rows.laid_mochimqtt_pub_mochipackets_ErrMalformedVariableByteInteger), ("mochimqtt/pub/mochipackets.ErrProtocolViolationUnsupportedProperty", Rows.laid_mochimqtt_pub_mochipackets_ErrProtocolViolationUnsupportedProperty), ("unicode/utf8.first", Rows.laid_unicode_utf8_first)] = true := by
  unfold Program.listedFits
  rw [noOwnUnsafe]
  kernel_rfl
theorem tie4 : Tryd.prog.laidByTextLater [("unicode/utf8.acceptRanges", Rows.laid_unicode_utf8_acceptRanges), ("mochimqtt/pub/mochipackets.ErrMalformedOffsetUintOutOfRange", Rows.laid_mochimqtt_pub_mochipackets_ErrMalformedOffsetUintOutOfRange), ("mochimqtt/pub/mochipackets.ErrMalformedOffsetBytesOutOfRange", Rows.laid_mochimqtt_pub_mochipackets_ErrMalformedOffsetBytesOutOfRange), ("mochimqtt/pub/mochipackets.ErrMalformedOffsetByteOutOfRange", Rows.laid_mochimqtt_pub_mochipackets_ErrMalformedOffsetByteOutOfRange), ("mochimqtt/pub/mochipackets.ErrMalformedInvalidUTF8", Rows.laid_mochimqtt_pub_mochipackets_ErrMalformedInvalidUTF8), ("mochimqtt/pub/mochipackets.ErrMalformedVariableByteInteger", Rows.laid_mochimqtt_pub_mochipackets_ErrMalformedVariableByteInteger), ("mochimqtt/pub/mochipackets.ErrProtocolViolationUnsupportedProperty", Rows.laid_mochimqtt_pub_mochipackets_ErrProtocolViolationUnsupportedProperty)] [.data, .data, .data, .data, .data, .data, .data] true :=
  Program.laidByTextLater.sub seatTie1 ["unicode/utf8.acceptRanges", "mochimqtt/pub/mochipackets.ErrMalformedOffsetUintOutOfRange", "mochimqtt/pub/mochipackets.ErrMalformedOffsetBytesOutOfRange", "mochimqtt/pub/mochipackets.ErrMalformedOffsetByteOutOfRange", "mochimqtt/pub/mochipackets.ErrMalformedInvalidUTF8", "mochimqtt/pub/mochipackets.ErrMalformedVariableByteInteger", "mochimqtt/pub/mochipackets.ErrProtocolViolationUnsupportedProperty"] (by kernel_rfl) (by kernel_rfl)
theorem fnProperties_row_tie : Rows.fnPropertiesRow.laidByTextAt .later Tryd.pinned [.data, .data, .data, .data, .data, .data, .data, .pinned] true :=
  OpenClaim.laidByTextAt_pinned rfl rfl tie4 rfl rfl rfl rfl (fun y hy _e => by
    simp only [Rows.fnPropertiesRow, List.zip_cons_cons, List.zip_nil_right, List.mem_cons, List.mem_nil_iff, or_false] at hy
    rcases hy with rfl | rfl | rfl | rfl | rfl | rfl | rfl | rfl
    · cases _e
    · cases _e
    · cases _e
    · cases _e
    · cases _e
    · cases _e
    · cases _e
    · exact ⟨pin_laid_unicode_utf8_first, by kernel_rfl⟩) fits4
theorem tie5 : Tryd.prog.laidByTextLater [("mochimqtt/pub/mochipackets.ErrUnspecifiedError", Rows.laid_mochimqtt_pub_mochipackets_ErrUnspecifiedError), ("mochimqtt/pub/mochipackets.ErrMalformedVariableByteInteger", Rows.laid_mochimqtt_pub_mochipackets_ErrMalformedVariableByteInteger), ("mochimqtt/pub/mochipackets.ErrProtocolViolationNoPacketID", Rows.laid_mochimqtt_pub_mochipackets_ErrProtocolViolationNoPacketID)] [.data, .data, .data] true :=
  Program.laidByTextLater.sub seatTie1 ["mochimqtt/pub/mochipackets.ErrUnspecifiedError", "mochimqtt/pub/mochipackets.ErrMalformedVariableByteInteger", "mochimqtt/pub/mochipackets.ErrProtocolViolationNoPacketID"] (by kernel_rfl) (by kernel_rfl)
theorem fnEncode_row_tie : Rows.fnEncodeRow.laidByTextAt .later Tryd.pinned [.data, .data, .data] true :=
  OpenClaim.laidByTextAt_later rfl rfl tie5 noOwnUnsafe
theorem fits6 : Tryd.pinned.checked.prog.listedFits [("unicode/utf8.acceptRanges", Rows.laid_unicode_utf8_acceptRanges), ("mochimqtt/pub/mochipackets.ErrMalformedProtocolName", Rows.laid_mochimqtt_pub_mochipackets_ErrMalformedProtocolName), ("mochimqtt/pub/mochipackets.ErrMalformedProtocolVersion", Rows.laid_mochimqtt_pub_mochipackets_ErrMalformedProtocolVersion), ("mochimqtt/pub/mochipackets.ErrMalformedFlags", Rows.laid_mochimqtt_pub_mochipackets_ErrMalformedFlags), ("mochimqtt/pub/mochipackets.ErrMalformedKeepalive", Rows.laid_mochimqtt_pub_mochipackets_ErrMalformedKeepalive), ("mochimqtt/pub/mochipackets.ErrMalformedPacketID", Rows.laid_mochimqtt_pub_mochipackets_ErrMalformedPacketID), ("mochimqtt/pub/mochipackets.ErrMalformedTopic", Rows.laid_mochimqtt_pub_mochipackets_ErrMalformedTopic), ("mochimqtt/pub/mochipackets.ErrMalformedWillTopic", Rows.laid_mochimqtt_pub_mochipackets_ErrMalformedWillTopic), ("mochimqtt/pub/mochipackets.ErrMalformedWillPayload", Rows.laid_mochimqtt_pub_mochipackets_ErrMalformedWillPayload), ("mochimqtt/pub/mochipackets.ErrMalformedUsername", Rows.laid_mochimqtt_pub_mochipackets_ErrMalformedUsername), ("mochimqtt/pub/mochipackets.ErrMalformedPassword", Rows.laid_mochimqtt_pub_mochipackets_ErrMalformedPassword), ("mochimqtt/pub/mochipackets.ErrMalformedQos", Rows.laid_mochimqtt_pub_mochipackets_ErrMalformedQos), ("mochimqtt/pub/mochipackets.ErrMalformedOffsetUintOutOfRange", Rows.laid_mochimqtt_pub_mochipackets_ErrMalformedOffsetUintOutOfRange), ("mochimqtt/pub/mochipackets.ErrMalformedOffsetBytesOutOfRange", Rows.laid_mochimqtt_pub_mochipackets_ErrMalformedOffsetBytesOutOfRange), ("mochimqtt/pub/mochipackets.ErrMalformedOffsetByteOutOfRange", Rows.laid_mochimqtt_pub_mochipackets_ErrMalformedOffsetByteOutOfRange), ("mochimqtt/pub/mochipackets.ErrMalformedOffsetBoolOutOfRange", Rows.laid_mochimqtt_pub_mochipackets_ErrMalformedOffsetBoolOutOfRange), ("mochimqtt/pub/mochipackets.ErrMalformedInvalidUTF8", Rows.laid_mochimqtt_pub_mochipackets_ErrMalformedInvalidUTF8), ("mochimqtt/pub/mochipackets.ErrMalformedVariableByteInteger", Rows.laid_mochimqtt_pub_mochipackets_ErrMalformedVariableByteInteger), ("mochimqtt/pub/mochipackets.ErrMalformedProperties", Rows.laid_mochimqtt_pub_mochipackets_ErrMalformedProperties), ("mochimqtt/pub/mochipackets.ErrMalformedWillProperties", Rows.laid_mochimqtt_pub_mochipackets_ErrMalformedWillProperties), ("mochimqtt/pub/mochipackets.ErrMalformedSessionPresent", Rows.laid_mochimqtt_pub_mochipackets_ErrMalformedSessionPresent), ("mochimqtt/pub/mochipackets.ErrMalformedReasonCode", Rows.laid_mochimqtt_pub_mochipackets_ErrMalformedReasonCode), ("mochimqtt/pub/mochipackets.ErrProtocolViolationFlagNoUsername", Rows.laid_mochimqtt_pub_mochipackets_ErrProtocolViolationFlagNoUsername), ("mochimqtt/pub/mochipackets.ErrProtocolViolationQosOutOfRange", Rows.laid_mochimqtt_pub_mochipackets_ErrProtocolViolationQosOutOfRange), ("mochimqtt/pub/mochipackets.ErrProtocolViolationDupNoQos", Rows.laid_mochimqtt_pub_mochipackets_ErrProtocolViolationDupNoQos), ("mochimqtt/pub/mochipackets.ErrProtocolViolationUnsupportedProperty", Rows.laid_mochimqtt_pub_mochipackets_ErrProtocolViolationUnsupportedProperty), ("mochimqtt/pub/mochipackets.ErrClientIdentifierNotValid", Rows.laid_mochimqtt_pub_mochipackets_ErrClientIdentifierNotValid), ("unicode/utf8.first", Rows.laid_unicode_utf8_first)] = true := by
  unfold Program.listedFits
  rw [noOwnUnsafe]
  kernel_rfl
theorem tie6 : Tryd.prog.laidByTextLater [("unicode/utf8.acceptRanges", Rows.laid_unicode_utf8_acceptRanges), ("mochimqtt/pub/mochipackets.ErrMalformedProtocolName", Rows.laid_mochimqtt_pub_mochipackets_ErrMalformedProtocolName), ("mochimqtt/pub/mochipackets.ErrMalformedProtocolVersion", Rows.laid_mochimqtt_pub_mochipackets_ErrMalformedProtocolVersion), ("mochimqtt/pub/mochipackets.ErrMalformedFlags", Rows.laid_mochimqtt_pub_mochipackets_ErrMalformedFlags), ("mochimqtt/pub/mochipackets.ErrMalformedKeepalive", Rows.laid_mochimqtt_pub_mochipackets_ErrMalformedKeepalive), ("mochimqtt/pub/mochipackets.ErrMalformedPacketID", Rows.laid_mochimqtt_pub_mochipackets_ErrMalformedPacketID), ("mochimqtt/pub/mochipackets.ErrMalformedTopic", Rows.laid_mochimqtt_pub_mochipackets_ErrMalformedTopic), ("mochimqtt/pub/mochipackets.ErrMalformedWillTopic", Rows.laid_mochimqtt_pub_mochipackets_ErrMalformedWillTopic), ("mochimqtt/pub/mochipackets.ErrMalformedWillPayload", Rows.laid_mochimqtt_pub_mochipackets_ErrMalformedWillPayload), ("mochimqtt/pub/mochipackets.ErrMalformedUsername", Rows.laid_mochimqtt_pub_mochipackets_ErrMalformedUsername), ("mochimqtt/pub/mochipackets.ErrMalformedPassword", Rows.laid_mochimqtt_pub_mochipackets_ErrMalformedPassword), ("mochimqtt/pub/mochipackets.ErrMalformedQos", Rows.laid_mochimqtt_pub_mochipackets_ErrMalformedQos), ("mochimqtt/pub/mochipackets.ErrMalformedOffsetUintOutOfRange", Rows.laid_mochimqtt_pub_mochipackets_ErrMalformedOffsetUintOutOfRange), ("mochimqtt/pub/mochipackets.ErrMalformedOffsetBytesOutOfRange", Rows.laid_mochimqtt_pub_mochipackets_ErrMalformedOffsetBytesOutOfRange), ("mochimqtt/pub/mochipackets.ErrMalformedOffsetByteOutOfRange", Rows.laid_mochimqtt_pub_mochipackets_ErrMalformedOffsetByteOutOfRange), ("mochimqtt/pub/mochipackets.ErrMalformedOffsetBoolOutOfRange", Rows.laid_mochimqtt_pub_mochipackets_ErrMalformedOffsetBoolOutOfRange), ("mochimqtt/pub/mochipackets.ErrMalformedInvalidUTF8", Rows.laid_mochimqtt_pub_mochipackets_ErrMalformedInvalidUTF8), ("mochimqtt/pub/mochipackets.ErrMalformedVariableByteInteger", Rows.laid_mochimqtt_pub_mochipackets_ErrMalformedVariableByteInteger), ("mochimqtt/pub/mochipackets.ErrMalformedProperties", Rows.laid_mochimqtt_pub_mochipackets_ErrMalformedProperties), ("mochimqtt/pub/mochipackets.ErrMalformedWillProperties", Rows.laid_mochimqtt_pub_mochipackets_ErrMalformedWillProperties), ("mochimqtt/pub/mochipackets.ErrMalformedSessionPresent", Rows.laid_mochimqtt_pub_mochipackets_ErrMalformedSessionPresent), ("mochimqtt/pub/mochipackets.ErrMalformedReasonCode", Rows.laid_mochimqtt_pub_mochipackets_ErrMalformedReasonCode), ("mochimqtt/pub/mochipackets.ErrProtocolViolationFlagNoUsername", Rows.laid_mochimqtt_pub_mochipackets_ErrProtocolViolationFlagNoUsername), ("mochimqtt/pub/mochipackets.ErrProtocolViolationQosOutOfRange", Rows.laid_mochimqtt_pub_mochipackets_ErrProtocolViolationQosOutOfRange), ("mochimqtt/pub/mochipackets.ErrProtocolViolationDupNoQos", Rows.laid_mochimqtt_pub_mochipackets_ErrProtocolViolationDupNoQos), ("mochimqtt/pub/mochipackets.ErrProtocolViolationUnsupportedProperty", Rows.laid_mochimqtt_pub_mochipackets_ErrProtocolViolationUnsupportedProperty), ("mochimqtt/pub/mochipackets.ErrClientIdentifierNotValid", Rows.laid_mochimqtt_pub_mochipackets_ErrClientIdentifierNotValid)] [.data, .data, .data, .data, .data, .data, .data, .data, .data, .data, .data, .data, .data, .data, .data, .data, .data, .data, .data, .data, .data, .data, .data, .data, .data, .data, .data] true :=
  Program.laidByTextLater.sub seatTie1 ["unicode/utf8.acceptRanges", "mochimqtt/pub/mochipackets.ErrMalformedProtocolName", "mochimqtt/pub/mochipackets.ErrMalformedProtocolVersion", "mochimqtt/pub/mochipackets.ErrMalformedFlags", "mochimqtt/pub/mochipackets.ErrMalformedKeepalive", "mochimqtt/pub/mochipackets.ErrMalformedPacketID", "mochimqtt/pub/mochipackets.ErrMalformedTopic", "mochimqtt/pub/mochipackets.ErrMalformedWillTopic", "mochimqtt/pub/mochipackets.ErrMalformedWillPayload", "mochimqtt/pub/mochipackets.ErrMalformedUsername", "mochimqtt/pub/mochipackets.ErrMalformedPassword", "mochimqtt/pub/mochipackets.ErrMalformedQos", "mochimqtt/pub/mochipackets.ErrMalformedOffsetUintOutOfRange", "mochimqtt/pub/mochipackets.ErrMalformedOffsetBytesOutOfRange", "mochimqtt/pub/mochipackets.ErrMalformedOffsetByteOutOfRange", "mochimqtt/pub/mochipackets.ErrMalformedOffsetBoolOutOfRange", "mochimqtt/pub/mochipackets.ErrMalformedInvalidUTF8", "mochimqtt/pub/mochipackets.ErrMalformedVariableByteInteger", "mochimqtt/pub/mochipackets.ErrMalformedProperties", "mochimqtt/pub/mochipackets.ErrMalformedWillProperties", "mochimqtt/pub/mochipackets.ErrMalformedSessionPresent", "mochimqtt/pub/mochipackets.ErrMalformedReasonCode", "mochimqtt/pub/mochipackets.ErrProtocolViolationFlagNoUsername", "mochimqtt/pub/mochipackets.ErrProtocolViolationQosOutOfRange", "mochimqtt/pub/mochipackets.ErrProtocolViolationDupNoQos", "mochimqtt/pub/mochipackets.ErrProtocolViolationUnsupportedProperty", "mochimqtt/pub/mochipackets.ErrClientIdentifierNotValid"] (by kernel_rfl) (by kernel_rfl)
theorem fnDecode_row_tie : Rows.fnDecodeRow.laidByTextAt .later Tryd.pinned [.data, .data, .data, .data, .data, .data, .data, .data, .data, .data, .data, .data, .data, .data, .data, .data, .data, .data, .data, .data, .data, .data, .data, .data, .data, .data, .data, .pinned] true :=
  OpenClaim.laidByTextAt_pinned rfl rfl tie6 rfl rfl rfl rfl (fun y hy _e => by
    simp only [Rows.fnDecodeRow, List.zip_cons_cons, List.zip_nil_right, List.mem_cons, List.mem_nil_iff, or_false] at hy
    rcases hy with rfl | rfl | rfl | rfl | rfl | rfl | rfl | rfl | rfl | rfl | rfl | rfl | rfl | rfl | rfl | rfl | rfl | rfl | rfl | rfl | rfl | rfl | rfl | rfl | rfl | rfl | rfl | rfl
    · cases _e
    · cases _e
    · cases _e
    · cases _e
    · cases _e
    · cases _e
    · cases _e
    · cases _e
    · cases _e
    · cases _e
    · cases _e
    · cases _e
    · cases _e
    · cases _e
    · cases _e
    · cases _e
    · cases _e
    · cases _e
    · cases _e
    · cases _e
    · cases _e
    · cases _e
    · cases _e
    · cases _e
    · cases _e
    · cases _e
    · cases _e
    · exact ⟨pin_laid_unicode_utf8_first, by kernel_rfl⟩) fits6
theorem fnTruncated_row_tie : Rows.fnTruncatedRow.laidByTextAt .later Tryd.pinned [.data, .data, .data, .data, .data, .data, .data, .data, .data, .data, .data, .data, .data, .data, .data, .data, .data, .data, .data, .data, .data, .data, .data, .data, .data, .data, .data, .pinned] true :=
  OpenClaim.laidByTextAt_pinned rfl rfl tie6 rfl rfl rfl rfl (fun y hy _e => by
    simp only [Rows.fnTruncatedRow, List.zip_cons_cons, List.zip_nil_right, List.mem_cons, List.mem_nil_iff, or_false] at hy
    rcases hy with rfl | rfl | rfl | rfl | rfl | rfl | rfl | rfl | rfl | rfl | rfl | rfl | rfl | rfl | rfl | rfl | rfl | rfl | rfl | rfl | rfl | rfl | rfl | rfl | rfl | rfl | rfl | rfl
    · cases _e
    · cases _e
    · cases _e
    · cases _e
    · cases _e
    · cases _e
    · cases _e
    · cases _e
    · cases _e
    · cases _e
    · cases _e
    · cases _e
    · cases _e
    · cases _e
    · cases _e
    · cases _e
    · cases _e
    · cases _e
    · cases _e
    · cases _e
    · cases _e
    · cases _e
    · cases _e
    · cases _e
    · cases _e
    · cases _e
    · cases _e
    · exact ⟨pin_laid_unicode_utf8_first, by kernel_rfl⟩) fits6
theorem fnLengthAnyUpto_row_tie : Rows.fnLengthAnyUptoRow.laidByTextAt .later Tryd.pinned [.data] true :=
  OpenClaim.laidByTextAt_later rfl rfl tie noOwnUnsafe
theorem fnLengthUpto_row_tie : Rows.fnLengthUptoRow.laidByTextAt .later Tryd.pinned [.data] true :=
  OpenClaim.laidByTextAt_later rfl rfl tie noOwnUnsafe
theorem fnHeaderUpto_row_tie : Rows.fnHeaderUptoRow.laidByTextAt .later Tryd.pinned [.data, .data, .data, .data] true :=
  OpenClaim.laidByTextAt_later rfl rfl tie2 noOwnUnsafe
theorem fnSharedUpto_row_tie : Rows.fnSharedUptoRow.laidByTextAt .later Tryd.pinned [.data, .data, .data, .data, .pinned, .pinned] true :=
  OpenClaim.laidByTextAt_pinned rfl rfl tie3 rfl rfl rfl rfl (fun y hy _e => by
    simp only [Rows.fnSharedUptoRow, List.zip_cons_cons, List.zip_nil_right, List.mem_cons, List.mem_nil_iff, or_false] at hy
    rcases hy with rfl | rfl | rfl | rfl | rfl | rfl
    · cases _e
    · cases _e
    · cases _e
    · cases _e
    · exact ⟨pin_laid_unicode_CaseRanges, by kernel_rfl⟩
    · exact ⟨pin_laid_unicode_utf8_first, by kernel_rfl⟩) fits3
theorem fnFilterUpto_row_tie : Rows.fnFilterUptoRow.laidByTextAt .later Tryd.pinned [.data, .data, .data, .data, .pinned, .pinned] true :=
  OpenClaim.laidByTextAt_pinned rfl rfl tie3 rfl rfl rfl rfl (fun y hy _e => by
    simp only [Rows.fnFilterUptoRow, List.zip_cons_cons, List.zip_nil_right, List.mem_cons, List.mem_nil_iff, or_false] at hy
    rcases hy with rfl | rfl | rfl | rfl | rfl | rfl
    · cases _e
    · cases _e
    · cases _e
    · cases _e
    · exact ⟨pin_laid_unicode_CaseRanges, by kernel_rfl⟩
    · exact ⟨pin_laid_unicode_utf8_first, by kernel_rfl⟩) fits3
theorem fnTopicNameUpto_row_tie : Rows.fnTopicNameUptoRow.laidByTextAt .later Tryd.pinned [.data, .data, .data, .data, .pinned, .pinned] true :=
  OpenClaim.laidByTextAt_pinned rfl rfl tie3 rfl rfl rfl rfl (fun y hy _e => by
    simp only [Rows.fnTopicNameUptoRow, List.zip_cons_cons, List.zip_nil_right, List.mem_cons, List.mem_nil_iff, or_false] at hy
    rcases hy with rfl | rfl | rfl | rfl | rfl | rfl
    · cases _e
    · cases _e
    · cases _e
    · cases _e
    · exact ⟨pin_laid_unicode_CaseRanges, by kernel_rfl⟩
    · exact ⟨pin_laid_unicode_utf8_first, by kernel_rfl⟩) fits3
theorem fnPropertiesUpto_row_tie : Rows.fnPropertiesUptoRow.laidByTextAt .later Tryd.pinned [.data, .data, .data, .data, .data, .data, .data, .pinned] true :=
  OpenClaim.laidByTextAt_pinned rfl rfl tie4 rfl rfl rfl rfl (fun y hy _e => by
    simp only [Rows.fnPropertiesUptoRow, List.zip_cons_cons, List.zip_nil_right, List.mem_cons, List.mem_nil_iff, or_false] at hy
    rcases hy with rfl | rfl | rfl | rfl | rfl | rfl | rfl | rfl
    · cases _e
    · cases _e
    · cases _e
    · cases _e
    · cases _e
    · cases _e
    · cases _e
    · exact ⟨pin_laid_unicode_utf8_first, by kernel_rfl⟩) fits4
theorem fnEncodeUpto_row_tie : Rows.fnEncodeUptoRow.laidByTextAt .later Tryd.pinned [.data, .data, .data] true :=
  OpenClaim.laidByTextAt_later rfl rfl tie5 noOwnUnsafe
theorem fnDecodeUpto_row_tie : Rows.fnDecodeUptoRow.laidByTextAt .later Tryd.pinned [.data, .data, .data, .data, .data, .data, .data, .data, .data, .data, .data, .data, .data, .data, .data, .data, .data, .data, .data, .data, .data, .data, .data, .data, .data, .data, .data, .pinned] true :=
  OpenClaim.laidByTextAt_pinned rfl rfl tie6 rfl rfl rfl rfl (fun y hy _e => by
    simp only [Rows.fnDecodeUptoRow, List.zip_cons_cons, List.zip_nil_right, List.mem_cons, List.mem_nil_iff, or_false] at hy
    rcases hy with rfl | rfl | rfl | rfl | rfl | rfl | rfl | rfl | rfl | rfl | rfl | rfl | rfl | rfl | rfl | rfl | rfl | rfl | rfl | rfl | rfl | rfl | rfl | rfl | rfl | rfl | rfl | rfl
    · cases _e
    · cases _e
    · cases _e
    · cases _e
    · cases _e
    · cases _e
    · cases _e
    · cases _e
    · cases _e
    · cases _e
    · cases _e
    · cases _e
    · cases _e
    · cases _e
    · cases _e
    · cases _e
    · cases _e
    · cases _e
    · cases _e
    · cases _e
    · cases _e
    · cases _e
    · cases _e
    · cases _e
    · cases _e
    · cases _e
    · cases _e
    · exact ⟨pin_laid_unicode_utf8_first, by kernel_rfl⟩) fits6
theorem fnTruncatedUpto_row_tie : Rows.fnTruncatedUptoRow.laidByTextAt .later Tryd.pinned [.data, .data, .data, .data, .data, .data, .data, .data, .data, .data, .data, .data, .data, .data, .data, .data, .data, .data, .data, .data, .data, .data, .data, .data, .data, .data, .data, .pinned] true :=
  OpenClaim.laidByTextAt_pinned rfl rfl tie6 rfl rfl rfl rfl (fun y hy _e => by
    simp only [Rows.fnTruncatedUptoRow, List.zip_cons_cons, List.zip_nil_right, List.mem_cons, List.mem_nil_iff, or_false] at hy
    rcases hy with rfl | rfl | rfl | rfl | rfl | rfl | rfl | rfl | rfl | rfl | rfl | rfl | rfl | rfl | rfl | rfl | rfl | rfl | rfl | rfl | rfl | rfl | rfl | rfl | rfl | rfl | rfl | rfl
    · cases _e
    · cases _e
    · cases _e
    · cases _e
    · cases _e
    · cases _e
    · cases _e
    · cases _e
    · cases _e
    · cases _e
    · cases _e
    · cases _e
    · cases _e
    · cases _e
    · cases _e
    · cases _e
    · cases _e
    · cases _e
    · cases _e
    · cases _e
    · cases _e
    · cases _e
    · cases _e
    · cases _e
    · cases _e
    · cases _e
    · cases _e
    · exact ⟨pin_laid_unicode_utf8_first, by kernel_rfl⟩) fits6
end Go.Proofs.YtkglmacaecmhdaaDoor
