/-
  DERIVED. GIVEN WITH THE SEED: THE PROGRAM's TIES (one call each: nine closed facts by the kernel) AND EACH ROW's TIE, after the 31st guide's Derived/Test/Toyas{Tie, Card}.lean. No idea stands in it: it is a product of the set-up. Laid BY PROGRAM, IN A SANDBOX (cutbox-door.mjs). By AI agents, Wed Nov 11 2026. No macro, syntax, notation, axiom, sorry.
-/
import Derived.Test.YteedhaenbamiaaaGreatDoorRows
import Derived.LaidByTextLater
import Derived.SevenTiedAt
import Derived.LaidSub
import Derived.LaidOnce
namespace Go.Proofs.YteedhaenbamiaaaGreatDoor
open Go
set_option maxRecDepth 100000
theorem seatTie1 : Tryz.prog.laidByTextLater [("math/bits.deBruijn32tab", Rows.laid_math_bits_deBruijn32tab), ("math/bits.deBruijn64tab", Rows.laid_math_bits_deBruijn64tab), ("internal/strconv.uint64pow10", Rows.laid_internal_strconv_uint64pow10), ("strconv.ErrRange", Rows.laid_strconv_ErrRange), ("strconv.ErrSyntax", Rows.laid_strconv_ErrSyntax), ("unicode.White_Space", Rows.laid_unicode_White_Space), ("net/netip.z4", Rows.laid_net_netip_z4), ("net/netip.z6noz", Rows.laid_net_netip_z6noz), ("net/netip.z0", Rows.laid_net_netip_z0)] [.data, .data, .data, .sentinel, .sentinel, .listed, .called, .called, .zero] true :=
  Program.laidByTextLater_by_one 108 8 257 (by kernel_rfl) (by kernel_rfl) (by kernel_rfl) (by kernel_rfl) (by kernel_rfl) (by kernel_rfl) (fun _ _ => by kernel_rfl)
theorem seatTie2 : Tryz.prog.laidByTextLater [("math/bits.deBruijn32tab", Rows.laid_math_bits_deBruijn32tab), ("math/bits.deBruijn64tab", Rows.laid_math_bits_deBruijn64tab), ("internal/strconv.uint64pow10", Rows.laid_internal_strconv_uint64pow10), ("unicode/utf8.acceptRanges", Rows.laid_unicode_utf8_acceptRanges), ("strconv.ErrRange", Rows.laid_strconv_ErrRange), ("strconv.ErrSyntax", Rows.laid_strconv_ErrSyntax), ("unicode.White_Space", Rows.laid_unicode_White_Space), ("strings.asciiSpace", Rows.laid_strings_asciiSpace), ("net/netip.z4", Rows.laid_net_netip_z4), ("net/netip.z6noz", Rows.laid_net_netip_z6noz), ("net/netip.z0", Rows.laid_net_netip_z0)] [.data, .data, .data, .data, .sentinel, .sentinel, .listed, .data, .called, .called, .zero] true :=
  Program.laidByTextLater_by_one 108 8 257 (by kernel_rfl) (by kernel_rfl) (by kernel_rfl) (by kernel_rfl) (by kernel_rfl) (by kernel_rfl) (fun _ _ => by kernel_rfl)
theorem pin_laid_unicode_utf8_first : Tryz.pinned.checked.prog.pinnedFits "unicode/utf8.first" = true := by kernel_rfl
theorem noOwnUnsafe : Tryz.pinned.checked.prog.headLifts.contains "ownunsafe" = false := by kernel_rfl
theorem tie : Tryz.prog.laidByTextLater [("math/bits.deBruijn32tab", Rows.laid_math_bits_deBruijn32tab), ("math/bits.deBruijn64tab", Rows.laid_math_bits_deBruijn64tab), ("internal/strconv.uint64pow10", Rows.laid_internal_strconv_uint64pow10), ("strconv.ErrRange", Rows.laid_strconv_ErrRange), ("strconv.ErrSyntax", Rows.laid_strconv_ErrSyntax), ("unicode.White_Space", Rows.laid_unicode_White_Space), ("net/netip.z4", Rows.laid_net_netip_z4), ("net/netip.z6noz", Rows.laid_net_netip_z6noz), ("net/netip.z0", Rows.laid_net_netip_z0)] [.data, .data, .data, .sentinel, .sentinel, .listed, .called, .called, .zero] true :=
  Program.laidByTextLater.sub seatTie1 ["math/bits.deBruijn32tab", "math/bits.deBruijn64tab", "internal/strconv.uint64pow10", "strconv.ErrRange", "strconv.ErrSyntax", "unicode.White_Space", "net/netip.z4", "net/netip.z6noz", "net/netip.z0"] (by kernel_rfl) (by kernel_rfl)
theorem fnHosts_row_tie : Rows.fnHostsRow.laidByTextAt .later Tryz.pinned [.data, .data, .data, .sentinel, .sentinel, .listed, .called, .called, .zero] true :=
  OpenClaim.laidByTextAt_later rfl rfl tie noOwnUnsafe
theorem fnUriText_row_tie : Rows.fnUriTextRow.laidByTextAt .later Tryz.pinned [.data, .data, .data, .sentinel, .sentinel, .listed, .called, .called, .zero] true :=
  OpenClaim.laidByTextAt_later rfl rfl tie noOwnUnsafe
theorem fnUriWritten_row_tie : Rows.fnUriWrittenRow.laidByTextAt .later Tryz.pinned [.data, .data, .data, .sentinel, .sentinel, .listed, .called, .called, .zero] true :=
  OpenClaim.laidByTextAt_later rfl rfl tie noOwnUnsafe
theorem fits2 : Tryz.pinned.checked.prog.listedFits [("math/bits.deBruijn32tab", Rows.laid_math_bits_deBruijn32tab), ("math/bits.deBruijn64tab", Rows.laid_math_bits_deBruijn64tab), ("internal/strconv.uint64pow10", Rows.laid_internal_strconv_uint64pow10), ("unicode/utf8.acceptRanges", Rows.laid_unicode_utf8_acceptRanges), ("strconv.ErrRange", Rows.laid_strconv_ErrRange), ("strconv.ErrSyntax", Rows.laid_strconv_ErrSyntax), ("unicode.White_Space", Rows.laid_unicode_White_Space), ("strings.asciiSpace", Rows.laid_strings_asciiSpace), ("net/netip.z4", Rows.laid_net_netip_z4), ("net/netip.z6noz", Rows.laid_net_netip_z6noz), ("net/netip.z0", Rows.laid_net_netip_z0), ("unicode/utf8.first", Rows.laid_unicode_utf8_first)] = true := by
  unfold Program.listedFits
  rw [noOwnUnsafe]
  kernel_rfl
theorem tie2 : Tryz.prog.laidByTextLater [("math/bits.deBruijn32tab", Rows.laid_math_bits_deBruijn32tab), ("math/bits.deBruijn64tab", Rows.laid_math_bits_deBruijn64tab), ("internal/strconv.uint64pow10", Rows.laid_internal_strconv_uint64pow10), ("unicode/utf8.acceptRanges", Rows.laid_unicode_utf8_acceptRanges), ("strconv.ErrRange", Rows.laid_strconv_ErrRange), ("strconv.ErrSyntax", Rows.laid_strconv_ErrSyntax), ("unicode.White_Space", Rows.laid_unicode_White_Space), ("strings.asciiSpace", Rows.laid_strings_asciiSpace), ("net/netip.z4", Rows.laid_net_netip_z4), ("net/netip.z6noz", Rows.laid_net_netip_z6noz), ("net/netip.z0", Rows.laid_net_netip_z0)] [.data, .data, .data, .data, .sentinel, .sentinel, .listed, .data, .called, .called, .zero] true :=
  Program.laidByTextLater.sub seatTie2 ["math/bits.deBruijn32tab", "math/bits.deBruijn64tab", "internal/strconv.uint64pow10", "unicode/utf8.acceptRanges", "strconv.ErrRange", "strconv.ErrSyntax", "unicode.White_Space", "strings.asciiSpace", "net/netip.z4", "net/netip.z6noz", "net/netip.z0"] (by kernel_rfl) (by kernel_rfl)
theorem fnAddress_row_tie : Rows.fnAddressRow.laidByTextAt .later Tryz.pinned [.data, .data, .data, .data, .sentinel, .sentinel, .listed, .data, .called, .called, .zero, .pinned] true :=
  OpenClaim.laidByTextAt_pinned rfl rfl tie2 rfl rfl rfl rfl (fun y hy _e => by
    simp only [Rows.fnAddressRow, List.zip_cons_cons, List.zip_nil_right, List.mem_cons, List.mem_nil_iff, or_false] at hy
    rcases hy with rfl | rfl | rfl | rfl | rfl | rfl | rfl | rfl | rfl | rfl | rfl | rfl
    · cases _e
    · cases _e
    · cases _e
    · cases _e
    · cases _e
    · cases _e
    · cases _e
    · cases _e
    · cases _e
    · cases _e
    · cases _e
    · exact ⟨pin_laid_unicode_utf8_first, by kernel_rfl⟩) fits2
theorem fnAddressRead_row_tie : Rows.fnAddressReadRow.laidByTextAt .later Tryz.pinned [.data, .data, .data, .data, .sentinel, .sentinel, .listed, .data, .called, .called, .zero, .pinned] true :=
  OpenClaim.laidByTextAt_pinned rfl rfl tie2 rfl rfl rfl rfl (fun y hy _e => by
    simp only [Rows.fnAddressReadRow, List.zip_cons_cons, List.zip_nil_right, List.mem_cons, List.mem_nil_iff, or_false] at hy
    rcases hy with rfl | rfl | rfl | rfl | rfl | rfl | rfl | rfl | rfl | rfl | rfl | rfl
    · cases _e
    · cases _e
    · cases _e
    · cases _e
    · cases _e
    · cases _e
    · cases _e
    · cases _e
    · cases _e
    · cases _e
    · cases _e
    · exact ⟨pin_laid_unicode_utf8_first, by kernel_rfl⟩) fits2
theorem fnHostsUpto_row_tie : Rows.fnHostsUptoRow.laidByTextAt .later Tryz.pinned [.data, .data, .data, .sentinel, .sentinel, .listed, .called, .called, .zero] true :=
  OpenClaim.laidByTextAt_later rfl rfl tie noOwnUnsafe
theorem fnUriTextUpto_row_tie : Rows.fnUriTextUptoRow.laidByTextAt .later Tryz.pinned [.data, .data, .data, .sentinel, .sentinel, .listed, .called, .called, .zero] true :=
  OpenClaim.laidByTextAt_later rfl rfl tie noOwnUnsafe
theorem fnUriWrittenUpto_row_tie : Rows.fnUriWrittenUptoRow.laidByTextAt .later Tryz.pinned [.data, .data, .data, .sentinel, .sentinel, .listed, .called, .called, .zero] true :=
  OpenClaim.laidByTextAt_later rfl rfl tie noOwnUnsafe
theorem fnAddressUpto_row_tie : Rows.fnAddressUptoRow.laidByTextAt .later Tryz.pinned [.data, .data, .data, .data, .sentinel, .sentinel, .listed, .data, .called, .called, .zero, .pinned] true :=
  OpenClaim.laidByTextAt_pinned rfl rfl tie2 rfl rfl rfl rfl (fun y hy _e => by
    simp only [Rows.fnAddressUptoRow, List.zip_cons_cons, List.zip_nil_right, List.mem_cons, List.mem_nil_iff, or_false] at hy
    rcases hy with rfl | rfl | rfl | rfl | rfl | rfl | rfl | rfl | rfl | rfl | rfl | rfl
    · cases _e
    · cases _e
    · cases _e
    · cases _e
    · cases _e
    · cases _e
    · cases _e
    · cases _e
    · cases _e
    · cases _e
    · cases _e
    · exact ⟨pin_laid_unicode_utf8_first, by kernel_rfl⟩) fits2
theorem fnAddressReadUpto_row_tie : Rows.fnAddressReadUptoRow.laidByTextAt .later Tryz.pinned [.data, .data, .data, .data, .sentinel, .sentinel, .listed, .data, .called, .called, .zero, .pinned] true :=
  OpenClaim.laidByTextAt_pinned rfl rfl tie2 rfl rfl rfl rfl (fun y hy _e => by
    simp only [Rows.fnAddressReadUptoRow, List.zip_cons_cons, List.zip_nil_right, List.mem_cons, List.mem_nil_iff, or_false] at hy
    rcases hy with rfl | rfl | rfl | rfl | rfl | rfl | rfl | rfl | rfl | rfl | rfl | rfl
    · cases _e
    · cases _e
    · cases _e
    · cases _e
    · cases _e
    · cases _e
    · cases _e
    · cases _e
    · cases _e
    · cases _e
    · cases _e
    · exact ⟨pin_laid_unicode_utf8_first, by kernel_rfl⟩) fits2
end Go.Proofs.YteedhaenbamiaaaGreatDoor
