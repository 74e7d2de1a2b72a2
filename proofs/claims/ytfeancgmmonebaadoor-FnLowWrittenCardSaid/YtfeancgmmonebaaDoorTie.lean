/-
  DERIVED. GIVEN WITH THE SEED: THE PROGRAM's TIES (one call each: nine closed facts by the kernel) AND EACH ROW's TIE, after the 31st guide's Derived/Test/Toyas{Tie, Card}.lean. No idea stands in it: it is a product of the set-up. Laid BY PROGRAM, IN A SANDBOX (cutbox-door.mjs). By AI agents, Wed Nov 11 2026. No macro, syntax, notation, axiom, sorry.
-/
import Derived.Test.YtfeancgmmonebaaDoorRows
import Derived.LaidByTextLater
import Derived.SevenTiedAt
import Derived.LaidSub
import Derived.LaidOnce
namespace Go.Proofs.YtfeancgmmonebaaDoor
open Go
set_option maxRecDepth 100000
theorem seatTie1 : Tryd.prog.laidByTextLater [("pub-sigillum/pub/btcdbtcec/ecdsa.errNegativeValue", Rows.laid_pub_sigillum_pub_btcdbtcec_ecdsa_errNegativeValue), ("pub-sigillum/pub/btcdbtcec/ecdsa.errExcessivelyPaddedValue", Rows.laid_pub_sigillum_pub_btcdbtcec_ecdsa_errExcessivelyPaddedValue), ("pub-sigillum/pub/btcdbtcec/ecdsa.errHighS", Rows.laid_pub_sigillum_pub_btcdbtcec_ecdsa_errHighS), ("pub-sigillum/pub/btcdbtcec/ecdsa.errNoHeaderMagic", Rows.laid_pub_sigillum_pub_btcdbtcec_ecdsa_errNoHeaderMagic)] [.sentinel, .sentinel, .sentinel, .sentinel] true :=
  Program.laidByTextLater_by_one 85 8 2 (by kernel_rfl) (by kernel_rfl) (by kernel_rfl) (by kernel_rfl) (by kernel_rfl) (by kernel_rfl) (fun _ _ => by kernel_rfl)
theorem noOwnUnsafe : Tryd.pinned.checked.prog.headLifts.contains "ownunsafe" = false := by kernel_rfl
theorem tie : Tryd.prog.laidByTextLater [("pub-sigillum/pub/btcdbtcec/ecdsa.errNegativeValue", Rows.laid_pub_sigillum_pub_btcdbtcec_ecdsa_errNegativeValue), ("pub-sigillum/pub/btcdbtcec/ecdsa.errExcessivelyPaddedValue", Rows.laid_pub_sigillum_pub_btcdbtcec_ecdsa_errExcessivelyPaddedValue), ("pub-sigillum/pub/btcdbtcec/ecdsa.errHighS", Rows.laid_pub_sigillum_pub_btcdbtcec_ecdsa_errHighS), ("pub-sigillum/pub/btcdbtcec/ecdsa.errNoHeaderMagic", Rows.laid_pub_sigillum_pub_btcdbtcec_ecdsa_errNoHeaderMagic)] [.sentinel, .sentinel, .sentinel, .sentinel] true :=
  Program.laidByTextLater.sub seatTie1 ["pub-sigillum/pub/btcdbtcec/ecdsa.errNegativeValue", "pub-sigillum/pub/btcdbtcec/ecdsa.errExcessivelyPaddedValue", "pub-sigillum/pub/btcdbtcec/ecdsa.errHighS", "pub-sigillum/pub/btcdbtcec/ecdsa.errNoHeaderMagic"] (by kernel_rfl) (by kernel_rfl)
theorem fnLowS_row_tie : Rows.fnLowSRow.laidByTextAt .later Tryd.pinned [.sentinel, .sentinel, .sentinel, .sentinel] true :=
  OpenClaim.laidByTextAt_later rfl rfl tie noOwnUnsafe
theorem fnLowWritten_row_tie : Rows.fnLowWrittenRow.laidByTextAt .later Tryd.pinned [.sentinel, .sentinel, .sentinel, .sentinel] true :=
  OpenClaim.laidByTextAt_later rfl rfl tie noOwnUnsafe
theorem fnLowSUpto_row_tie : Rows.fnLowSUptoRow.laidByTextAt .later Tryd.pinned [.sentinel, .sentinel, .sentinel, .sentinel] true :=
  OpenClaim.laidByTextAt_later rfl rfl tie noOwnUnsafe
theorem fnLowWrittenUpto_row_tie : Rows.fnLowWrittenUptoRow.laidByTextAt .later Tryd.pinned [.sentinel, .sentinel, .sentinel, .sentinel] true :=
  OpenClaim.laidByTextAt_later rfl rfl tie noOwnUnsafe
end Go.Proofs.YtfeancgmmonebaaDoor
