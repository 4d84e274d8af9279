/-
  DERIVED. GIVEN WITH THE SEED: THE PROGRAM's TIES (one call each: nine closed facts by the kernel) AND EACH ROW's TIE, after the 31st guide's Derived/Test/Toyas{Tie, Card}.lean. No idea stands in it: it is a product of the set-up. Laid BY PROGRAM, IN A SANDBOX (cutbox-door.mjs). By AI agents, Wed Nov 11 2026. No macro, syntax, notation, axiom, sorry.
-/
import Derived.Test.YtpkipinamlbdoaaGreatDoorRows
import Derived.LaidByTextLater
import Derived.SevenTiedAt
import Derived.LaidSub
import Derived.LaidOnce
namespace Go.Proofs.YtpkipinamlbdoaaGreatDoor
open Go
set_option maxRecDepth 100000
theorem seatTie1 : Tryz.prog.laidByTextLater [("loop.example/pub-g03083/pub/stun.ErrAttributeNotFound", Rows.laid_loop_example_pub_g03083_pub_stun_ErrAttributeNotFound), ("loop.example/pub-g03083/pub/stun.ErrAttributeSizeInvalid", Rows.laid_loop_example_pub_g03083_pub_stun_ErrAttributeSizeInvalid), ("loop.example/pub-g03083/pub/stun.ErrFingerprintMismatch", Rows.laid_loop_example_pub_g03083_pub_stun_ErrFingerprintMismatch), ("loop.example/pub-g03083/pub/stun.ErrIntegrityMismatch", Rows.laid_loop_example_pub_g03083_pub_stun_ErrIntegrityMismatch), ("loop.example/pub-g03083/pub/stun.ErrDecodeToNil", Rows.laid_loop_example_pub_g03083_pub_stun_ErrDecodeToNil), ("loop.example/pub-g03083/pub/stun.ErrUnexpectedHeaderEOF", Rows.laid_loop_example_pub_g03083_pub_stun_ErrUnexpectedHeaderEOF)] [.sentinel, .sentinel, .sentinel, .sentinel, .sentinel, .sentinel] true :=
  Program.laidByTextLater_by_one 123 8 2 (by kernel_rfl) (by kernel_rfl) (by kernel_rfl) (by kernel_rfl) (by kernel_rfl) (by kernel_rfl) (fun _ _ => by kernel_rfl)
theorem noOwnUnsafe : Tryz.pinned.checked.prog.headLifts.contains "ownunsafe" = false := by kernel_rfl
theorem tie : Tryz.prog.laidByTextLater [("loop.example/pub-g03083/pub/stun.ErrAttributeNotFound", Rows.laid_loop_example_pub_g03083_pub_stun_ErrAttributeNotFound), ("loop.example/pub-g03083/pub/stun.ErrAttributeSizeInvalid", Rows.laid_loop_example_pub_g03083_pub_stun_ErrAttributeSizeInvalid), ("loop.example/pub-g03083/pub/stun.ErrFingerprintMismatch", Rows.laid_loop_example_pub_g03083_pub_stun_ErrFingerprintMismatch), ("loop.example/pub-g03083/pub/stun.ErrIntegrityMismatch", Rows.laid_loop_example_pub_g03083_pub_stun_ErrIntegrityMismatch), ("loop.example/pub-g03083/pub/stun.ErrDecodeToNil", Rows.laid_loop_example_pub_g03083_pub_stun_ErrDecodeToNil), ("loop.example/pub-g03083/pub/stun.ErrUnexpectedHeaderEOF", Rows.laid_loop_example_pub_g03083_pub_stun_ErrUnexpectedHeaderEOF)] [.sentinel, .sentinel, .sentinel, .sentinel, .sentinel, .sentinel] true :=
  Program.laidByTextLater.sub seatTie1 ["loop.example/pub-g03083/pub/stun.ErrAttributeNotFound", "loop.example/pub-g03083/pub/stun.ErrAttributeSizeInvalid", "loop.example/pub-g03083/pub/stun.ErrFingerprintMismatch", "loop.example/pub-g03083/pub/stun.ErrIntegrityMismatch", "loop.example/pub-g03083/pub/stun.ErrDecodeToNil", "loop.example/pub-g03083/pub/stun.ErrUnexpectedHeaderEOF"] (by kernel_rfl) (by kernel_rfl)
theorem fnTakenAny_row_tie : Rows.fnTakenAnyRow.laidByTextAt .later Tryz.pinned [.sentinel, .sentinel, .sentinel, .sentinel, .sentinel, .sentinel] true :=
  OpenClaim.laidByTextAt_later rfl rfl tie noOwnUnsafe
theorem fnTakenAnyUpto_row_tie : Rows.fnTakenAnyUptoRow.laidByTextAt .later Tryz.pinned [.sentinel, .sentinel, .sentinel, .sentinel, .sentinel, .sentinel] true :=
  OpenClaim.laidByTextAt_later rfl rfl tie noOwnUnsafe
end Go.Proofs.YtpkipinamlbdoaaGreatDoor
