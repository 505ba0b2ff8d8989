/-
  DERIVED. GIVEN WITH THE SEED: THE PROGRAM's TIES (one call each: nine closed facts by the kernel) AND EACH ROW's TIE, after the 31st guide's Derived/Test/Toyas{Tie, Card}.lean. No idea stands in it: it is a product of the set-up. Laid BY PROGRAM, IN A SANDBOX (cutbox-door.mjs). By AI agents, Wed Nov 11 2026. No macro, syntax, notation, axiom, sorry.
-/
import Derived.Test.YtooifcdkpddlmaaDoorRows
import Derived.LaidByTextLater
import Derived.SevenTiedAt
import Derived.LaidSub
import Derived.LaidOnce
namespace Go.Proofs.YtooifcdkpddlmaaDoor
open Go
set_option maxRecDepth 100000
theorem seatTie1 : Tryd.prog.laidByTextLater [("given.example/pub-saddlebag/pub/msgp/msgp.ErrShortBytes", Rows.laid_given_example_pub_saddlebag_pub_msgp_msgp_ErrShortBytes), ("given.example/pub-saddlebag/pub/msgp/msgp.ErrRecursion", Rows.laid_given_example_pub_saddlebag_pub_msgp_msgp_ErrRecursion), ("given.example/pub-saddlebag/pub/msgp/msgp.fatal", Rows.laid_given_example_pub_saddlebag_pub_msgp_msgp_fatal)] [.wider, .wider, .wider] true :=
  Program.laidByTextLater_by_one 27 8 2 (by kernel_rfl) (by kernel_rfl) (by kernel_rfl) (by kernel_rfl) (by kernel_rfl) (by kernel_rfl) (fun _ _ => by kernel_rfl)
theorem noOwnUnsafe : Tryd.pinned.checked.prog.headLifts.contains "ownunsafe" = false := by kernel_rfl
theorem tie : Tryd.prog.laidByTextLater [("given.example/pub-saddlebag/pub/msgp/msgp.ErrShortBytes", Rows.laid_given_example_pub_saddlebag_pub_msgp_msgp_ErrShortBytes)] [.wider] true :=
  Program.laidByTextLater.sub seatTie1 ["given.example/pub-saddlebag/pub/msgp/msgp.ErrShortBytes"] (by kernel_rfl) (by kernel_rfl)
theorem fnGetMapHead_row_tie : Rows.fnGetMapHeadRow.laidByTextAt .later Tryd.pinned [.wider] true :=
  OpenClaim.laidByTextAt_later rfl rfl tie noOwnUnsafe
theorem fnGetExt_row_tie : Rows.fnGetExtRow.laidByTextAt .later Tryd.pinned [.wider] true :=
  OpenClaim.laidByTextAt_later rfl rfl tie noOwnUnsafe
theorem tie2 : Tryd.prog.laidByTextLater [("given.example/pub-saddlebag/pub/msgp/msgp.ErrShortBytes", Rows.laid_given_example_pub_saddlebag_pub_msgp_msgp_ErrShortBytes), ("given.example/pub-saddlebag/pub/msgp/msgp.ErrRecursion", Rows.laid_given_example_pub_saddlebag_pub_msgp_msgp_ErrRecursion), ("given.example/pub-saddlebag/pub/msgp/msgp.fatal", Rows.laid_given_example_pub_saddlebag_pub_msgp_msgp_fatal)] [.wider, .wider, .wider] true :=
  Program.laidByTextLater.sub seatTie1 ["given.example/pub-saddlebag/pub/msgp/msgp.ErrShortBytes", "given.example/pub-saddlebag/pub/msgp/msgp.ErrRecursion", "given.example/pub-saddlebag/pub/msgp/msgp.fatal"] (by kernel_rfl) (by kernel_rfl)
theorem fnLocate_row_tie : Rows.fnLocateRow.laidByTextAt .later Tryd.pinned [.wider, .wider, .wider] true :=
  OpenClaim.laidByTextAt_later rfl rfl tie2 noOwnUnsafe
theorem fnGetMapHeadUpto_row_tie : Rows.fnGetMapHeadUptoRow.laidByTextAt .later Tryd.pinned [.wider] true :=
  OpenClaim.laidByTextAt_later rfl rfl tie noOwnUnsafe
theorem fnLocateUpto_row_tie : Rows.fnLocateUptoRow.laidByTextAt .later Tryd.pinned [.wider, .wider, .wider] true :=
  OpenClaim.laidByTextAt_later rfl rfl tie2 noOwnUnsafe
theorem fnGetExtUpto_row_tie : Rows.fnGetExtUptoRow.laidByTextAt .later Tryd.pinned [.wider] true :=
  OpenClaim.laidByTextAt_later rfl rfl tie noOwnUnsafe
end Go.Proofs.YtooifcdkpddlmaaDoor
