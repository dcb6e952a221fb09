/- Five closed facts of the program, apart: each is a great run of the kernel, and one declaration that holds them all outgrows the lid on memory. -/
import Derived.Test.Qxb6001044aRows
import Derived.WalkKit
import Derived.ProofKit
import Derived.OpenShut
import Derived.Below
namespace Go.Proofs.Qxb6001044a
open Go.RowKit

theorem laid_fact : laidOutB Try.prog = true := by kernel_rfl
theorem maps_fact : mapsRowed Try.prog = true := by kernel_rfl
theorem enter_fact : Try.prog.mayEnter = true := by kernel_rfl
theorem lifts_fact : (false == Try.prog.liftsFinal) = true := by kernel_rfl
theorem make_fact : (Try.prog.make == some Rows.fnPiecesOfStopsAtSyncPartAndNotBeforeRow.make) = true := by kernel_rfl
end Go.Proofs.Qxb6001044a
