/-
  DERIVED. GIVEN WITH THE SEED: THE PROGRAM's TIES (one call each: nine closed facts by the kernel) AND EACH ROW's TIE, after the 31st guide's Derived/Test/Toyas{Tie, Card}.lean. No idea stands in it: it is a product of the set-up. Laid BY PROGRAM, IN A SANDBOX (cutbox-door.mjs). By AI agents, Wed Nov 11 2026. No macro, syntax, notation, axiom, sorry.
-/
import Derived.Test.YtbcjhkncifckiaaDoorRows
import Derived.LaidByTextLater
import Derived.SevenTiedAt
import Derived.LaidSub
import Derived.LaidOnce
namespace Go.Proofs.YtbcjhkncifckiaaDoor
open Go
set_option maxRecDepth 100000
theorem seatTie1 : Tryd.prog.laidByTextLater [("math._sin", Rows.laid_math_sin), ("math._cos", Rows.laid_math_cos), ("math.mPi4", Rows.laid_math_mPi4), ("loop.example/pub-g03435/pub/mp3frame.isRatios", Rows.laid_loop_example_pub_g03435_pub_mp3frame_isRatios), ("loop.example/pub-g03435/pub/mp3frame.cs", Rows.laid_loop_example_pub_g03435_pub_mp3frame_cs), ("loop.example/pub-g03435/pub/mp3frame.ca", Rows.laid_loop_example_pub_g03435_pub_mp3frame_ca)] [.data, .data, .data, .data, .data, .data] true :=
  Program.laidByTextLater_by_one 39 8 21 (by kernel_rfl) (by kernel_rfl) (by kernel_rfl) (by kernel_rfl) (by kernel_rfl) (by kernel_rfl) (fun _ _ => by kernel_rfl)
theorem noOwnUnsafe : Tryd.pinned.checked.prog.headLifts.contains "ownunsafe" = false := by kernel_rfl
theorem tie : Tryd.prog.laidByTextLater [("loop.example/pub-g03435/pub/mp3frame.cs", Rows.laid_loop_example_pub_g03435_pub_mp3frame_cs), ("loop.example/pub-g03435/pub/mp3frame.ca", Rows.laid_loop_example_pub_g03435_pub_mp3frame_ca)] [.data, .data] true :=
  Program.laidByTextLater.sub seatTie1 ["loop.example/pub-g03435/pub/mp3frame.cs", "loop.example/pub-g03435/pub/mp3frame.ca"] (by kernel_rfl) (by kernel_rfl)
theorem fnAntialias_row_tie : Rows.fnAntialiasRow.laidByTextAt .later Tryd.pinned [.data, .data] true :=
  OpenClaim.laidByTextAt_later rfl rfl tie noOwnUnsafe
theorem tie2 : Tryd.prog.laidByTextLater [("loop.example/pub-g03435/pub/mp3frame.isRatios", Rows.laid_loop_example_pub_g03435_pub_mp3frame_isRatios)] [.data] true :=
  Program.laidByTextLater.sub seatTie1 ["loop.example/pub-g03435/pub/mp3frame.isRatios"] (by kernel_rfl) (by kernel_rfl)
theorem fnStereo_row_tie : Rows.fnStereoRow.laidByTextAt .later Tryd.pinned [.data] true :=
  OpenClaim.laidByTextAt_later rfl rfl tie2 noOwnUnsafe
theorem fnStereoTwice_row_tie : Rows.fnStereoTwiceRow.laidByTextAt .later Tryd.pinned [.data] true :=
  OpenClaim.laidByTextAt_later rfl rfl tie2 noOwnUnsafe
theorem tie3 : Tryd.prog.laidByTextLater [("math._sin", Rows.laid_math_sin), ("math._cos", Rows.laid_math_cos), ("math.mPi4", Rows.laid_math_mPi4)] [.data, .data, .data] true :=
  Program.laidByTextLater.sub seatTie1 ["math._sin", "math._cos", "math.mPi4"] (by kernel_rfl) (by kernel_rfl)
theorem fnHybrid_row_tie : Rows.fnHybridRow.laidByTextAt .later Tryd.pinned [.data, .data, .data] true :=
  OpenClaim.laidByTextAt_later rfl rfl tie3 noOwnUnsafe
theorem fnAntialiasUpto_row_tie : Rows.fnAntialiasUptoRow.laidByTextAt .later Tryd.pinned [.data, .data] true :=
  OpenClaim.laidByTextAt_later rfl rfl tie noOwnUnsafe
theorem fnStereoUpto_row_tie : Rows.fnStereoUptoRow.laidByTextAt .later Tryd.pinned [.data] true :=
  OpenClaim.laidByTextAt_later rfl rfl tie2 noOwnUnsafe
theorem fnStereoTwiceUpto_row_tie : Rows.fnStereoTwiceUptoRow.laidByTextAt .later Tryd.pinned [.data] true :=
  OpenClaim.laidByTextAt_later rfl rfl tie2 noOwnUnsafe
theorem fnHybridUpto_row_tie : Rows.fnHybridUptoRow.laidByTextAt .later Tryd.pinned [.data, .data, .data] true :=
  OpenClaim.laidByTextAt_later rfl rfl tie3 noOwnUnsafe
end Go.Proofs.YtbcjhkncifckiaaDoor
