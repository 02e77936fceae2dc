/- Facts on the program's types and functions, each closed. -/
import Derived.Test.YtbcjhkncifckiaaDoorTy
import Derived.Test.YtbcjhkncifckiaaDoorHk
namespace Go.Proofs.YtbcjhkncifckiaaDoor
open Go Go.RowKit Go.Proofs En

theorem agg_132 : aggOf Tryd.prog 132 = some 36 := by kernel_rfl
theorem agg_96 : aggOf Tryd.prog 96 = some 576 := by kernel_rfl
theorem arr_108 : arrOf Tryd.prog 108 = some (2, 576) := by kernel_rfl
theorem arr_132 : arrOf Tryd.prog 132 = some (36, 1) := by kernel_rfl
theorem arr_137 : arrOf Tryd.prog 137 = some (12, 1) := by kernel_rfl
theorem arr_146 : arrOf Tryd.prog 146 = some (6, 1) := by kernel_rfl
theorem arr_149 : arrOf Tryd.prog 149 = some (4, 36) := by kernel_rfl
theorem arr_150 : arrOf Tryd.prog 150 = some (6, 12) := by kernel_rfl
theorem arr_151 : arrOf Tryd.prog 151 = some (18, 36) := by kernel_rfl
theorem arr_95 : arrOf Tryd.prog 95 = some (18, 1) := by kernel_rfl
theorem arr_96 : arrOf Tryd.prog 96 = some (32, 18) := by kernel_rfl
theorem call_20 : callable Tryd.prog 20 = true := by kernel_rfl
theorem call_21 : callable Tryd.prog 21 = true := by kernel_rfl
theorem call_32 : callable Tryd.prog 32 = true := by kernel_rfl
theorem call_33 : callable Tryd.prog 33 = true := by kernel_rfl
theorem call_34 : callable Tryd.prog 34 = true := by kernel_rfl
theorem call_40 : callable Tryd.prog 40 = true := by kernel_rfl
theorem call_41 : callable Tryd.prog 41 = true := by kernel_rfl
theorem call_42 : callable Tryd.prog 42 = true := by kernel_rfl
theorem call_43 : callable Tryd.prog 43 = true := by kernel_rfl
theorem call_49 : callable Tryd.prog 49 = true := by kernel_rfl
theorem call_51 : callable Tryd.prog 51 = true := by kernel_rfl
theorem call_52 : callable Tryd.prog 52 = true := by kernel_rfl
theorem call_58 : callable Tryd.prog 58 = true := by kernel_rfl
theorem call_59 : callable Tryd.prog 59 = true := by kernel_rfl
theorem call_60 : callable Tryd.prog 60 = true := by kernel_rfl
theorem call_61 : callable Tryd.prog 61 = true := by kernel_rfl
theorem call_62 : callable Tryd.prog 62 = true := by kernel_rfl
theorem call_64 : callable Tryd.prog 64 = true := by kernel_rfl
theorem call_67 : callable Tryd.prog 67 = true := by kernel_rfl
theorem ext_69_float64frombits : externIs Tryd.prog 69 Extern.MathFloatBits.float64frombits := ⟨Tryd.f69, by kernel_rfl, by kernel_rfl, by kernel_rfl, by kernel_rfl, by kernel_rfl⟩
theorem ext_70_float64bits : externIs Tryd.prog 70 Extern.MathFloatBits.float64bits := ⟨Tryd.f70, by kernel_rfl, by kernel_rfl, by kernel_rfl, by kernel_rfl, by kernel_rfl⟩
theorem fo_112_4 : fieldOff Tryd.prog 112 4 = some 4 := by kernel_rfl
theorem sz_132 : (Tryd.prog.info? 132).map (·.size) = some 36 := by kernel_rfl
theorem sz_96 : (Tryd.prog.info? 96).map (·.size) = some 576 := by kernel_rfl
theorem und_143 : Tryd.prog.underlying 143 = some (.int .u64) := by kernel_rfl
theorem undS_60 : (Tryd.prog.underlying 60).isSome = true := by kernel_rfl
noncomputable def Zv_132 : Array Value := match zeroOf Tryd.prog 132 with | some v => v.cells | none => #[]
theorem zero_132 : zeroOf Tryd.prog 132 = some (.agg Zv_132) := by kernel_rfl
theorem Zsz_132 : Zv_132.size = 36 := by kernel_rfl
theorem Zone_132 : Zv_132.toList.all Value.oneCell' = true := by kernel_rfl
attribute [irreducible] Zv_132
noncomputable def Zv_149 : Array Value := match zeroOf Tryd.prog 149 with | some v => v.cells | none => #[]
theorem zero_149 : zeroOf Tryd.prog 149 = some (.agg Zv_149) := by kernel_rfl
theorem Zsz_149 : Zv_149.size = 144 := by kernel_rfl
theorem Zone_149 : Zv_149.toList.all Value.oneCell' = true := by kernel_rfl
attribute [irreducible] Zv_149
noncomputable def Zv_150 : Array Value := match zeroOf Tryd.prog 150 with | some v => v.cells | none => #[]
theorem zero_150 : zeroOf Tryd.prog 150 = some (.agg Zv_150) := by kernel_rfl
theorem Zsz_150 : Zv_150.size = 72 := by kernel_rfl
theorem Zone_150 : Zv_150.toList.all Value.oneCell' = true := by kernel_rfl
attribute [irreducible] Zv_150
noncomputable def Zv_151 : Array Value := match zeroOf Tryd.prog 151 with | some v => v.cells | none => #[]
theorem zero_151 : zeroOf Tryd.prog 151 = some (.agg Zv_151) := by kernel_rfl
theorem Zsz_151 : Zv_151.size = 648 := by kernel_rfl
theorem Zone_151 : Zv_151.toList.all Value.oneCell' = true := by kernel_rfl
attribute [irreducible] Zv_151
noncomputable def Zv_96 : Array Value := match zeroOf Tryd.prog 96 with | some v => v.cells | none => #[]
theorem zero_96 : zeroOf Tryd.prog 96 = some (.agg Zv_96) := by kernel_rfl
theorem Zsz_96 : Zv_96.size = 576 := by kernel_rfl
theorem Zone_96 : Zv_96.toList.all Value.oneCell' = true := by kernel_rfl
attribute [irreducible] Zv_96
end Go.Proofs.YtbcjhkncifckiaaDoor
