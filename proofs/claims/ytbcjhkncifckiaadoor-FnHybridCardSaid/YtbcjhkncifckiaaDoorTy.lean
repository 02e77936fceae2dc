/- Facts on the program's types and functions, each closed. -/
import Derived.Test.YtbcjhkncifckiaaDoorProg
import Derived.Test.YtbcjhkncifckiaaDoorOp3
namespace Go.Proofs.YtbcjhkncifckiaaDoor
open Go Go.RowKit Go.Proofs En

theorem agg_27 : aggOf Tryd.prog 27 = some 7 := by kernel_rfl
theorem agg_29 : aggOf Tryd.prog 29 = some 8 := by kernel_rfl
theorem agg_31 : aggOf Tryd.prog 31 = some 4 := by kernel_rfl
theorem agg_34 : aggOf Tryd.prog 34 = some 12 := by kernel_rfl
theorem agg_36 : aggOf Tryd.prog 36 = some 86 := by kernel_rfl
theorem agg_39 : aggOf Tryd.prog 39 = some 88 := by kernel_rfl
theorem agg_42 : aggOf Tryd.prog 42 = some 156 := by kernel_rfl
theorem agg_47 : aggOf Tryd.prog 47 = some 248 := by kernel_rfl
theorem agg_49 : aggOf Tryd.prog 49 = some 341 := by kernel_rfl
theorem agg_84 : aggOf Tryd.prog 84 = some 576 := by kernel_rfl
theorem agg_88 : aggOf Tryd.prog 88 = some 1152 := by kernel_rfl
theorem agg_91 : aggOf Tryd.prog 91 = some 2548 := by kernel_rfl
theorem arr_117 : arrOf Tryd.prog 117 = some (8, 1) := by kernel_rfl
theorem arr_28 : arrOf Tryd.prog 28 = some (4, 1) := by kernel_rfl
theorem arr_29 : arrOf Tryd.prog 29 = some (2, 4) := by kernel_rfl
theorem arr_30 : arrOf Tryd.prog 30 = some (2, 1) := by kernel_rfl
theorem arr_31 : arrOf Tryd.prog 31 = some (2, 2) := by kernel_rfl
theorem arr_32 : arrOf Tryd.prog 32 = some (3, 1) := by kernel_rfl
theorem arr_33 : arrOf Tryd.prog 33 = some (2, 3) := by kernel_rfl
theorem arr_34 : arrOf Tryd.prog 34 = some (2, 6) := by kernel_rfl
theorem arr_37 : arrOf Tryd.prog 37 = some (22, 1) := by kernel_rfl
theorem arr_38 : arrOf Tryd.prog 38 = some (2, 22) := by kernel_rfl
theorem arr_39 : arrOf Tryd.prog 39 = some (2, 44) := by kernel_rfl
theorem arr_40 : arrOf Tryd.prog 40 = some (13, 3) := by kernel_rfl
theorem arr_41 : arrOf Tryd.prog 41 = some (2, 39) := by kernel_rfl
theorem arr_42 : arrOf Tryd.prog 42 = some (2, 78) := by kernel_rfl
theorem arr_44 : arrOf Tryd.prog 44 = some (2, 1) := by kernel_rfl
theorem arr_45 : arrOf Tryd.prog 45 = some (2, 2) := by kernel_rfl
theorem arr_84 : arrOf Tryd.prog 84 = some (576, 1) := by kernel_rfl
theorem arr_88 : arrOf Tryd.prog 88 = some (2, 576) := by kernel_rfl
theorem arr_89 : arrOf Tryd.prog 89 = some (2, 1152) := by kernel_rfl
theorem bytes_60 : (Tryd.prog.info? 60).map (·.bytes) = some 8 := by kernel_rfl
theorem bytes_82 : (Tryd.prog.info? 82).map (·.bytes) = some 4 := by kernel_rfl
theorem call_10 : callable Tryd.prog 10 = true := by kernel_rfl
theorem call_11 : callable Tryd.prog 11 = true := by kernel_rfl
theorem call_12 : callable Tryd.prog 12 = true := by kernel_rfl
theorem call_13 : callable Tryd.prog 13 = true := by kernel_rfl
theorem call_14 : callable Tryd.prog 14 = true := by kernel_rfl
theorem call_15 : callable Tryd.prog 15 = true := by kernel_rfl
theorem call_16 : callable Tryd.prog 16 = true := by kernel_rfl
theorem call_17 : callable Tryd.prog 17 = true := by kernel_rfl
theorem call_18 : callable Tryd.prog 18 = true := by kernel_rfl
theorem call_19 : callable Tryd.prog 19 = true := by kernel_rfl
theorem call_22 : callable Tryd.prog 22 = true := by kernel_rfl
theorem call_23 : callable Tryd.prog 23 = true := by kernel_rfl
theorem call_24 : callable Tryd.prog 24 = true := by kernel_rfl
theorem call_25 : callable Tryd.prog 25 = true := by kernel_rfl
theorem call_26 : callable Tryd.prog 26 = true := by kernel_rfl
theorem call_27 : callable Tryd.prog 27 = true := by kernel_rfl
theorem call_28 : callable Tryd.prog 28 = true := by kernel_rfl
theorem call_29 : callable Tryd.prog 29 = true := by kernel_rfl
theorem call_30 : callable Tryd.prog 30 = true := by kernel_rfl
theorem call_31 : callable Tryd.prog 31 = true := by kernel_rfl
theorem call_35 : callable Tryd.prog 35 = true := by kernel_rfl
theorem call_36 : callable Tryd.prog 36 = true := by kernel_rfl
theorem call_37 : callable Tryd.prog 37 = true := by kernel_rfl
theorem call_39 : callable Tryd.prog 39 = true := by kernel_rfl
theorem call_44 : callable Tryd.prog 44 = true := by kernel_rfl
theorem call_45 : callable Tryd.prog 45 = true := by kernel_rfl
theorem call_53 : callable Tryd.prog 53 = true := by kernel_rfl
theorem call_54 : callable Tryd.prog 54 = true := by kernel_rfl
theorem call_7 : callable Tryd.prog 7 = true := by kernel_rfl
theorem call_8 : callable Tryd.prog 8 = true := by kernel_rfl
theorem call_9 : callable Tryd.prog 9 = true := by kernel_rfl
theorem ext_38 : externIs Tryd.prog 38 Extern.MathSqrt.sqrt := ⟨Tryd.f38, by kernel_rfl, by kernel_rfl, by kernel_rfl, by kernel_rfl, by kernel_rfl⟩
theorem fo_112_0 : fieldOff Tryd.prog 112 0 = some 0 := by kernel_rfl
theorem fo_112_1 : fieldOff Tryd.prog 112 1 = some 1 := by kernel_rfl
theorem fo_112_2 : fieldOff Tryd.prog 112 2 = some 2 := by kernel_rfl
theorem fo_114_17 : fieldOff Tryd.prog 114 17 = some 82 := by kernel_rfl
theorem fo_114_7 : fieldOff Tryd.prog 114 7 = some 26 := by kernel_rfl
theorem fo_114_8 : fieldOff Tryd.prog 114 8 = some 30 := by kernel_rfl
theorem fo_114_9 : fieldOff Tryd.prog 114 9 = some 34 := by kernel_rfl
theorem fo_27_0 : fieldOff Tryd.prog 27 0 = some 0 := by kernel_rfl
theorem fo_27_1 : fieldOff Tryd.prog 27 1 = some 1 := by kernel_rfl
theorem fo_27_2 : fieldOff Tryd.prog 27 2 = some 2 := by kernel_rfl
theorem fo_27_3 : fieldOff Tryd.prog 27 3 = some 3 := by kernel_rfl
theorem fo_27_4 : fieldOff Tryd.prog 27 4 = some 4 := by kernel_rfl
theorem fo_27_5 : fieldOff Tryd.prog 27 5 = some 5 := by kernel_rfl
theorem fo_27_6 : fieldOff Tryd.prog 27 6 = some 6 := by kernel_rfl
theorem fo_36_0 : fieldOff Tryd.prog 36 0 = some 0 := by kernel_rfl
theorem fo_36_1 : fieldOff Tryd.prog 36 1 = some 1 := by kernel_rfl
theorem fo_36_10 : fieldOff Tryd.prog 36 10 = some 38 := by kernel_rfl
theorem fo_36_11 : fieldOff Tryd.prog 36 11 = some 50 := by kernel_rfl
theorem fo_36_12 : fieldOff Tryd.prog 36 12 = some 62 := by kernel_rfl
theorem fo_36_13 : fieldOff Tryd.prog 36 13 = some 66 := by kernel_rfl
theorem fo_36_14 : fieldOff Tryd.prog 36 14 = some 70 := by kernel_rfl
theorem fo_36_15 : fieldOff Tryd.prog 36 15 = some 74 := by kernel_rfl
theorem fo_36_16 : fieldOff Tryd.prog 36 16 = some 78 := by kernel_rfl
theorem fo_36_17 : fieldOff Tryd.prog 36 17 = some 82 := by kernel_rfl
theorem fo_36_2 : fieldOff Tryd.prog 36 2 = some 2 := by kernel_rfl
theorem fo_36_3 : fieldOff Tryd.prog 36 3 = some 10 := by kernel_rfl
theorem fo_36_4 : fieldOff Tryd.prog 36 4 = some 14 := by kernel_rfl
theorem fo_36_5 : fieldOff Tryd.prog 36 5 = some 18 := by kernel_rfl
theorem fo_36_6 : fieldOff Tryd.prog 36 6 = some 22 := by kernel_rfl
theorem fo_36_7 : fieldOff Tryd.prog 36 7 = some 26 := by kernel_rfl
theorem fo_36_8 : fieldOff Tryd.prog 36 8 = some 30 := by kernel_rfl
theorem fo_36_9 : fieldOff Tryd.prog 36 9 = some 34 := by kernel_rfl
theorem fo_47_0 : fieldOff Tryd.prog 47 0 = some 0 := by kernel_rfl
theorem fo_47_1 : fieldOff Tryd.prog 47 1 = some 88 := by kernel_rfl
theorem fo_47_2 : fieldOff Tryd.prog 47 2 = some 244 := by kernel_rfl
theorem fo_49_0 : fieldOff Tryd.prog 49 0 = some 0 := by kernel_rfl
theorem fo_49_1 : fieldOff Tryd.prog 49 1 = some 7 := by kernel_rfl
theorem fo_49_2 : fieldOff Tryd.prog 49 2 = some 93 := by kernel_rfl
theorem fo_91_2 : fieldOff Tryd.prog 91 2 = some 244 := by kernel_rfl
theorem mixed_ : Tryd.prog.follows .mixedOrders = true := by kernel_rfl
theorem places_112 : placesOf Tryd.prog 112 = some [(0, 1), (1, 1), (2, 1), (3, 1), (4, 1152), (1156, 2048)] := by kernel_rfl
theorem places_114 : placesOf Tryd.prog 114 = some [(0, 1), (1, 1), (2, 8), (10, 4), (14, 4), (18, 4), (22, 4), (26, 4), (30, 4), (34, 4), (38, 12), (50, 12), (62, 4), (66, 4), (70, 4), (74, 4), (78, 4), (82, 4)] := by kernel_rfl
theorem places_49 : placesOf Tryd.prog 49 = some [(0, 7), (7, 86), (93, 248)] := by kernel_rfl
theorem places_91 : placesOf Tryd.prog 91 = some [(0, 88), (88, 156), (244, 2304)] := by kernel_rfl
theorem sc_105 : scalar Tryd.prog 105 = true := by kernel_rfl
theorem sc_106 : scalar Tryd.prog 106 = true := by kernel_rfl
theorem sc_22 : scalar Tryd.prog 22 = true := by kernel_rfl
theorem sc_24 : scalar Tryd.prog 24 = true := by kernel_rfl
theorem sc_3 : scalar Tryd.prog 3 = true := by kernel_rfl
theorem sc_43 : scalar Tryd.prog 43 = true := by kernel_rfl
theorem sc_60 : scalar Tryd.prog 60 = true := by kernel_rfl
theorem sc_73 : scalar Tryd.prog 73 = true := by kernel_rfl
theorem sc_82 : scalar Tryd.prog 82 = true := by kernel_rfl
theorem sc_86 : scalar Tryd.prog 86 = true := by kernel_rfl
theorem sl_23 : sliceOf Tryd.prog 23 = some (22, 1) := by kernel_rfl
theorem sl_24 : sliceOf Tryd.prog 24 = some (73, 1) := by kernel_rfl
theorem sl_43 : sliceOf Tryd.prog 43 = some (82, 1) := by kernel_rfl
theorem sl_54 : sliceOf Tryd.prog 54 = some (60, 1) := by kernel_rfl
theorem sl_78 : sliceOf Tryd.prog 78 = some (3, 1) := by kernel_rfl
theorem sz_27 : (Tryd.prog.info? 27).map (·.size) = some 7 := by kernel_rfl
theorem sz_3 : (Tryd.prog.info? 3).map (·.size) = some 1 := by kernel_rfl
theorem sz_30 : (Tryd.prog.info? 30).map (·.size) = some 2 := by kernel_rfl
theorem sz_43 : (Tryd.prog.info? 43).map (·.size) = some 1 := by kernel_rfl
theorem sz_49 : (Tryd.prog.info? 49).map (·.size) = some 341 := by kernel_rfl
theorem sz_60 : (Tryd.prog.info? 60).map (·.size) = some 1 := by kernel_rfl
theorem sz_82 : (Tryd.prog.info? 82).map (·.size) = some 1 := by kernel_rfl
theorem sz_84 : (Tryd.prog.info? 84).map (·.size) = some 576 := by kernel_rfl
theorem sz_88 : (Tryd.prog.info? 88).map (·.size) = some 1152 := by kernel_rfl
theorem sz_91 : (Tryd.prog.info? 91).map (·.size) = some 2548 := by kernel_rfl
theorem und_105 : Tryd.prog.underlying 105 = some (.int .u32) := by kernel_rfl
theorem und_123 : Tryd.prog.underlying 123 = some (.int .i64) := by kernel_rfl
theorem und_22 : Tryd.prog.underlying 22 = some (.int .u32) := by kernel_rfl
theorem und_3 : Tryd.prog.underlying 3 = some (.int .i64) := by kernel_rfl
theorem und_5 : Tryd.prog.underlying 5 = some (.int .u8) := by kernel_rfl
theorem und_60 : Tryd.prog.underlying 60 = some (.float .f64) := by kernel_rfl
theorem und_73 : Tryd.prog.underlying 73 = some (.int .i8) := by kernel_rfl
theorem und_82 : Tryd.prog.underlying 82 = some (.float .f32) := by kernel_rfl
theorem undS_82 : (Tryd.prog.underlying 82).isSome = true := by kernel_rfl
noncomputable def Zv_112 : Array Value := match zeroOf Tryd.prog 112 with | some v => v.cells | none => #[]
theorem zero_112 : zeroOf Tryd.prog 112 = some (.agg Zv_112) := by kernel_rfl
theorem Zsz_112 : Zv_112.size = 3204 := by kernel_rfl
theorem Zone_112 : Zv_112.toList.all Value.oneCell' = true := by kernel_rfl
attribute [irreducible] Zv_112
noncomputable def Zv_114 : Array Value := match zeroOf Tryd.prog 114 with | some v => v.cells | none => #[]
theorem zero_114 : zeroOf Tryd.prog 114 = some (.agg Zv_114) := by kernel_rfl
theorem Zsz_114 : Zv_114.size = 86 := by kernel_rfl
theorem Zone_114 : Zv_114.toList.all Value.oneCell' = true := by kernel_rfl
attribute [irreducible] Zv_114
noncomputable def Zv_27 : Array Value := match zeroOf Tryd.prog 27 with | some v => v.cells | none => #[]
theorem zero_27 : zeroOf Tryd.prog 27 = some (.agg Zv_27) := by kernel_rfl
theorem Zsz_27 : Zv_27.size = 7 := by kernel_rfl
theorem Zone_27 : Zv_27.toList.all Value.oneCell' = true := by kernel_rfl
attribute [irreducible] Zv_27
theorem zero_3 : zeroOf Tryd.prog 3 = some (.int .i64 0) := by kernel_rfl
noncomputable def Zv_49 : Array Value := match zeroOf Tryd.prog 49 with | some v => v.cells | none => #[]
theorem zero_49 : zeroOf Tryd.prog 49 = some (.agg Zv_49) := by kernel_rfl
theorem Zsz_49 : Zv_49.size = 341 := by kernel_rfl
theorem Zone_49 : Zv_49.toList.all Value.oneCell' = true := by kernel_rfl
attribute [irreducible] Zv_49
theorem zero_60 : zeroOf Tryd.prog 60 = some (.float .f64 0) := by kernel_rfl
theorem zero_82 : zeroOf Tryd.prog 82 = some (.float .f32 0) := by kernel_rfl
noncomputable def Zv_84 : Array Value := match zeroOf Tryd.prog 84 with | some v => v.cells | none => #[]
theorem zero_84 : zeroOf Tryd.prog 84 = some (.agg Zv_84) := by kernel_rfl
theorem Zsz_84 : Zv_84.size = 576 := by kernel_rfl
theorem Zone_84 : Zv_84.toList.all Value.oneCell' = true := by kernel_rfl
attribute [irreducible] Zv_84
noncomputable def Zv_88 : Array Value := match zeroOf Tryd.prog 88 with | some v => v.cells | none => #[]
theorem zero_88 : zeroOf Tryd.prog 88 = some (.agg Zv_88) := by kernel_rfl
theorem Zsz_88 : Zv_88.size = 1152 := by kernel_rfl
theorem Zone_88 : Zv_88.toList.all Value.oneCell' = true := by kernel_rfl
attribute [irreducible] Zv_88
noncomputable def Zv_91 : Array Value := match zeroOf Tryd.prog 91 with | some v => v.cells | none => #[]
theorem zero_91 : zeroOf Tryd.prog 91 = some (.agg Zv_91) := by kernel_rfl
theorem Zsz_91 : Zv_91.size = 2548 := by kernel_rfl
theorem Zone_91 : Zv_91.toList.all Value.oneCell' = true := by kernel_rfl
attribute [irreducible] Zv_91
end Go.Proofs.YtbcjhkncifckiaaDoor
