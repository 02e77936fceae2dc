/- Facts on the program's types and functions, each closed. -/
import Derived.Test.YtbjdglpmfkmgaaaProg
import Derived.Test.YtbjdglpmfkmgaaaOps2
namespace Go.Proofs.Ytbjdglpmfkmgaaa
open Go Go.RowKit Go.Proofs En

theorem agg_107 : aggOf Try.prog 107 = some 12 := by kernel_rfl
theorem agg_27 : aggOf Try.prog 27 = some 7 := by kernel_rfl
theorem agg_29 : aggOf Try.prog 29 = some 8 := by kernel_rfl
theorem agg_31 : aggOf Try.prog 31 = some 4 := by kernel_rfl
theorem agg_34 : aggOf Try.prog 34 = some 12 := by kernel_rfl
theorem agg_36 : aggOf Try.prog 36 = some 86 := by kernel_rfl
theorem agg_39 : aggOf Try.prog 39 = some 88 := by kernel_rfl
theorem agg_42 : aggOf Try.prog 42 = some 156 := by kernel_rfl
theorem agg_47 : aggOf Try.prog 47 = some 248 := by kernel_rfl
theorem agg_49 : aggOf Try.prog 49 = some 341 := by kernel_rfl
theorem agg_75 : aggOf Try.prog 75 = some 576 := by kernel_rfl
theorem agg_82 : aggOf Try.prog 82 = some 2548 := by kernel_rfl
theorem arr_105 : arrOf Try.prog 105 = some (2, 1) := by kernel_rfl
theorem arr_106 : arrOf Try.prog 106 = some (3, 2) := by kernel_rfl
theorem arr_107 : arrOf Try.prog 107 = some (2, 6) := by kernel_rfl
theorem arr_28 : arrOf Try.prog 28 = some (4, 1) := by kernel_rfl
theorem arr_29 : arrOf Try.prog 29 = some (2, 4) := by kernel_rfl
theorem arr_30 : arrOf Try.prog 30 = some (2, 1) := by kernel_rfl
theorem arr_31 : arrOf Try.prog 31 = some (2, 2) := by kernel_rfl
theorem arr_32 : arrOf Try.prog 32 = some (3, 1) := by kernel_rfl
theorem arr_33 : arrOf Try.prog 33 = some (2, 3) := by kernel_rfl
theorem arr_34 : arrOf Try.prog 34 = some (2, 6) := by kernel_rfl
theorem arr_37 : arrOf Try.prog 37 = some (22, 1) := by kernel_rfl
theorem arr_38 : arrOf Try.prog 38 = some (2, 22) := by kernel_rfl
theorem arr_39 : arrOf Try.prog 39 = some (2, 44) := by kernel_rfl
theorem arr_40 : arrOf Try.prog 40 = some (13, 3) := by kernel_rfl
theorem arr_41 : arrOf Try.prog 41 = some (2, 39) := by kernel_rfl
theorem arr_42 : arrOf Try.prog 42 = some (2, 78) := by kernel_rfl
theorem arr_44 : arrOf Try.prog 44 = some (2, 1) := by kernel_rfl
theorem arr_45 : arrOf Try.prog 45 = some (2, 2) := by kernel_rfl
theorem arr_75 : arrOf Try.prog 75 = some (576, 1) := by kernel_rfl
theorem arr_79 : arrOf Try.prog 79 = some (2, 576) := by kernel_rfl
theorem arr_80 : arrOf Try.prog 80 = some (2, 1152) := by kernel_rfl
theorem bytes_60 : (Try.prog.info? 60).map (·.bytes) = some 8 := by kernel_rfl
theorem bytes_73 : (Try.prog.info? 73).map (·.bytes) = some 4 := by kernel_rfl
theorem call_10 : callable Try.prog 10 = true := by kernel_rfl
theorem call_11 : callable Try.prog 11 = true := by kernel_rfl
theorem call_12 : callable Try.prog 12 = true := by kernel_rfl
theorem call_13 : callable Try.prog 13 = true := by kernel_rfl
theorem call_14 : callable Try.prog 14 = true := by kernel_rfl
theorem call_15 : callable Try.prog 15 = true := by kernel_rfl
theorem call_16 : callable Try.prog 16 = true := by kernel_rfl
theorem call_17 : callable Try.prog 17 = true := by kernel_rfl
theorem call_18 : callable Try.prog 18 = true := by kernel_rfl
theorem call_19 : callable Try.prog 19 = true := by kernel_rfl
theorem call_20 : callable Try.prog 20 = true := by kernel_rfl
theorem call_21 : callable Try.prog 21 = true := by kernel_rfl
theorem call_22 : callable Try.prog 22 = true := by kernel_rfl
theorem call_23 : callable Try.prog 23 = true := by kernel_rfl
theorem call_24 : callable Try.prog 24 = true := by kernel_rfl
theorem call_25 : callable Try.prog 25 = true := by kernel_rfl
theorem call_26 : callable Try.prog 26 = true := by kernel_rfl
theorem call_27 : callable Try.prog 27 = true := by kernel_rfl
theorem call_28 : callable Try.prog 28 = true := by kernel_rfl
theorem call_29 : callable Try.prog 29 = true := by kernel_rfl
theorem call_30 : callable Try.prog 30 = true := by kernel_rfl
theorem call_31 : callable Try.prog 31 = true := by kernel_rfl
theorem call_4 : callable Try.prog 4 = true := by kernel_rfl
theorem call_5 : callable Try.prog 5 = true := by kernel_rfl
theorem call_6 : callable Try.prog 6 = true := by kernel_rfl
theorem call_7 : callable Try.prog 7 = true := by kernel_rfl
theorem call_8 : callable Try.prog 8 = true := by kernel_rfl
theorem call_9 : callable Try.prog 9 = true := by kernel_rfl
theorem fo_27_0 : fieldOff Try.prog 27 0 = some 0 := by kernel_rfl
theorem fo_27_1 : fieldOff Try.prog 27 1 = some 1 := by kernel_rfl
theorem fo_27_2 : fieldOff Try.prog 27 2 = some 2 := by kernel_rfl
theorem fo_27_3 : fieldOff Try.prog 27 3 = some 3 := by kernel_rfl
theorem fo_27_4 : fieldOff Try.prog 27 4 = some 4 := by kernel_rfl
theorem fo_27_5 : fieldOff Try.prog 27 5 = some 5 := by kernel_rfl
theorem fo_27_6 : fieldOff Try.prog 27 6 = some 6 := by kernel_rfl
theorem fo_36_0 : fieldOff Try.prog 36 0 = some 0 := by kernel_rfl
theorem fo_36_1 : fieldOff Try.prog 36 1 = some 1 := by kernel_rfl
theorem fo_36_10 : fieldOff Try.prog 36 10 = some 38 := by kernel_rfl
theorem fo_36_11 : fieldOff Try.prog 36 11 = some 50 := by kernel_rfl
theorem fo_36_12 : fieldOff Try.prog 36 12 = some 62 := by kernel_rfl
theorem fo_36_13 : fieldOff Try.prog 36 13 = some 66 := by kernel_rfl
theorem fo_36_14 : fieldOff Try.prog 36 14 = some 70 := by kernel_rfl
theorem fo_36_15 : fieldOff Try.prog 36 15 = some 74 := by kernel_rfl
theorem fo_36_16 : fieldOff Try.prog 36 16 = some 78 := by kernel_rfl
theorem fo_36_17 : fieldOff Try.prog 36 17 = some 82 := by kernel_rfl
theorem fo_36_2 : fieldOff Try.prog 36 2 = some 2 := by kernel_rfl
theorem fo_36_3 : fieldOff Try.prog 36 3 = some 10 := by kernel_rfl
theorem fo_36_4 : fieldOff Try.prog 36 4 = some 14 := by kernel_rfl
theorem fo_36_5 : fieldOff Try.prog 36 5 = some 18 := by kernel_rfl
theorem fo_36_6 : fieldOff Try.prog 36 6 = some 22 := by kernel_rfl
theorem fo_36_7 : fieldOff Try.prog 36 7 = some 26 := by kernel_rfl
theorem fo_36_8 : fieldOff Try.prog 36 8 = some 30 := by kernel_rfl
theorem fo_36_9 : fieldOff Try.prog 36 9 = some 34 := by kernel_rfl
theorem fo_47_0 : fieldOff Try.prog 47 0 = some 0 := by kernel_rfl
theorem fo_47_1 : fieldOff Try.prog 47 1 = some 88 := by kernel_rfl
theorem fo_47_2 : fieldOff Try.prog 47 2 = some 244 := by kernel_rfl
theorem fo_49_0 : fieldOff Try.prog 49 0 = some 0 := by kernel_rfl
theorem fo_49_1 : fieldOff Try.prog 49 1 = some 7 := by kernel_rfl
theorem fo_49_2 : fieldOff Try.prog 49 2 = some 93 := by kernel_rfl
theorem fo_82_2 : fieldOff Try.prog 82 2 = some 244 := by kernel_rfl
theorem fo_97_0 : fieldOff Try.prog 97 0 = some 0 := by kernel_rfl
theorem fo_97_1 : fieldOff Try.prog 97 1 = some 1 := by kernel_rfl
theorem fo_97_2 : fieldOff Try.prog 97 2 = some 2 := by kernel_rfl
theorem fo_99_17 : fieldOff Try.prog 99 17 = some 82 := by kernel_rfl
theorem fo_99_7 : fieldOff Try.prog 99 7 = some 26 := by kernel_rfl
theorem fo_99_8 : fieldOff Try.prog 99 8 = some 30 := by kernel_rfl
theorem fo_99_9 : fieldOff Try.prog 99 9 = some 34 := by kernel_rfl
theorem mixed_ : Try.prog.follows .mixedOrders = true := by kernel_rfl
theorem places_49 : placesOf Try.prog 49 = some [(0, 7), (7, 86), (93, 248)] := by kernel_rfl
theorem places_82 : placesOf Try.prog 82 = some [(0, 88), (88, 156), (244, 2304)] := by kernel_rfl
theorem places_97 : placesOf Try.prog 97 = some [(0, 1), (1, 1), (2, 1), (3, 1), (4, 1152), (1156, 2048)] := by kernel_rfl
theorem places_99 : placesOf Try.prog 99 = some [(0, 1), (1, 1), (2, 8), (10, 4), (14, 4), (18, 4), (22, 4), (26, 4), (30, 4), (34, 4), (38, 12), (50, 12), (62, 4), (66, 4), (70, 4), (74, 4), (78, 4), (82, 4)] := by kernel_rfl
theorem sc_22 : scalar Try.prog 22 = true := by kernel_rfl
theorem sc_24 : scalar Try.prog 24 = true := by kernel_rfl
theorem sc_3 : scalar Try.prog 3 = true := by kernel_rfl
theorem sc_43 : scalar Try.prog 43 = true := by kernel_rfl
theorem sc_60 : scalar Try.prog 60 = true := by kernel_rfl
theorem sc_63 : scalar Try.prog 63 = true := by kernel_rfl
theorem sc_73 : scalar Try.prog 73 = true := by kernel_rfl
theorem sc_77 : scalar Try.prog 77 = true := by kernel_rfl
theorem sc_88 : scalar Try.prog 88 = true := by kernel_rfl
theorem sc_89 : scalar Try.prog 89 = true := by kernel_rfl
theorem sl_23 : sliceOf Try.prog 23 = some (22, 1) := by kernel_rfl
theorem sl_24 : sliceOf Try.prog 24 = some (63, 1) := by kernel_rfl
theorem sl_43 : sliceOf Try.prog 43 = some (73, 1) := by kernel_rfl
theorem sl_54 : sliceOf Try.prog 54 = some (60, 1) := by kernel_rfl
theorem sl_69 : sliceOf Try.prog 69 = some (3, 1) := by kernel_rfl
theorem sz_107 : (Try.prog.info? 107).map (·.size) = some 12 := by kernel_rfl
theorem sz_27 : (Try.prog.info? 27).map (·.size) = some 7 := by kernel_rfl
theorem sz_3 : (Try.prog.info? 3).map (·.size) = some 1 := by kernel_rfl
theorem sz_43 : (Try.prog.info? 43).map (·.size) = some 1 := by kernel_rfl
theorem sz_49 : (Try.prog.info? 49).map (·.size) = some 341 := by kernel_rfl
theorem sz_60 : (Try.prog.info? 60).map (·.size) = some 1 := by kernel_rfl
theorem sz_73 : (Try.prog.info? 73).map (·.size) = some 1 := by kernel_rfl
theorem sz_75 : (Try.prog.info? 75).map (·.size) = some 576 := by kernel_rfl
theorem sz_82 : (Try.prog.info? 82).map (·.size) = some 2548 := by kernel_rfl
theorem und_109 : Try.prog.underlying 109 = some (.int .i64) := by kernel_rfl
theorem und_22 : Try.prog.underlying 22 = some (.int .u32) := by kernel_rfl
theorem und_3 : Try.prog.underlying 3 = some (.int .i64) := by kernel_rfl
theorem und_5 : Try.prog.underlying 5 = some (.int .u8) := by kernel_rfl
theorem und_60 : Try.prog.underlying 60 = some (.float .f64) := by kernel_rfl
theorem und_63 : Try.prog.underlying 63 = some (.int .i8) := by kernel_rfl
theorem und_73 : Try.prog.underlying 73 = some (.float .f32) := by kernel_rfl
theorem und_88 : Try.prog.underlying 88 = some (.int .u32) := by kernel_rfl
theorem undS_73 : (Try.prog.underlying 73).isSome = true := by kernel_rfl
noncomputable def Zv_107 : Array Value := match zeroOf Try.prog 107 with | some v => v.cells | none => #[]
theorem zero_107 : zeroOf Try.prog 107 = some (.agg Zv_107) := by kernel_rfl
theorem Zsz_107 : Zv_107.size = 12 := by kernel_rfl
theorem Zone_107 : Zv_107.toList.all Value.oneCell' = true := by kernel_rfl
attribute [irreducible] Zv_107
noncomputable def Zv_27 : Array Value := match zeroOf Try.prog 27 with | some v => v.cells | none => #[]
theorem zero_27 : zeroOf Try.prog 27 = some (.agg Zv_27) := by kernel_rfl
theorem Zsz_27 : Zv_27.size = 7 := by kernel_rfl
theorem Zone_27 : Zv_27.toList.all Value.oneCell' = true := by kernel_rfl
attribute [irreducible] Zv_27
theorem zero_3 : zeroOf Try.prog 3 = some (.int .i64 0) := by kernel_rfl
noncomputable def Zv_49 : Array Value := match zeroOf Try.prog 49 with | some v => v.cells | none => #[]
theorem zero_49 : zeroOf Try.prog 49 = some (.agg Zv_49) := by kernel_rfl
theorem Zsz_49 : Zv_49.size = 341 := by kernel_rfl
theorem Zone_49 : Zv_49.toList.all Value.oneCell' = true := by kernel_rfl
attribute [irreducible] Zv_49
theorem zero_60 : zeroOf Try.prog 60 = some (.float .f64 0) := by kernel_rfl
theorem zero_73 : zeroOf Try.prog 73 = some (.float .f32 0) := by kernel_rfl
noncomputable def Zv_75 : Array Value := match zeroOf Try.prog 75 with | some v => v.cells | none => #[]
theorem zero_75 : zeroOf Try.prog 75 = some (.agg Zv_75) := by kernel_rfl
theorem Zsz_75 : Zv_75.size = 576 := by kernel_rfl
theorem Zone_75 : Zv_75.toList.all Value.oneCell' = true := by kernel_rfl
attribute [irreducible] Zv_75
noncomputable def Zv_82 : Array Value := match zeroOf Try.prog 82 with | some v => v.cells | none => #[]
theorem zero_82 : zeroOf Try.prog 82 = some (.agg Zv_82) := by kernel_rfl
theorem Zsz_82 : Zv_82.size = 2548 := by kernel_rfl
theorem Zone_82 : Zv_82.toList.all Value.oneCell' = true := by kernel_rfl
attribute [irreducible] Zv_82
noncomputable def Zv_97 : Array Value := match zeroOf Try.prog 97 with | some v => v.cells | none => #[]
theorem zero_97 : zeroOf Try.prog 97 = some (.agg Zv_97) := by kernel_rfl
theorem Zsz_97 : Zv_97.size = 3204 := by kernel_rfl
theorem Zone_97 : Zv_97.toList.all Value.oneCell' = true := by kernel_rfl
attribute [irreducible] Zv_97
noncomputable def Zv_99 : Array Value := match zeroOf Try.prog 99 with | some v => v.cells | none => #[]
theorem zero_99 : zeroOf Try.prog 99 = some (.agg Zv_99) := by kernel_rfl
theorem Zsz_99 : Zv_99.size = 86 := by kernel_rfl
theorem Zone_99 : Zv_99.toList.all Value.oneCell' = true := by kernel_rfl
attribute [irreducible] Zv_99
end Go.Proofs.Ytbjdglpmfkmgaaa
