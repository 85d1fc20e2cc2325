/- Facts of the program by computation. No statement of the seat stands here. -/
import Derived.Test.YticigmdbfimfbaaDoorL3
import Derived.Test.YticigmdbfimfbaaDoorRows
import Derived.KernelRfl
namespace Go.Proofs.YticigmdbfimfbaaDoor
open Go Go.Mk
theorem mixed : Tryd.prog.follows .mixedOrders = true := Tryd.checked.mixed
theorem te_22 : tyElem Tryd.prog 22 = some 5 := by kernel_rfl
theorem ts_5 : tySz Tryd.prog 5 = some (false, 1) := by kernel_rfl
theorem un_5 : (Tryd.prog.underlying 5).isSome = true := by kernel_rfl
theorem ti_131 : tyInt Tryd.prog 131 = some .u16 := by kernel_rfl
theorem ti_64 : tyInt Tryd.prog 64 = some .u32 := by kernel_rfl
theorem ti_100 : tyInt Tryd.prog 100 = some .u64 := by kernel_rfl
theorem fo_118_0 : fldOff Tryd.prog 118 0 = some 0 := by kernel_rfl
theorem ts_22 : tySz Tryd.prog 22 = some (false, 1) := by kernel_rfl
theorem fo_118_1 : fldOff Tryd.prog 118 1 = some 1 := by kernel_rfl
theorem ts_4 : tySz Tryd.prog 4 = some (false, 1) := by kernel_rfl
theorem ts_137 : tySz Tryd.prog 137 = some (true, 0) := by kernel_rfl
theorem cb_110 : cb0 Tryd.prog 110 = true := by kernel_rfl
theorem un_64 : (Tryd.prog.underlying 64).isSome = true := by kernel_rfl
theorem ti_21 : tyInt Tryd.prog 21 = some .i32 := by kernel_rfl
theorem cb_111 : cb0 Tryd.prog 111 = true := by kernel_rfl
theorem un_131 : (Tryd.prog.underlying 131).isSome = true := by kernel_rfl
theorem ti_47 : tyInt Tryd.prog 47 = some .i16 := by kernel_rfl
theorem cb_141 : cb0 Tryd.prog 141 = true := by kernel_rfl
theorem cb_120 : cb0 Tryd.prog 120 = true := by kernel_rfl
theorem un_100 : (Tryd.prog.underlying 100).isSome = true := by kernel_rfl
theorem ti_2 : tyInt Tryd.prog 2 = some .i64 := by kernel_rfl
theorem ts_55 : tySz Tryd.prog 55 = some (false, 1) := by kernel_rfl
theorem cb_91 : cb0 Tryd.prog 91 = true := by kernel_rfl
theorem un_21 : (Tryd.prog.underlying 21).isSome = true := by kernel_rfl
theorem ti_3 : tyInt Tryd.prog 3 = some .i64 := by kernel_rfl
theorem cb_114 : cb0 Tryd.prog 114 = true := by kernel_rfl
theorem cb_121 : cb0 Tryd.prog 121 = true := by kernel_rfl
theorem cb_112 : cb0 Tryd.prog 112 = true := by kernel_rfl
theorem fo_83_0 : fldOff Tryd.prog 83 0 = some 0 := by kernel_rfl
theorem ts_81 : tySz Tryd.prog 81 = some (false, 1) := by kernel_rfl
theorem im_81 : isMapTy Tryd.prog 81 = true := by kernel_rfl
theorem mt_81 : mapTy Tryd.prog 81 = some (64, 22) := by kernel_rfl
theorem tz_83 : tyZero Tryd.prog 83 = some (.agg #[.map none]) := by kernel_rfl
theorem ts_83 : tySz Tryd.prog 83 = some (true, 1) := by kernel_rfl
theorem cb_113 : cb0 Tryd.prog 113 = true := by kernel_rfl
theorem tz_114 : tyZero Tryd.prog 114 = some (.agg #[.int .u8 0, .int .u8 0, .int .u8 0, .int .u8 0, .int .u8 0, .int .u8 0, .int .u8 0, .int .u8 0, .int .u8 0, .int .u8 0, .int .u8 0, .int .u8 0, .int .u8 0, .int .u8 0, .int .u8 0, .int .u8 0]) := by kernel_rfl
theorem ts_114 : tySz Tryd.prog 114 = some (true, 16) := by kernel_rfl
theorem at_114 : tyArr Tryd.prog 114 = some (16, 5) := by kernel_rfl
theorem cz_5 : (Tryd.prog.info? 5).map (·.size) = some 1 := by kernel_rfl
theorem fo_66_1 : fldOff Tryd.prog 66 1 = some 1 := by kernel_rfl
theorem te_24 : tyElem Tryd.prog 24 = some 66 := by kernel_rfl
theorem ts_66 : tySz Tryd.prog 66 = some (true, 2) := by kernel_rfl
theorem tz_66 : tyZero Tryd.prog 66 = some (.agg #[.int .u32 0, .slice none 0 0]) := by kernel_rfl
theorem cb_64 : cb0 Tryd.prog 64 = true := by kernel_rfl
theorem fo_26_1 : fldOff Tryd.prog 26 1 = some 1 := by kernel_rfl
theorem fo_26_3 : fldOff Tryd.prog 26 3 = some 3 := by kernel_rfl
theorem ts_23 : tySz Tryd.prog 23 = some (false, 1) := by kernel_rfl
theorem te_23 : tyElem Tryd.prog 23 = some 26 := by kernel_rfl
theorem fo_26_4 : fldOff Tryd.prog 26 4 = some 4 := by kernel_rfl
theorem ts_24 : tySz Tryd.prog 24 = some (false, 1) := by kernel_rfl
theorem cb_29 : cb0 Tryd.prog 29 = true := by kernel_rfl
theorem tz_26 : tyZero Tryd.prog 26 = some (.agg #[.int .i64 0, .slice none 0 0, .bool false, .slice none 0 0, .slice none 0 0]) := by kernel_rfl
theorem ts_26 : tySz Tryd.prog 26 = some (true, 5) := by kernel_rfl
theorem fok_26 : fldsOk Tryd.prog 26 = true := by kernel_rfl
theorem fo_52_1 : fldOff Tryd.prog 52 1 = some 1 := by kernel_rfl
theorem ts_3 : tySz Tryd.prog 3 = some (false, 1) := by kernel_rfl
theorem fo_52_2 : fldOff Tryd.prog 52 2 = some 2 := by kernel_rfl
theorem fo_26_2 : fldOff Tryd.prog 26 2 = some 2 := by kernel_rfl
theorem fo_52_3 : fldOff Tryd.prog 52 3 = some 3 := by kernel_rfl
theorem te_29 : tyElem Tryd.prog 29 = some 52 := by kernel_rfl
theorem ts_52 : tySz Tryd.prog 52 = some (true, 8) := by kernel_rfl
theorem tz_52 : tyZero Tryd.prog 52 = some (.agg #[.int .i64 0, .int .i64 0, .int .i64 0, .int .i64 0, .int .i64 0, .int .i64 0, .int .i64 0, .slice none 0 0]) := by kernel_rfl
theorem fo_52_4 : fldOff Tryd.prog 52 4 = some 4 := by kernel_rfl
theorem un_3 : (Tryd.prog.underlying 3).isSome = true := by kernel_rfl
theorem un_2 : (Tryd.prog.underlying 2).isSome = true := by kernel_rfl
theorem ti_5 : tyInt Tryd.prog 5 = some .u8 := by kernel_rfl
theorem rt_22 : rowTy Tryd.prog 22 = some (5, 1, 1) := by kernel_rfl
theorem tz_5 : tyZero Tryd.prog 5 = some (.int .u8 0) := by kernel_rfl
theorem cb_72 : cb0 Tryd.prog 72 = true := by kernel_rfl
theorem cb_63 : cb0 Tryd.prog 63 = true := by kernel_rfl
theorem cb_71 : cb0 Tryd.prog 71 = true := by kernel_rfl
theorem fo_66_0 : fldOff Tryd.prog 66 0 = some 0 := by kernel_rfl
theorem ts_64 : tySz Tryd.prog 64 = some (false, 1) := by kernel_rfl
theorem fok_66 : fldsOk Tryd.prog 66 = true := by kernel_rfl
theorem rt_24 : rowTy Tryd.prog 24 = some (66, 2, 32) := by kernel_rfl
theorem fo_26_0 : fldOff Tryd.prog 26 0 = some 0 := by kernel_rfl
theorem ts_2 : tySz Tryd.prog 2 = some (false, 1) := by kernel_rfl
theorem cb_43 : cb0 Tryd.prog 43 = true := by kernel_rfl
theorem cb_97 : cb0 Tryd.prog 97 = true := by kernel_rfl
theorem cb_35 : cb0 Tryd.prog 35 = true := by kernel_rfl
theorem cb_73 : cb0 Tryd.prog 73 = true := by kernel_rfl
theorem cb_74 : cb0 Tryd.prog 74 = true := by kernel_rfl
theorem fo_52_0 : fldOff Tryd.prog 52 0 = some 0 := by kernel_rfl
theorem cb_75 : cb0 Tryd.prog 75 = true := by kernel_rfl
theorem fo_52_6 : fldOff Tryd.prog 52 6 = some 6 := by kernel_rfl
theorem fo_52_7 : fldOff Tryd.prog 52 7 = some 7 := by kernel_rfl
theorem ts_29 : tySz Tryd.prog 29 = some (false, 1) := by kernel_rfl
theorem cb_98 : cb0 Tryd.prog 98 = true := by kernel_rfl
theorem cb_37 : cb0 Tryd.prog 37 = true := by kernel_rfl
theorem cb_36 : cb0 Tryd.prog 36 = true := by kernel_rfl
theorem cb_70 : cb0 Tryd.prog 70 = true := by kernel_rfl
theorem cb_41 : cb0 Tryd.prog 41 = true := by kernel_rfl
theorem fo_31_0 : fldOff Tryd.prog 31 0 = some 0 := by kernel_rfl
theorem fo_31_1 : fldOff Tryd.prog 31 1 = some 1 := by kernel_rfl
theorem ts_31 : tySz Tryd.prog 31 = some (true, 2) := by kernel_rfl
theorem cb_13 : cb0 Tryd.prog 13 = true := by kernel_rfl
theorem ti_130 : tyInt Tryd.prog 130 = some .i8 := by kernel_rfl
theorem un_130 : (Tryd.prog.underlying 130).isSome = true := by kernel_rfl
theorem un_47 : (Tryd.prog.underlying 47).isSome = true := by kernel_rfl
theorem fo_37_0 : fldOff Tryd.prog 37 0 = some 0 := by kernel_rfl
theorem fo_37_1 : fldOff Tryd.prog 37 1 = some 1 := by kernel_rfl
theorem fo_37_2 : fldOff Tryd.prog 37 2 = some 2 := by kernel_rfl
theorem fa_26_0 : fldAt Tryd.prog 26 0 = some (0, 1) := by kernel_rfl
theorem fa_26_1 : fldAt Tryd.prog 26 1 = some (1, 1) := by kernel_rfl
theorem fa_26_2 : fldAt Tryd.prog 26 2 = some (2, 1) := by kernel_rfl
theorem fo_37_3 : fldOff Tryd.prog 37 3 = some 3 := by kernel_rfl
theorem ts_34 : tySz Tryd.prog 34 = some (false, 1) := by kernel_rfl
theorem te_34 : tyElem Tryd.prog 34 = some 37 := by kernel_rfl
theorem ts_37 : tySz Tryd.prog 37 = some (true, 5) := by kernel_rfl
theorem tz_37 : tyZero Tryd.prog 37 = some (.agg #[.int .i64 0, .slice none 0 0, .bool false, .slice none 0 0, .slice none 0 0]) := by kernel_rfl
theorem cb_16 : cb0 Tryd.prog 16 = true := by kernel_rfl
theorem rt_23 : rowTy Tryd.prog 23 = some (26, 5, 88) := by kernel_rfl
theorem fo_37_4 : fldOff Tryd.prog 37 4 = some 4 := by kernel_rfl
theorem ts_35 : tySz Tryd.prog 35 = some (false, 1) := by kernel_rfl
theorem te_35 : tyElem Tryd.prog 35 = some 69 := by kernel_rfl
theorem ts_69 : tySz Tryd.prog 69 = some (true, 2) := by kernel_rfl
theorem tz_69 : tyZero Tryd.prog 69 = some (.agg #[.int .u32 0, .slice none 0 0]) := by kernel_rfl
theorem fo_69_0 : fldOff Tryd.prog 69 0 = some 0 := by kernel_rfl
theorem fo_69_1 : fldOff Tryd.prog 69 1 = some 1 := by kernel_rfl
theorem fa_66_0 : fldAt Tryd.prog 66 0 = some (0, 1) := by kernel_rfl
theorem fa_66_1 : fldAt Tryd.prog 66 1 = some (1, 1) := by kernel_rfl
theorem ib_4 : isBoolTy Tryd.prog 4 = true := by kernel_rfl
theorem cb_42 : cb0 Tryd.prog 42 = true := by kernel_rfl
theorem cb_40 : cb0 Tryd.prog 40 = true := by kernel_rfl
theorem fo_52_5 : fldOff Tryd.prog 52 5 = some 5 := by kernel_rfl
theorem cb_76 : cb0 Tryd.prog 76 = true := by kernel_rfl
theorem cb_14 : cb0 Tryd.prog 14 = true := by kernel_rfl
theorem cb_39 : cb0 Tryd.prog 39 = true := by kernel_rfl
theorem rt_29 : rowTy Tryd.prog 29 = some (52, 8, 80) := by kernel_rfl
theorem fa_26_3 : fldAt Tryd.prog 26 3 = some (3, 1) := by kernel_rfl
theorem fa_37_1 : fldAt Tryd.prog 37 1 = some (1, 1) := by kernel_rfl
theorem fa_37_2 : fldAt Tryd.prog 37 2 = some (2, 1) := by kernel_rfl
theorem fok_37 : fldsOk Tryd.prog 37 = true := by kernel_rfl
theorem tz_31 : tyZero Tryd.prog 31 = some (.agg #[.slice none 0 0, .int .i64 0]) := by kernel_rfl
theorem fa_52_0 : fldAt Tryd.prog 52 0 = some (0, 1) := by kernel_rfl
theorem fa_52_2 : fldAt Tryd.prog 52 2 = some (2, 1) := by kernel_rfl
theorem fa_52_3 : fldAt Tryd.prog 52 3 = some (3, 1) := by kernel_rfl
theorem fa_52_4 : fldAt Tryd.prog 52 4 = some (4, 1) := by kernel_rfl
theorem fok_52 : fldsOk Tryd.prog 52 = true := by kernel_rfl
theorem fa_31_1 : fldAt Tryd.prog 31 1 = some (1, 1) := by kernel_rfl
theorem fa_31_0 : fldAt Tryd.prog 31 0 = some (0, 1) := by kernel_rfl
theorem fok_31 : fldsOk Tryd.prog 31 = true := by kernel_rfl
theorem cb_65 : cb0 Tryd.prog 65 = true := by kernel_rfl
theorem cb_92 : cb0 Tryd.prog 92 = true := by kernel_rfl
theorem cb_93 : cb0 Tryd.prog 93 = true := by kernel_rfl
theorem cb_94 : cb0 Tryd.prog 94 = true := by kernel_rfl
theorem cb_99 : cb0 Tryd.prog 99 = true := by kernel_rfl
theorem cb_100 : cb0 Tryd.prog 100 = true := by kernel_rfl
theorem cb_101 : cb0 Tryd.prog 101 = true := by kernel_rfl
theorem cb_102 : cb0 Tryd.prog 102 = true := by kernel_rfl
theorem cb_103 : cb0 Tryd.prog 103 = true := by kernel_rfl
theorem cb_104 : cb0 Tryd.prog 104 = true := by kernel_rfl
theorem cb_105 : cb0 Tryd.prog 105 = true := by kernel_rfl
theorem cb_106 : cb0 Tryd.prog 106 = true := by kernel_rfl
theorem cb_108 : cb0 Tryd.prog 108 = true := by kernel_rfl
theorem cb_66 : cb0 Tryd.prog 66 = true := by kernel_rfl
theorem tz_92 : tyZero Tryd.prog 92 = some (.agg #[.int .i16 0, .int .i32 0, .int .i16 0, .map none]) := by kernel_rfl
theorem cb_77 : cb0 Tryd.prog 77 = true := by kernel_rfl
theorem cb_78 : cb0 Tryd.prog 78 = true := by kernel_rfl
theorem tz_106 : tyZero Tryd.prog 106 = some (.agg #[.int .i16 0, .int .i16 0, .int .i64 0, .int .i32 0, .map none]) := by kernel_rfl
theorem cb_80 : cb0 Tryd.prog 80 = true := by kernel_rfl
theorem cb_81 : cb0 Tryd.prog 81 = true := by kernel_rfl
theorem tz_108 : tyZero Tryd.prog 108 = some (.agg #[.int .i16 0, .slice none 0 0, .int .i64 0, .map none]) := by kernel_rfl
theorem cb_84 : cb0 Tryd.prog 84 = true := by kernel_rfl
theorem cb_85 : cb0 Tryd.prog 85 = true := by kernel_rfl
theorem tz_111 : tyZero Tryd.prog 111 = some (.agg #[.int .i16 0, .slice none 0 0, .slice none 0 0, .slice none 0 0, .map none]) := by kernel_rfl
theorem te_124 : tyElem Tryd.prog 124 = some 64 := by kernel_rfl
theorem ts_124 : tySz Tryd.prog 124 = some (false, 1) := by kernel_rfl
theorem tz_124 : tyZero Tryd.prog 124 = some (.slice none 0 0) := by kernel_rfl
theorem tz_64 : tyZero Tryd.prog 64 = some (.int .u32 0) := by kernel_rfl
theorem rt_124 : rowTy Tryd.prog 124 = some (64, 1, 4) := by kernel_rfl
theorem cb_96 : cb0 Tryd.prog 96 = true := by kernel_rfl
theorem cb_95 : cb0 Tryd.prog 95 = true := by kernel_rfl
theorem cb_67 : cb0 Tryd.prog 67 = true := by kernel_rfl
theorem fo_92_1 : fldOff Tryd.prog 92 1 = some 1 := by kernel_rfl
theorem ts_21 : tySz Tryd.prog 21 = some (false, 1) := by kernel_rfl
theorem fo_92_2 : fldOff Tryd.prog 92 2 = some 2 := by kernel_rfl
theorem ts_47 : tySz Tryd.prog 47 = some (false, 1) := by kernel_rfl
theorem cb_69 : cb0 Tryd.prog 69 = true := by kernel_rfl
theorem cb_68 : cb0 Tryd.prog 68 = true := by kernel_rfl
theorem fo_92_3 : fldOff Tryd.prog 92 3 = some 3 := by kernel_rfl
theorem fo_92_0 : fldOff Tryd.prog 92 0 = some 0 := by kernel_rfl
theorem cb_30 : cb0 Tryd.prog 30 = true := by kernel_rfl
theorem cb_31 : cb0 Tryd.prog 31 = true := by kernel_rfl
theorem cb_32 : cb0 Tryd.prog 32 = true := by kernel_rfl
theorem cb_33 : cb0 Tryd.prog 33 = true := by kernel_rfl
theorem cb_34 : cb0 Tryd.prog 34 = true := by kernel_rfl
theorem cb_8 : cb0 Tryd.prog 8 = true := by kernel_rfl
theorem cb_9 : cb0 Tryd.prog 9 = true := by kernel_rfl
theorem cb_10 : cb0 Tryd.prog 10 = true := by kernel_rfl
theorem cb_11 : cb0 Tryd.prog 11 = true := by kernel_rfl
theorem cb_12 : cb0 Tryd.prog 12 = true := by kernel_rfl
theorem cb_15 : cb0 Tryd.prog 15 = true := by kernel_rfl
theorem fo_106_1 : fldOff Tryd.prog 106 1 = some 1 := by kernel_rfl
theorem fo_106_2 : fldOff Tryd.prog 106 2 = some 2 := by kernel_rfl
theorem fo_106_3 : fldOff Tryd.prog 106 3 = some 3 := by kernel_rfl
theorem cb_79 : cb0 Tryd.prog 79 = true := by kernel_rfl
theorem fo_106_4 : fldOff Tryd.prog 106 4 = some 4 := by kernel_rfl
theorem fo_106_0 : fldOff Tryd.prog 106 0 = some 0 := by kernel_rfl
theorem cb_44 : cb0 Tryd.prog 44 = true := by kernel_rfl
theorem cb_45 : cb0 Tryd.prog 45 = true := by kernel_rfl
theorem cb_46 : cb0 Tryd.prog 46 = true := by kernel_rfl
theorem cb_47 : cb0 Tryd.prog 47 = true := by kernel_rfl
theorem cb_48 : cb0 Tryd.prog 48 = true := by kernel_rfl
theorem cb_17 : cb0 Tryd.prog 17 = true := by kernel_rfl
theorem cb_18 : cb0 Tryd.prog 18 = true := by kernel_rfl
theorem cb_19 : cb0 Tryd.prog 19 = true := by kernel_rfl
theorem fo_108_1 : fldOff Tryd.prog 108 1 = some 1 := by kernel_rfl
theorem cb_82 : cb0 Tryd.prog 82 = true := by kernel_rfl
theorem fo_108_2 : fldOff Tryd.prog 108 2 = some 2 := by kernel_rfl
theorem cb_83 : cb0 Tryd.prog 83 = true := by kernel_rfl
theorem fo_108_3 : fldOff Tryd.prog 108 3 = some 3 := by kernel_rfl
theorem fo_108_0 : fldOff Tryd.prog 108 0 = some 0 := by kernel_rfl
theorem cb_49 : cb0 Tryd.prog 49 = true := by kernel_rfl
theorem cb_50 : cb0 Tryd.prog 50 = true := by kernel_rfl
theorem cb_51 : cb0 Tryd.prog 51 = true := by kernel_rfl
theorem cb_52 : cb0 Tryd.prog 52 = true := by kernel_rfl
theorem cb_53 : cb0 Tryd.prog 53 = true := by kernel_rfl
theorem cb_20 : cb0 Tryd.prog 20 = true := by kernel_rfl
theorem cb_21 : cb0 Tryd.prog 21 = true := by kernel_rfl
theorem cb_22 : cb0 Tryd.prog 22 = true := by kernel_rfl
theorem fo_111_1 : fldOff Tryd.prog 111 1 = some 1 := by kernel_rfl
theorem fo_111_2 : fldOff Tryd.prog 111 2 = some 2 := by kernel_rfl
theorem fo_111_3 : fldOff Tryd.prog 111 3 = some 3 := by kernel_rfl
theorem cb_86 : cb0 Tryd.prog 86 = true := by kernel_rfl
theorem fo_111_4 : fldOff Tryd.prog 111 4 = some 4 := by kernel_rfl
theorem fo_111_0 : fldOff Tryd.prog 111 0 = some 0 := by kernel_rfl
theorem cb_54 : cb0 Tryd.prog 54 = true := by kernel_rfl
theorem cb_55 : cb0 Tryd.prog 55 = true := by kernel_rfl
theorem cb_56 : cb0 Tryd.prog 56 = true := by kernel_rfl
theorem cb_57 : cb0 Tryd.prog 57 = true := by kernel_rfl
theorem cb_58 : cb0 Tryd.prog 58 = true := by kernel_rfl
theorem cb_23 : cb0 Tryd.prog 23 = true := by kernel_rfl
theorem cb_24 : cb0 Tryd.prog 24 = true := by kernel_rfl
theorem cb_25 : cb0 Tryd.prog 25 = true := by kernel_rfl
end Go.Proofs.YticigmdbfimfbaaDoor
