/- Facts of the program by computation. No statement of the seat stands here. -/
import Derived.Test.YthholdjpcdpceabDoorL3
import Derived.Test.YthholdjpcdpceabDoorRows
import Derived.KernelRfl
namespace Go.Proofs.YthholdjpcdpceabDoor
open Go Go.Mk
theorem mixed : Tryd.prog.follows .mixedOrders = true := Tryd.checked.mixed
theorem te_22 : tyElem Tryd.prog 22 = some 5 := by kernel_rfl
theorem ts_5 : tySz Tryd.prog 5 = some (false, 1) := by kernel_rfl
theorem un_5 : (Tryd.prog.underlying 5).isSome = true := by kernel_rfl
theorem ti_91 : tyInt Tryd.prog 91 = some .u16 := by kernel_rfl
theorem ti_48 : tyInt Tryd.prog 48 = some .u32 := by kernel_rfl
theorem ti_174 : tyInt Tryd.prog 174 = some .u64 := by kernel_rfl
theorem fo_120_0 : fldOff Tryd.prog 120 0 = some 0 := by kernel_rfl
theorem ts_22 : tySz Tryd.prog 22 = some (false, 1) := by kernel_rfl
theorem fo_120_1 : fldOff Tryd.prog 120 1 = some 1 := by kernel_rfl
theorem ts_4 : tySz Tryd.prog 4 = some (false, 1) := by kernel_rfl
theorem ts_155 : tySz Tryd.prog 155 = some (true, 0) := by kernel_rfl
theorem cb_127 : cb0 Tryd.prog 127 = true := by kernel_rfl
theorem un_48 : (Tryd.prog.underlying 48).isSome = true := by kernel_rfl
theorem ti_21 : tyInt Tryd.prog 21 = some .i32 := by kernel_rfl
theorem cb_123 : cb0 Tryd.prog 123 = true := by kernel_rfl
theorem un_91 : (Tryd.prog.underlying 91).isSome = true := by kernel_rfl
theorem ti_38 : tyInt Tryd.prog 38 = some .i16 := by kernel_rfl
theorem cb_160 : cb0 Tryd.prog 160 = true := by kernel_rfl
theorem cb_136 : cb0 Tryd.prog 136 = true := by kernel_rfl
theorem un_174 : (Tryd.prog.underlying 174).isSome = true := by kernel_rfl
theorem ti_2 : tyInt Tryd.prog 2 = some .i64 := by kernel_rfl
theorem ts_44 : tySz Tryd.prog 44 = some (false, 1) := by kernel_rfl
theorem iy_22 : isBytesTy Tryd.prog 22 = true := by kernel_rfl
theorem is_9 : isStrTy Tryd.prog 9 = true := by kernel_rfl
theorem cb_93 : cb0 Tryd.prog 93 = true := by kernel_rfl
theorem un_21 : (Tryd.prog.underlying 21).isSome = true := by kernel_rfl
theorem ti_3 : tyInt Tryd.prog 3 = some .i64 := by kernel_rfl
theorem cb_83 : cb0 Tryd.prog 83 = true := by kernel_rfl
theorem un_38 : (Tryd.prog.underlying 38).isSome = true := by kernel_rfl
theorem cb_126 : cb0 Tryd.prog 126 = true := by kernel_rfl
theorem tz_9 : tyZero Tryd.prog 9 = some (.string .empty) := by kernel_rfl
theorem ts_9 : tySz Tryd.prog 9 = some (false, 1) := by kernel_rfl
theorem cb_125 : cb0 Tryd.prog 125 = true := by kernel_rfl
theorem cb_139 : cb0 Tryd.prog 139 = true := by kernel_rfl
theorem cb_124 : cb0 Tryd.prog 124 = true := by kernel_rfl
theorem ti_135 : tyInt Tryd.prog 135 = some .i8 := by kernel_rfl
theorem fo_68_0 : fldOff Tryd.prog 68 0 = some 0 := by kernel_rfl
theorem ts_66 : tySz Tryd.prog 66 = some (false, 1) := by kernel_rfl
theorem im_66 : isMapTy Tryd.prog 66 = true := by kernel_rfl
theorem mt_66 : mapTy Tryd.prog 66 = some (48, 22) := by kernel_rfl
theorem tz_68 : tyZero Tryd.prog 68 = some (.agg #[.map none]) := by kernel_rfl
theorem ts_68 : tySz Tryd.prog 68 = some (true, 1) := by kernel_rfl
theorem cb_128 : cb0 Tryd.prog 128 = true := by kernel_rfl
theorem tz_78 : tyZero Tryd.prog 78 = some (.agg #[.int .u8 0, .int .u8 0, .int .u8 0, .int .u8 0, .int .u8 0, .int .u8 0, .int .u8 0, .int .u8 0, .int .u8 0, .int .u8 0, .int .u8 0, .int .u8 0, .int .u8 0, .int .u8 0, .int .u8 0, .int .u8 0]) := by kernel_rfl
theorem ts_78 : tySz Tryd.prog 78 = some (true, 16) := by kernel_rfl
theorem at_78 : tyArr Tryd.prog 78 = some (16, 5) := by kernel_rfl
theorem cz_5 : (Tryd.prog.info? 5).map (·.size) = some 1 := by kernel_rfl
theorem tz_35 : tyZero Tryd.prog 35 = some (.agg #[.int .i64 0, .slice none 0 0, .bool false, .slice none 0 0, .slice none 0 0]) := by kernel_rfl
theorem fo_27_0 : fldOff Tryd.prog 27 0 = some 0 := by kernel_rfl
theorem ts_2 : tySz Tryd.prog 2 = some (false, 1) := by kernel_rfl
theorem fo_27_1 : fldOff Tryd.prog 27 1 = some 1 := by kernel_rfl
theorem fo_27_2 : fldOff Tryd.prog 27 2 = some 2 := by kernel_rfl
theorem fa_35_0 : fldAt Tryd.prog 35 0 = some (0, 1) := by kernel_rfl
theorem fa_35_1 : fldAt Tryd.prog 35 1 = some (1, 1) := by kernel_rfl
theorem fa_35_2 : fldAt Tryd.prog 35 2 = some (2, 1) := by kernel_rfl
theorem fok_35 : fldsOk Tryd.prog 35 = true := by kernel_rfl
theorem ts_35 : tySz Tryd.prog 35 = some (true, 5) := by kernel_rfl
theorem fo_27_3 : fldOff Tryd.prog 27 3 = some 3 := by kernel_rfl
theorem ts_24 : tySz Tryd.prog 24 = some (false, 1) := by kernel_rfl
theorem te_24 : tyElem Tryd.prog 24 = some 27 := by kernel_rfl
theorem ts_27 : tySz Tryd.prog 27 = some (true, 5) := by kernel_rfl
theorem tz_27 : tyZero Tryd.prog 27 = some (.agg #[.int .i64 0, .slice none 0 0, .bool false, .slice none 0 0, .slice none 0 0]) := by kernel_rfl
theorem fo_35_3 : fldOff Tryd.prog 35 3 = some 3 := by kernel_rfl
theorem ts_32 : tySz Tryd.prog 32 = some (false, 1) := by kernel_rfl
theorem cb_13 : cb0 Tryd.prog 13 = true := by kernel_rfl
theorem rt_32 : rowTy Tryd.prog 32 = some (35, 5, 88) := by kernel_rfl
theorem te_32 : tyElem Tryd.prog 32 = some 35 := by kernel_rfl
theorem fo_27_4 : fldOff Tryd.prog 27 4 = some 4 := by kernel_rfl
theorem ts_25 : tySz Tryd.prog 25 = some (false, 1) := by kernel_rfl
theorem te_25 : tyElem Tryd.prog 25 = some 51 := by kernel_rfl
theorem ts_51 : tySz Tryd.prog 51 = some (true, 2) := by kernel_rfl
theorem tz_51 : tyZero Tryd.prog 51 = some (.agg #[.int .u32 0, .slice none 0 0]) := by kernel_rfl
theorem fo_35_4 : fldOff Tryd.prog 35 4 = some 4 := by kernel_rfl
theorem ts_33 : tySz Tryd.prog 33 = some (false, 1) := by kernel_rfl
theorem fo_51_0 : fldOff Tryd.prog 51 0 = some 0 := by kernel_rfl
theorem ts_48 : tySz Tryd.prog 48 = some (false, 1) := by kernel_rfl
theorem fo_51_1 : fldOff Tryd.prog 51 1 = some 1 := by kernel_rfl
theorem fa_50_0 : fldAt Tryd.prog 50 0 = some (0, 1) := by kernel_rfl
theorem fa_50_1 : fldAt Tryd.prog 50 1 = some (1, 1) := by kernel_rfl
theorem tz_50 : tyZero Tryd.prog 50 = some (.agg #[.int .u32 0, .slice none 0 0]) := by kernel_rfl
theorem fok_50 : fldsOk Tryd.prog 50 = true := by kernel_rfl
theorem rt_33 : rowTy Tryd.prog 33 = some (50, 2, 32) := by kernel_rfl
theorem te_33 : tyElem Tryd.prog 33 = some 50 := by kernel_rfl
theorem fa_27_0 : fldAt Tryd.prog 27 0 = some (0, 1) := by kernel_rfl
theorem fok_27 : fldsOk Tryd.prog 27 = true := by kernel_rfl
theorem ip_84 : isPtrTy Tryd.prog 84 = true := by kernel_rfl
theorem fa_27_2 : fldAt Tryd.prog 27 2 = some (2, 1) := by kernel_rfl
theorem fa_27_1 : fldAt Tryd.prog 27 1 = some (1, 1) := by kernel_rfl
theorem fo_35_0 : fldOff Tryd.prog 35 0 = some 0 := by kernel_rfl
theorem fo_35_2 : fldOff Tryd.prog 35 2 = some 2 := by kernel_rfl
theorem ib_4 : isBoolTy Tryd.prog 4 = true := by kernel_rfl
theorem fo_35_1 : fldOff Tryd.prog 35 1 = some 1 := by kernel_rfl
theorem cb_32 : cb0 Tryd.prog 32 = true := by kernel_rfl
theorem cb_12 : cb0 Tryd.prog 12 = true := by kernel_rfl
theorem ts_50 : tySz Tryd.prog 50 = some (true, 2) := by kernel_rfl
theorem fo_50_0 : fldOff Tryd.prog 50 0 = some 0 := by kernel_rfl
theorem fo_50_1 : fldOff Tryd.prog 50 1 = some 1 := by kernel_rfl
theorem te_129 : tyElem Tryd.prog 129 = some 48 := by kernel_rfl
theorem ts_129 : tySz Tryd.prog 129 = some (false, 1) := by kernel_rfl
theorem tz_129 : tyZero Tryd.prog 129 = some (.slice none 0 0) := by kernel_rfl
theorem tz_48 : tyZero Tryd.prog 48 = some (.int .u32 0) := by kernel_rfl
theorem rt_129 : rowTy Tryd.prog 129 = some (48, 1, 4) := by kernel_rfl
theorem rt_22 : rowTy Tryd.prog 22 = some (5, 1, 1) := by kernel_rfl
theorem cb_100 : cb0 Tryd.prog 100 = true := by kernel_rfl
theorem cb_99 : cb0 Tryd.prog 99 = true := by kernel_rfl
theorem cb_61 : cb0 Tryd.prog 61 = true := by kernel_rfl
theorem cb_57 : cb0 Tryd.prog 57 = true := by kernel_rfl
theorem cb_84 : cb0 Tryd.prog 84 = true := by kernel_rfl
theorem cb_85 : cb0 Tryd.prog 85 = true := by kernel_rfl
theorem cb_86 : cb0 Tryd.prog 86 = true := by kernel_rfl
theorem cb_87 : cb0 Tryd.prog 87 = true := by kernel_rfl
theorem cb_88 : cb0 Tryd.prog 88 = true := by kernel_rfl
theorem cb_89 : cb0 Tryd.prog 89 = true := by kernel_rfl
theorem cb_90 : cb0 Tryd.prog 90 = true := by kernel_rfl
theorem cb_91 : cb0 Tryd.prog 91 = true := by kernel_rfl
theorem cb_92 : cb0 Tryd.prog 92 = true := by kernel_rfl
theorem cb_94 : cb0 Tryd.prog 94 = true := by kernel_rfl
theorem cb_95 : cb0 Tryd.prog 95 = true := by kernel_rfl
theorem cb_96 : cb0 Tryd.prog 96 = true := by kernel_rfl
theorem cb_101 : cb0 Tryd.prog 101 = true := by kernel_rfl
theorem cb_102 : cb0 Tryd.prog 102 = true := by kernel_rfl
theorem cb_103 : cb0 Tryd.prog 103 = true := by kernel_rfl
theorem cb_104 : cb0 Tryd.prog 104 = true := by kernel_rfl
theorem cb_106 : cb0 Tryd.prog 106 = true := by kernel_rfl
theorem cb_107 : cb0 Tryd.prog 107 = true := by kernel_rfl
theorem cb_109 : cb0 Tryd.prog 109 = true := by kernel_rfl
theorem cb_120 : cb0 Tryd.prog 120 = true := by kernel_rfl
theorem cb_58 : cb0 Tryd.prog 58 = true := by kernel_rfl
theorem tz_70 : tyZero Tryd.prog 70 = some (.agg #[.int .i16 0, .int .i16 0, .slice none 0 0, .slice none 0 0, .map none]) := by kernel_rfl
theorem fo_75_0 : fldOff Tryd.prog 75 0 = some 0 := by kernel_rfl
theorem fo_75_1 : fldOff Tryd.prog 75 1 = some 1 := by kernel_rfl
theorem ts_21 : tySz Tryd.prog 21 = some (false, 1) := by kernel_rfl
theorem fo_75_2 : fldOff Tryd.prog 75 2 = some 2 := by kernel_rfl
theorem ts_38 : tySz Tryd.prog 38 = some (false, 1) := by kernel_rfl
theorem cb_63 : cb0 Tryd.prog 63 = true := by kernel_rfl
theorem cb_97 : cb0 Tryd.prog 97 = true := by kernel_rfl
theorem fo_75_3 : fldOff Tryd.prog 75 3 = some 3 := by kernel_rfl
theorem fo_80_0 : fldOff Tryd.prog 80 0 = some 0 := by kernel_rfl
theorem ar_78 : tyArr Tryd.prog 78 = some (16, 5) := by kernel_rfl
theorem fo_80_1 : fldOff Tryd.prog 80 1 = some 16 := by kernel_rfl
theorem ts_64 : tySz Tryd.prog 64 = some (false, 1) := by kernel_rfl
theorem te_64 : tyElem Tryd.prog 64 = some 75 := by kernel_rfl
theorem tz_4 : tyZero Tryd.prog 4 = some (.bool false) := by kernel_rfl
theorem ts_75 : tySz Tryd.prog 75 = some (true, 4) := by kernel_rfl
theorem cb_59 : cb0 Tryd.prog 59 = true := by kernel_rfl
theorem cb_98 : cb0 Tryd.prog 98 = true := by kernel_rfl
theorem fo_80_2 : fldOff Tryd.prog 80 2 = some 17 := by kernel_rfl
theorem fo_70_1 : fldOff Tryd.prog 70 1 = some 1 := by kernel_rfl
theorem fo_70_2 : fldOff Tryd.prog 70 2 = some 2 := by kernel_rfl
theorem fo_70_3 : fldOff Tryd.prog 70 3 = some 3 := by kernel_rfl
theorem ts_65 : tySz Tryd.prog 65 = some (false, 1) := by kernel_rfl
theorem te_65 : tyElem Tryd.prog 65 = some 80 := by kernel_rfl
theorem ts_80 : tySz Tryd.prog 80 = some (true, 18) := by kernel_rfl
theorem cb_60 : cb0 Tryd.prog 60 = true := by kernel_rfl
theorem cb_62 : cb0 Tryd.prog 62 = true := by kernel_rfl
theorem fo_70_4 : fldOff Tryd.prog 70 4 = some 4 := by kernel_rfl
theorem fo_70_0 : fldOff Tryd.prog 70 0 = some 0 := by kernel_rfl
theorem cb_26 : cb0 Tryd.prog 26 = true := by kernel_rfl
theorem cb_27 : cb0 Tryd.prog 27 = true := by kernel_rfl
theorem un_3 : (Tryd.prog.underlying 3).isSome = true := by kernel_rfl
theorem cb_28 : cb0 Tryd.prog 28 = true := by kernel_rfl
theorem cb_29 : cb0 Tryd.prog 29 = true := by kernel_rfl
theorem cb_30 : cb0 Tryd.prog 30 = true := by kernel_rfl
theorem cb_31 : cb0 Tryd.prog 31 = true := by kernel_rfl
theorem cb_8 : cb0 Tryd.prog 8 = true := by kernel_rfl
theorem cb_10 : cb0 Tryd.prog 10 = true := by kernel_rfl
theorem cb_9 : cb0 Tryd.prog 9 = true := by kernel_rfl
theorem cb_11 : cb0 Tryd.prog 11 = true := by kernel_rfl
theorem fo_87_2 : fldOff Tryd.prog 87 2 = some 2 := by kernel_rfl
theorem fo_87_6 : fldOff Tryd.prog 87 6 = some 21 := by kernel_rfl
theorem cb_64 : cb0 Tryd.prog 64 = true := by kernel_rfl
theorem cb_105 : cb0 Tryd.prog 105 = true := by kernel_rfl
theorem cb_65 : cb0 Tryd.prog 65 = true := by kernel_rfl
theorem tz_87 : tyZero Tryd.prog 87 = some (.agg #[.int .i16 0, .pointer none, .int .i32 0, .int .i32 0, .int .u8 0, .int .u8 0, .int .u8 0, .int .u8 0, .int .u8 0, .int .u8 0, .int .u8 0, .int .u8 0, .int .u8 0, .int .u8 0, .int .u8 0, .int .u8 0, .int .u8 0, .int .u8 0, .int .u8 0, .int .u8 0, .slice none 0 0, .bool false, .map none]) := by kernel_rfl
theorem fo_93_0 : fldOff Tryd.prog 93 0 = some 0 := by kernel_rfl
theorem fo_93_1 : fldOff Tryd.prog 93 1 = some 1 := by kernel_rfl
theorem fo_93_2 : fldOff Tryd.prog 93 2 = some 2 := by kernel_rfl
theorem ts_91 : tySz Tryd.prog 91 = some (false, 1) := by kernel_rfl
theorem cb_108 : cb0 Tryd.prog 108 = true := by kernel_rfl
theorem fo_93_3 : fldOff Tryd.prog 93 3 = some 3 := by kernel_rfl
theorem fo_87_1 : fldOff Tryd.prog 87 1 = some 1 := by kernel_rfl
theorem ts_84 : tySz Tryd.prog 84 = some (false, 1) := by kernel_rfl
theorem cb_66 : cb0 Tryd.prog 66 = true := by kernel_rfl
theorem fo_87_3 : fldOff Tryd.prog 87 3 = some 3 := by kernel_rfl
theorem fo_87_4 : fldOff Tryd.prog 87 4 = some 4 := by kernel_rfl
theorem fo_87_5 : fldOff Tryd.prog 87 5 = some 20 := by kernel_rfl
theorem ts_85 : tySz Tryd.prog 85 = some (false, 1) := by kernel_rfl
theorem te_85 : tyElem Tryd.prog 85 = some 93 := by kernel_rfl
theorem ts_93 : tySz Tryd.prog 93 = some (true, 4) := by kernel_rfl
theorem cb_67 : cb0 Tryd.prog 67 = true := by kernel_rfl
theorem cb_68 : cb0 Tryd.prog 68 = true := by kernel_rfl
theorem cb_69 : cb0 Tryd.prog 69 = true := by kernel_rfl
theorem fo_87_7 : fldOff Tryd.prog 87 7 = some 22 := by kernel_rfl
theorem fo_87_0 : fldOff Tryd.prog 87 0 = some 0 := by kernel_rfl
theorem cb_33 : cb0 Tryd.prog 33 = true := by kernel_rfl
theorem cb_34 : cb0 Tryd.prog 34 = true := by kernel_rfl
theorem cb_35 : cb0 Tryd.prog 35 = true := by kernel_rfl
theorem cb_36 : cb0 Tryd.prog 36 = true := by kernel_rfl
theorem cb_37 : cb0 Tryd.prog 37 = true := by kernel_rfl
theorem cb_38 : cb0 Tryd.prog 38 = true := by kernel_rfl
theorem cb_14 : cb0 Tryd.prog 14 = true := by kernel_rfl
theorem cb_15 : cb0 Tryd.prog 15 = true := by kernel_rfl
theorem cb_16 : cb0 Tryd.prog 16 = true := by kernel_rfl
theorem cb_74 : cb0 Tryd.prog 74 = true := by kernel_rfl
theorem cb_113 : cb0 Tryd.prog 113 = true := by kernel_rfl
theorem cb_114 : cb0 Tryd.prog 114 = true := by kernel_rfl
theorem cb_75 : cb0 Tryd.prog 75 = true := by kernel_rfl
theorem tz_102 : tyZero Tryd.prog 102 = some (.agg #[.int .i16 0, .int .i32 0, .int .u8 0, .int .u8 0, .int .u8 0, .int .u8 0, .int .u8 0, .int .u8 0, .int .u8 0, .int .u8 0, .int .u8 0, .int .u8 0, .int .u8 0, .int .u8 0, .int .u8 0, .int .u8 0, .int .u8 0, .int .u8 0, .bool false, .slice none 0 0, .slice none 0 0, .map none]) := by kernel_rfl
theorem fo_106_0 : fldOff Tryd.prog 106 0 = some 0 := by kernel_rfl
theorem fo_106_1 : fldOff Tryd.prog 106 1 = some 1 := by kernel_rfl
theorem fo_106_2 : fldOff Tryd.prog 106 2 = some 2 := by kernel_rfl
theorem fo_106_3 : fldOff Tryd.prog 106 3 = some 3 := by kernel_rfl
theorem cb_115 : cb0 Tryd.prog 115 = true := by kernel_rfl
theorem fo_106_4 : fldOff Tryd.prog 106 4 = some 4 := by kernel_rfl
theorem fo_110_0 : fldOff Tryd.prog 110 0 = some 0 := by kernel_rfl
theorem fo_110_1 : fldOff Tryd.prog 110 1 = some 1 := by kernel_rfl
theorem fo_110_2 : fldOff Tryd.prog 110 2 = some 2 := by kernel_rfl
theorem cb_116 : cb0 Tryd.prog 116 = true := by kernel_rfl
theorem fo_110_3 : fldOff Tryd.prog 110 3 = some 3 := by kernel_rfl
theorem fo_102_1 : fldOff Tryd.prog 102 1 = some 1 := by kernel_rfl
theorem fo_102_2 : fldOff Tryd.prog 102 2 = some 2 := by kernel_rfl
theorem fo_102_3 : fldOff Tryd.prog 102 3 = some 18 := by kernel_rfl
theorem fo_102_4 : fldOff Tryd.prog 102 4 = some 19 := by kernel_rfl
theorem ts_99 : tySz Tryd.prog 99 = some (false, 1) := by kernel_rfl
theorem te_99 : tyElem Tryd.prog 99 = some 106 := by kernel_rfl
theorem ts_106 : tySz Tryd.prog 106 = some (true, 5) := by kernel_rfl
theorem cb_76 : cb0 Tryd.prog 76 = true := by kernel_rfl
theorem fo_102_5 : fldOff Tryd.prog 102 5 = some 20 := by kernel_rfl
theorem ts_100 : tySz Tryd.prog 100 = some (false, 1) := by kernel_rfl
theorem te_100 : tyElem Tryd.prog 100 = some 110 := by kernel_rfl
theorem ts_110 : tySz Tryd.prog 110 = some (true, 4) := by kernel_rfl
theorem cb_77 : cb0 Tryd.prog 77 = true := by kernel_rfl
theorem cb_78 : cb0 Tryd.prog 78 = true := by kernel_rfl
theorem fo_102_6 : fldOff Tryd.prog 102 6 = some 21 := by kernel_rfl
theorem fo_102_0 : fldOff Tryd.prog 102 0 = some 0 := by kernel_rfl
theorem cb_45 : cb0 Tryd.prog 45 = true := by kernel_rfl
theorem cb_46 : cb0 Tryd.prog 46 = true := by kernel_rfl
theorem cb_47 : cb0 Tryd.prog 47 = true := by kernel_rfl
theorem cb_48 : cb0 Tryd.prog 48 = true := by kernel_rfl
theorem cb_49 : cb0 Tryd.prog 49 = true := by kernel_rfl
theorem cb_50 : cb0 Tryd.prog 50 = true := by kernel_rfl
theorem cb_20 : cb0 Tryd.prog 20 = true := by kernel_rfl
theorem cb_21 : cb0 Tryd.prog 21 = true := by kernel_rfl
theorem cb_22 : cb0 Tryd.prog 22 = true := by kernel_rfl
theorem cb_79 : cb0 Tryd.prog 79 = true := by kernel_rfl
theorem cb_117 : cb0 Tryd.prog 117 = true := by kernel_rfl
theorem cb_118 : cb0 Tryd.prog 118 = true := by kernel_rfl
theorem cb_119 : cb0 Tryd.prog 119 = true := by kernel_rfl
theorem cb_80 : cb0 Tryd.prog 80 = true := by kernel_rfl
theorem tz_113 : tyZero Tryd.prog 113 = some (.agg #[.int .i16 0, .pointer none, .pointer none, .int .i32 0, .bool false, .slice none 0 0, .map none]) := by kernel_rfl
theorem fo_151_0 : fldOff Tryd.prog 151 0 = some 0 := by kernel_rfl
theorem fo_151_1 : fldOff Tryd.prog 151 1 = some 1 := by kernel_rfl
theorem fo_151_2 : fldOff Tryd.prog 151 2 = some 2 := by kernel_rfl
theorem ts_149 : tySz Tryd.prog 149 = some (false, 1) := by kernel_rfl
theorem te_149 : tyElem Tryd.prog 149 = some 135 := by kernel_rfl
theorem ts_135 : tySz Tryd.prog 135 = some (false, 1) := by kernel_rfl
theorem un_135 : (Tryd.prog.underlying 135).isSome = true := by kernel_rfl
theorem cb_161 : cb0 Tryd.prog 161 = true := by kernel_rfl
theorem fo_151_3 : fldOff Tryd.prog 151 3 = some 3 := by kernel_rfl
theorem fo_147_0 : fldOff Tryd.prog 147 0 = some 0 := by kernel_rfl
theorem fo_147_1 : fldOff Tryd.prog 147 1 = some 1 := by kernel_rfl
theorem ts_145 : tySz Tryd.prog 145 = some (false, 1) := by kernel_rfl
theorem te_145 : tyElem Tryd.prog 145 = some 151 := by kernel_rfl
theorem ts_151 : tySz Tryd.prog 151 = some (true, 4) := by kernel_rfl
theorem cb_137 : cb0 Tryd.prog 137 = true := by kernel_rfl
theorem cb_138 : cb0 Tryd.prog 138 = true := by kernel_rfl
theorem fo_147_2 : fldOff Tryd.prog 147 2 = some 2 := by kernel_rfl
theorem fo_118_0 : fldOff Tryd.prog 118 0 = some 0 := by kernel_rfl
theorem fo_118_1 : fldOff Tryd.prog 118 1 = some 16 := by kernel_rfl
theorem ts_116 : tySz Tryd.prog 116 = some (false, 1) := by kernel_rfl
theorem te_116 : tyElem Tryd.prog 116 = some 147 := by kernel_rfl
theorem ts_147 : tySz Tryd.prog 147 = some (true, 3) := by kernel_rfl
theorem cb_121 : cb0 Tryd.prog 121 = true := by kernel_rfl
theorem cb_122 : cb0 Tryd.prog 122 = true := by kernel_rfl
theorem fo_118_2 : fldOff Tryd.prog 118 2 = some 17 := by kernel_rfl
theorem fo_113_1 : fldOff Tryd.prog 113 1 = some 1 := by kernel_rfl
theorem fo_113_2 : fldOff Tryd.prog 113 2 = some 2 := by kernel_rfl
theorem fo_113_3 : fldOff Tryd.prog 113 3 = some 3 := by kernel_rfl
theorem fo_113_4 : fldOff Tryd.prog 113 4 = some 4 := by kernel_rfl
theorem fo_113_5 : fldOff Tryd.prog 113 5 = some 5 := by kernel_rfl
theorem ts_111 : tySz Tryd.prog 111 = some (false, 1) := by kernel_rfl
theorem te_111 : tyElem Tryd.prog 111 = some 118 := by kernel_rfl
theorem ts_118 : tySz Tryd.prog 118 = some (true, 18) := by kernel_rfl
theorem cb_81 : cb0 Tryd.prog 81 = true := by kernel_rfl
theorem cb_82 : cb0 Tryd.prog 82 = true := by kernel_rfl
theorem fo_113_6 : fldOff Tryd.prog 113 6 = some 6 := by kernel_rfl
theorem fo_113_0 : fldOff Tryd.prog 113 0 = some 0 := by kernel_rfl
theorem cb_51 : cb0 Tryd.prog 51 = true := by kernel_rfl
theorem cb_52 : cb0 Tryd.prog 52 = true := by kernel_rfl
theorem cb_53 : cb0 Tryd.prog 53 = true := by kernel_rfl
theorem cb_54 : cb0 Tryd.prog 54 = true := by kernel_rfl
theorem cb_55 : cb0 Tryd.prog 55 = true := by kernel_rfl
theorem cb_56 : cb0 Tryd.prog 56 = true := by kernel_rfl
theorem cb_23 : cb0 Tryd.prog 23 = true := by kernel_rfl
theorem cb_24 : cb0 Tryd.prog 24 = true := by kernel_rfl
theorem cb_25 : cb0 Tryd.prog 25 = true := by kernel_rfl
theorem fo_97_7 : fldOff Tryd.prog 97 7 = some 7 := by kernel_rfl
theorem cb_70 : cb0 Tryd.prog 70 = true := by kernel_rfl
theorem cb_110 : cb0 Tryd.prog 110 = true := by kernel_rfl
theorem cb_111 : cb0 Tryd.prog 111 = true := by kernel_rfl
theorem cb_71 : cb0 Tryd.prog 71 = true := by kernel_rfl
theorem tz_97 : tyZero Tryd.prog 97 = some (.agg #[.int .i16 0, .int .i32 0, .int .i16 0, .pointer none, .pointer none, .int .i32 0, .int .i32 0, .pointer none, .map none]) := by kernel_rfl
theorem fo_143_0 : fldOff Tryd.prog 143 0 = some 0 := by kernel_rfl
theorem fo_143_1 : fldOff Tryd.prog 143 1 = some 16 := by kernel_rfl
theorem ts_141 : tySz Tryd.prog 141 = some (false, 1) := by kernel_rfl
theorem te_141 : tyElem Tryd.prog 141 = some 21 := by kernel_rfl
theorem cb_159 : cb0 Tryd.prog 159 = true := by kernel_rfl
theorem fo_143_2 : fldOff Tryd.prog 143 2 = some 17 := by kernel_rfl
theorem fo_139_0 : fldOff Tryd.prog 139 0 = some 0 := by kernel_rfl
theorem ts_137 : tySz Tryd.prog 137 = some (false, 1) := by kernel_rfl
theorem te_137 : tyElem Tryd.prog 137 = some 143 := by kernel_rfl
theorem ts_143 : tySz Tryd.prog 143 = some (true, 18) := by kernel_rfl
theorem cb_134 : cb0 Tryd.prog 134 = true := by kernel_rfl
theorem cb_135 : cb0 Tryd.prog 135 = true := by kernel_rfl
theorem fo_139_1 : fldOff Tryd.prog 139 1 = some 1 := by kernel_rfl
theorem fo_97_1 : fldOff Tryd.prog 97 1 = some 1 := by kernel_rfl
theorem fo_97_2 : fldOff Tryd.prog 97 2 = some 2 := by kernel_rfl
theorem fo_97_3 : fldOff Tryd.prog 97 3 = some 3 := by kernel_rfl
theorem fo_97_4 : fldOff Tryd.prog 97 4 = some 4 := by kernel_rfl
theorem fo_97_5 : fldOff Tryd.prog 97 5 = some 5 := by kernel_rfl
theorem fo_97_6 : fldOff Tryd.prog 97 6 = some 6 := by kernel_rfl
theorem ts_95 : tySz Tryd.prog 95 = some (false, 1) := by kernel_rfl
theorem cb_72 : cb0 Tryd.prog 72 = true := by kernel_rfl
theorem cb_73 : cb0 Tryd.prog 73 = true := by kernel_rfl
theorem fo_97_8 : fldOff Tryd.prog 97 8 = some 8 := by kernel_rfl
theorem fo_97_0 : fldOff Tryd.prog 97 0 = some 0 := by kernel_rfl
theorem cb_39 : cb0 Tryd.prog 39 = true := by kernel_rfl
theorem cb_40 : cb0 Tryd.prog 40 = true := by kernel_rfl
theorem cb_41 : cb0 Tryd.prog 41 = true := by kernel_rfl
theorem cb_42 : cb0 Tryd.prog 42 = true := by kernel_rfl
theorem cb_43 : cb0 Tryd.prog 43 = true := by kernel_rfl
theorem cb_44 : cb0 Tryd.prog 44 = true := by kernel_rfl
theorem cb_17 : cb0 Tryd.prog 17 = true := by kernel_rfl
theorem cb_18 : cb0 Tryd.prog 18 = true := by kernel_rfl
theorem cb_19 : cb0 Tryd.prog 19 = true := by kernel_rfl
theorem ip_95 : isPtrTy Tryd.prog 95 = true := by kernel_rfl
theorem cb_112 : cb0 Tryd.prog 112 = true := by kernel_rfl
end Go.Proofs.YthholdjpcdpceabDoor
