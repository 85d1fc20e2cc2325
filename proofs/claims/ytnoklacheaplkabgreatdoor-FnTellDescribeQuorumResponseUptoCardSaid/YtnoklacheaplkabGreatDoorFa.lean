/- Facts of the program by computation. No statement of the seat stands here. -/
import Derived.Test.YtnoklacheaplkabGreatDoorL3
import Derived.Test.YtnoklacheaplkabGreatDoorRows
import Derived.KernelRfl
namespace Go.Proofs.YtnoklacheaplkabGreatDoor
open Go Go.Mk
theorem mixed : Tryz.prog.follows .mixedOrders = true := Tryz.checked.mixed
theorem te_22 : tyElem Tryz.prog 22 = some 5 := by kernel_rfl
theorem ts_5 : tySz Tryz.prog 5 = some (false, 1) := by kernel_rfl
theorem un_5 : (Tryz.prog.underlying 5).isSome = true := by kernel_rfl
theorem ti_151 : tyInt Tryz.prog 151 = some .u16 := by kernel_rfl
theorem ti_64 : tyInt Tryz.prog 64 = some .u32 := by kernel_rfl
theorem ti_100 : tyInt Tryz.prog 100 = some .u64 := by kernel_rfl
theorem fo_121_0 : fldOff Tryz.prog 121 0 = some 0 := by kernel_rfl
theorem ts_22 : tySz Tryz.prog 22 = some (false, 1) := by kernel_rfl
theorem fo_121_1 : fldOff Tryz.prog 121 1 = some 1 := by kernel_rfl
theorem ts_4 : tySz Tryz.prog 4 = some (false, 1) := by kernel_rfl
theorem ts_166 : tySz Tryz.prog 166 = some (true, 0) := by kernel_rfl
theorem cb_110 : cb0 Tryz.prog 110 = true := by kernel_rfl
theorem un_64 : (Tryz.prog.underlying 64).isSome = true := by kernel_rfl
theorem ti_21 : tyInt Tryz.prog 21 = some .i32 := by kernel_rfl
theorem cb_111 : cb0 Tryz.prog 111 = true := by kernel_rfl
theorem un_151 : (Tryz.prog.underlying 151).isSome = true := by kernel_rfl
theorem ti_46 : tyInt Tryz.prog 46 = some .i16 := by kernel_rfl
theorem cb_130 : cb0 Tryz.prog 130 = true := by kernel_rfl
theorem cb_116 : cb0 Tryz.prog 116 = true := by kernel_rfl
theorem un_100 : (Tryz.prog.underlying 100).isSome = true := by kernel_rfl
theorem ti_2 : tyInt Tryz.prog 2 = some .i64 := by kernel_rfl
theorem ts_55 : tySz Tryz.prog 55 = some (false, 1) := by kernel_rfl
theorem iy_22 : isBytesTy Tryz.prog 22 = true := by kernel_rfl
theorem is_9 : isStrTy Tryz.prog 9 = true := by kernel_rfl
theorem cb_68 : cb0 Tryz.prog 68 = true := by kernel_rfl
theorem un_21 : (Tryz.prog.underlying 21).isSome = true := by kernel_rfl
theorem ti_3 : tyInt Tryz.prog 3 = some .i64 := by kernel_rfl
theorem cb_69 : cb0 Tryz.prog 69 = true := by kernel_rfl
theorem un_46 : (Tryz.prog.underlying 46).isSome = true := by kernel_rfl
theorem cb_114 : cb0 Tryz.prog 114 = true := by kernel_rfl
theorem tz_9 : tyZero Tryz.prog 9 = some (.string .empty) := by kernel_rfl
theorem ts_9 : tySz Tryz.prog 9 = some (false, 1) := by kernel_rfl
theorem cb_129 : cb0 Tryz.prog 129 = true := by kernel_rfl
theorem cb_112 : cb0 Tryz.prog 112 = true := by kernel_rfl
theorem fo_79_0 : fldOff Tryz.prog 79 0 = some 0 := by kernel_rfl
theorem ts_77 : tySz Tryz.prog 77 = some (false, 1) := by kernel_rfl
theorem im_77 : isMapTy Tryz.prog 77 = true := by kernel_rfl
theorem mt_77 : mapTy Tryz.prog 77 = some (64, 22) := by kernel_rfl
theorem tz_79 : tyZero Tryz.prog 79 = some (.agg #[.map none]) := by kernel_rfl
theorem ts_79 : tySz Tryz.prog 79 = some (true, 1) := by kernel_rfl
theorem cb_115 : cb0 Tryz.prog 115 = true := by kernel_rfl
theorem tz_86 : tyZero Tryz.prog 86 = some (.agg #[.int .u8 0, .int .u8 0, .int .u8 0, .int .u8 0, .int .u8 0, .int .u8 0, .int .u8 0, .int .u8 0, .int .u8 0, .int .u8 0, .int .u8 0, .int .u8 0, .int .u8 0, .int .u8 0, .int .u8 0, .int .u8 0]) := by kernel_rfl
theorem ts_86 : tySz Tryz.prog 86 = some (true, 16) := by kernel_rfl
theorem at_86 : tyArr Tryz.prog 86 = some (16, 5) := by kernel_rfl
theorem cz_5 : (Tryz.prog.info? 5).map (·.size) = some 1 := by kernel_rfl
theorem fo_66_1 : fldOff Tryz.prog 66 1 = some 1 := by kernel_rfl
theorem te_24 : tyElem Tryz.prog 24 = some 66 := by kernel_rfl
theorem ts_66 : tySz Tryz.prog 66 = some (true, 2) := by kernel_rfl
theorem tz_66 : tyZero Tryz.prog 66 = some (.agg #[.int .u32 0, .slice none 0 0]) := by kernel_rfl
theorem cb_41 : cb0 Tryz.prog 41 = true := by kernel_rfl
theorem fo_26_1 : fldOff Tryz.prog 26 1 = some 1 := by kernel_rfl
theorem fo_26_3 : fldOff Tryz.prog 26 3 = some 3 := by kernel_rfl
theorem ts_23 : tySz Tryz.prog 23 = some (false, 1) := by kernel_rfl
theorem te_23 : tyElem Tryz.prog 23 = some 26 := by kernel_rfl
theorem fo_26_4 : fldOff Tryz.prog 26 4 = some 4 := by kernel_rfl
theorem ts_24 : tySz Tryz.prog 24 = some (false, 1) := by kernel_rfl
theorem cb_17 : cb0 Tryz.prog 17 = true := by kernel_rfl
theorem tz_26 : tyZero Tryz.prog 26 = some (.agg #[.int .i64 0, .slice none 0 0, .bool false, .slice none 0 0, .slice none 0 0]) := by kernel_rfl
theorem ts_26 : tySz Tryz.prog 26 = some (true, 5) := by kernel_rfl
theorem fok_26 : fldsOk Tryz.prog 26 = true := by kernel_rfl
theorem fo_51_1 : fldOff Tryz.prog 51 1 = some 1 := by kernel_rfl
theorem ts_3 : tySz Tryz.prog 3 = some (false, 1) := by kernel_rfl
theorem fo_51_2 : fldOff Tryz.prog 51 2 = some 2 := by kernel_rfl
theorem fo_26_2 : fldOff Tryz.prog 26 2 = some 2 := by kernel_rfl
theorem fo_51_3 : fldOff Tryz.prog 51 3 = some 3 := by kernel_rfl
theorem te_29 : tyElem Tryz.prog 29 = some 51 := by kernel_rfl
theorem ts_51 : tySz Tryz.prog 51 = some (true, 8) := by kernel_rfl
theorem tz_51 : tyZero Tryz.prog 51 = some (.agg #[.int .i64 0, .int .i64 0, .int .i64 0, .int .i64 0, .int .i64 0, .int .i64 0, .int .i64 0, .slice none 0 0]) := by kernel_rfl
theorem fo_51_4 : fldOff Tryz.prog 51 4 = some 4 := by kernel_rfl
theorem un_3 : (Tryz.prog.underlying 3).isSome = true := by kernel_rfl
theorem un_2 : (Tryz.prog.underlying 2).isSome = true := by kernel_rfl
theorem ti_5 : tyInt Tryz.prog 5 = some .u8 := by kernel_rfl
theorem rt_22 : rowTy Tryz.prog 22 = some (5, 1, 1) := by kernel_rfl
theorem tz_5 : tyZero Tryz.prog 5 = some (.int .u8 0) := by kernel_rfl
theorem cb_53 : cb0 Tryz.prog 53 = true := by kernel_rfl
theorem cb_54 : cb0 Tryz.prog 54 = true := by kernel_rfl
theorem cb_52 : cb0 Tryz.prog 52 = true := by kernel_rfl
theorem fo_66_0 : fldOff Tryz.prog 66 0 = some 0 := by kernel_rfl
theorem ts_64 : tySz Tryz.prog 64 = some (false, 1) := by kernel_rfl
theorem fok_66 : fldsOk Tryz.prog 66 = true := by kernel_rfl
theorem rt_24 : rowTy Tryz.prog 24 = some (66, 2, 32) := by kernel_rfl
theorem fo_26_0 : fldOff Tryz.prog 26 0 = some 0 := by kernel_rfl
theorem ts_2 : tySz Tryz.prog 2 = some (false, 1) := by kernel_rfl
theorem cb_33 : cb0 Tryz.prog 33 = true := by kernel_rfl
theorem cb_97 : cb0 Tryz.prog 97 = true := by kernel_rfl
theorem cb_25 : cb0 Tryz.prog 25 = true := by kernel_rfl
theorem cb_55 : cb0 Tryz.prog 55 = true := by kernel_rfl
theorem cb_56 : cb0 Tryz.prog 56 = true := by kernel_rfl
theorem fo_51_0 : fldOff Tryz.prog 51 0 = some 0 := by kernel_rfl
theorem cb_57 : cb0 Tryz.prog 57 = true := by kernel_rfl
theorem fo_51_6 : fldOff Tryz.prog 51 6 = some 6 := by kernel_rfl
theorem fo_51_7 : fldOff Tryz.prog 51 7 = some 7 := by kernel_rfl
theorem ts_29 : tySz Tryz.prog 29 = some (false, 1) := by kernel_rfl
theorem cb_98 : cb0 Tryz.prog 98 = true := by kernel_rfl
theorem cb_27 : cb0 Tryz.prog 27 = true := by kernel_rfl
theorem cb_26 : cb0 Tryz.prog 26 = true := by kernel_rfl
theorem cb_51 : cb0 Tryz.prog 51 = true := by kernel_rfl
theorem cb_31 : cb0 Tryz.prog 31 = true := by kernel_rfl
theorem fo_31_0 : fldOff Tryz.prog 31 0 = some 0 := by kernel_rfl
theorem fo_31_1 : fldOff Tryz.prog 31 1 = some 1 := by kernel_rfl
theorem ti_150 : tyInt Tryz.prog 150 = some .i8 := by kernel_rfl
theorem un_150 : (Tryz.prog.underlying 150).isSome = true := by kernel_rfl
theorem fo_37_0 : fldOff Tryz.prog 37 0 = some 0 := by kernel_rfl
theorem fo_37_1 : fldOff Tryz.prog 37 1 = some 1 := by kernel_rfl
theorem fo_37_2 : fldOff Tryz.prog 37 2 = some 2 := by kernel_rfl
theorem fa_26_0 : fldAt Tryz.prog 26 0 = some (0, 1) := by kernel_rfl
theorem fa_26_1 : fldAt Tryz.prog 26 1 = some (1, 1) := by kernel_rfl
theorem fa_26_2 : fldAt Tryz.prog 26 2 = some (2, 1) := by kernel_rfl
theorem fo_37_3 : fldOff Tryz.prog 37 3 = some 3 := by kernel_rfl
theorem ts_34 : tySz Tryz.prog 34 = some (false, 1) := by kernel_rfl
theorem te_34 : tyElem Tryz.prog 34 = some 37 := by kernel_rfl
theorem ts_37 : tySz Tryz.prog 37 = some (true, 5) := by kernel_rfl
theorem tz_37 : tyZero Tryz.prog 37 = some (.agg #[.int .i64 0, .slice none 0 0, .bool false, .slice none 0 0, .slice none 0 0]) := by kernel_rfl
theorem cb_13 : cb0 Tryz.prog 13 = true := by kernel_rfl
theorem rt_23 : rowTy Tryz.prog 23 = some (26, 5, 88) := by kernel_rfl
theorem fo_37_4 : fldOff Tryz.prog 37 4 = some 4 := by kernel_rfl
theorem ts_35 : tySz Tryz.prog 35 = some (false, 1) := by kernel_rfl
theorem te_35 : tyElem Tryz.prog 35 = some 69 := by kernel_rfl
theorem ts_69 : tySz Tryz.prog 69 = some (true, 2) := by kernel_rfl
theorem tz_69 : tyZero Tryz.prog 69 = some (.agg #[.int .u32 0, .slice none 0 0]) := by kernel_rfl
theorem fo_69_0 : fldOff Tryz.prog 69 0 = some 0 := by kernel_rfl
theorem fo_69_1 : fldOff Tryz.prog 69 1 = some 1 := by kernel_rfl
theorem fa_66_0 : fldAt Tryz.prog 66 0 = some (0, 1) := by kernel_rfl
theorem fa_66_1 : fldAt Tryz.prog 66 1 = some (1, 1) := by kernel_rfl
theorem ib_4 : isBoolTy Tryz.prog 4 = true := by kernel_rfl
theorem cb_32 : cb0 Tryz.prog 32 = true := by kernel_rfl
theorem cb_30 : cb0 Tryz.prog 30 = true := by kernel_rfl
theorem fo_51_5 : fldOff Tryz.prog 51 5 = some 5 := by kernel_rfl
theorem cb_58 : cb0 Tryz.prog 58 = true := by kernel_rfl
theorem cb_11 : cb0 Tryz.prog 11 = true := by kernel_rfl
theorem cb_29 : cb0 Tryz.prog 29 = true := by kernel_rfl
theorem rt_29 : rowTy Tryz.prog 29 = some (51, 8, 80) := by kernel_rfl
theorem fa_26_3 : fldAt Tryz.prog 26 3 = some (3, 1) := by kernel_rfl
theorem ip_74 : isPtrTy Tryz.prog 74 = true := by kernel_rfl
theorem fa_37_2 : fldAt Tryz.prog 37 2 = some (2, 1) := by kernel_rfl
theorem fok_37 : fldsOk Tryz.prog 37 = true := by kernel_rfl
theorem fa_37_1 : fldAt Tryz.prog 37 1 = some (1, 1) := by kernel_rfl
theorem fa_51_0 : fldAt Tryz.prog 51 0 = some (0, 1) := by kernel_rfl
theorem fa_51_2 : fldAt Tryz.prog 51 2 = some (2, 1) := by kernel_rfl
theorem fa_51_3 : fldAt Tryz.prog 51 3 = some (3, 1) := by kernel_rfl
theorem fa_51_4 : fldAt Tryz.prog 51 4 = some (4, 1) := by kernel_rfl
theorem fok_51 : fldsOk Tryz.prog 51 = true := by kernel_rfl
theorem fa_51_1 : fldAt Tryz.prog 51 1 = some (1, 1) := by kernel_rfl
theorem fa_51_5 : fldAt Tryz.prog 51 5 = some (5, 1) := by kernel_rfl
theorem cb_99 : cb0 Tryz.prog 99 = true := by kernel_rfl
theorem fa_51_6 : fldAt Tryz.prog 51 6 = some (6, 1) := by kernel_rfl
theorem fa_51_7 : fldAt Tryz.prog 51 7 = some (7, 1) := by kernel_rfl
theorem cb_60 : cb0 Tryz.prog 60 = true := by kernel_rfl
theorem cb_61 : cb0 Tryz.prog 61 = true := by kernel_rfl
theorem tz_31 : tyZero Tryz.prog 31 = some (.agg #[.slice none 0 0, .int .i64 0]) := by kernel_rfl
theorem cb_36 : cb0 Tryz.prog 36 = true := by kernel_rfl
theorem cb_37 : cb0 Tryz.prog 37 = true := by kernel_rfl
theorem fa_31_1 : fldAt Tryz.prog 31 1 = some (1, 1) := by kernel_rfl
theorem fa_31_0 : fldAt Tryz.prog 31 0 = some (0, 1) := by kernel_rfl
theorem fok_31 : fldsOk Tryz.prog 31 = true := by kernel_rfl
theorem ts_31 : tySz Tryz.prog 31 = some (true, 2) := by kernel_rfl
theorem fo_158_3 : fldOff Tryz.prog 158 3 = some 18 := by kernel_rfl
theorem fo_158_4 : fldOff Tryz.prog 158 4 = some 19 := by kernel_rfl
theorem cb_59 : cb0 Tryz.prog 59 = true := by kernel_rfl
theorem cb_71 : cb0 Tryz.prog 71 = true := by kernel_rfl
theorem cb_73 : cb0 Tryz.prog 73 = true := by kernel_rfl
theorem cb_74 : cb0 Tryz.prog 74 = true := by kernel_rfl
theorem cb_75 : cb0 Tryz.prog 75 = true := by kernel_rfl
theorem cb_76 : cb0 Tryz.prog 76 = true := by kernel_rfl
theorem cb_77 : cb0 Tryz.prog 77 = true := by kernel_rfl
theorem cb_79 : cb0 Tryz.prog 79 = true := by kernel_rfl
theorem cb_82 : cb0 Tryz.prog 82 = true := by kernel_rfl
theorem cb_83 : cb0 Tryz.prog 83 = true := by kernel_rfl
theorem cb_84 : cb0 Tryz.prog 84 = true := by kernel_rfl
theorem cb_86 : cb0 Tryz.prog 86 = true := by kernel_rfl
theorem cb_90 : cb0 Tryz.prog 90 = true := by kernel_rfl
theorem cb_91 : cb0 Tryz.prog 91 = true := by kernel_rfl
theorem cb_100 : cb0 Tryz.prog 100 = true := by kernel_rfl
theorem cb_101 : cb0 Tryz.prog 101 = true := by kernel_rfl
theorem cb_102 : cb0 Tryz.prog 102 = true := by kernel_rfl
theorem cb_103 : cb0 Tryz.prog 103 = true := by kernel_rfl
theorem cb_104 : cb0 Tryz.prog 104 = true := by kernel_rfl
theorem cb_105 : cb0 Tryz.prog 105 = true := by kernel_rfl
theorem cb_62 : cb0 Tryz.prog 62 = true := by kernel_rfl
theorem tz_109 : tyZero Tryz.prog 109 = some (.agg #[.int .i16 0, .int .i16 0, .pointer none, .slice none 0 0, .slice none 0 0, .map none]) := by kernel_rfl
theorem te_144 : tyElem Tryz.prog 144 = some 64 := by kernel_rfl
theorem ts_144 : tySz Tryz.prog 144 = some (false, 1) := by kernel_rfl
theorem tz_144 : tyZero Tryz.prog 144 = some (.slice none 0 0) := by kernel_rfl
theorem tz_64 : tyZero Tryz.prog 64 = some (.int .u32 0) := by kernel_rfl
theorem rt_144 : rowTy Tryz.prog 144 = some (64, 1, 4) := by kernel_rfl
theorem cb_96 : cb0 Tryz.prog 96 = true := by kernel_rfl
theorem cb_95 : cb0 Tryz.prog 95 = true := by kernel_rfl
theorem cb_48 : cb0 Tryz.prog 48 = true := by kernel_rfl
theorem fo_158_0 : fldOff Tryz.prog 158 0 = some 0 := by kernel_rfl
theorem ts_21 : tySz Tryz.prog 21 = some (false, 1) := by kernel_rfl
theorem fo_158_1 : fldOff Tryz.prog 158 1 = some 1 := by kernel_rfl
theorem ar_86 : tyArr Tryz.prog 86 = some (16, 5) := by kernel_rfl
theorem fo_158_2 : fldOff Tryz.prog 158 2 = some 17 := by kernel_rfl
theorem cb_50 : cb0 Tryz.prog 50 = true := by kernel_rfl
theorem cb_152 : cb0 Tryz.prog 152 = true := by kernel_rfl
theorem fo_158_5 : fldOff Tryz.prog 158 5 = some 20 := by kernel_rfl
theorem fo_155_0 : fldOff Tryz.prog 155 0 = some 0 := by kernel_rfl
theorem fo_155_1 : fldOff Tryz.prog 155 1 = some 1 := by kernel_rfl
theorem ts_46 : tySz Tryz.prog 46 = some (false, 1) := by kernel_rfl
theorem fo_155_2 : fldOff Tryz.prog 155 2 = some 2 := by kernel_rfl
theorem ts_74 : tySz Tryz.prog 74 = some (false, 1) := by kernel_rfl
theorem cb_45 : cb0 Tryz.prog 45 = true := by kernel_rfl
theorem fo_155_3 : fldOff Tryz.prog 155 3 = some 3 := by kernel_rfl
theorem fo_155_4 : fldOff Tryz.prog 155 4 = some 4 := by kernel_rfl
theorem fo_155_5 : fldOff Tryz.prog 155 5 = some 5 := by kernel_rfl
theorem fo_155_6 : fldOff Tryz.prog 155 6 = some 6 := by kernel_rfl
theorem ts_153 : tySz Tryz.prog 153 = some (false, 1) := by kernel_rfl
theorem te_153 : tyElem Tryz.prog 153 = some 158 := by kernel_rfl
theorem tz_4 : tyZero Tryz.prog 4 = some (.bool false) := by kernel_rfl
theorem ts_158 : tySz Tryz.prog 158 = some (true, 21) := by kernel_rfl
theorem cb_126 : cb0 Tryz.prog 126 = true := by kernel_rfl
theorem fo_155_7 : fldOff Tryz.prog 155 7 = some 7 := by kernel_rfl
theorem cb_127 : cb0 Tryz.prog 127 = true := by kernel_rfl
theorem fo_155_8 : fldOff Tryz.prog 155 8 = some 8 := by kernel_rfl
theorem fo_114_0 : fldOff Tryz.prog 114 0 = some 0 := by kernel_rfl
theorem fo_114_1 : fldOff Tryz.prog 114 1 = some 1 := by kernel_rfl
theorem ts_112 : tySz Tryz.prog 112 = some (false, 1) := by kernel_rfl
theorem te_112 : tyElem Tryz.prog 112 = some 155 := by kernel_rfl
theorem ts_155 : tySz Tryz.prog 155 = some (true, 9) := by kernel_rfl
theorem cb_106 : cb0 Tryz.prog 106 = true := by kernel_rfl
theorem cb_107 : cb0 Tryz.prog 107 = true := by kernel_rfl
theorem fo_114_2 : fldOff Tryz.prog 114 2 = some 2 := by kernel_rfl
theorem fo_161_0 : fldOff Tryz.prog 161 0 = some 0 := by kernel_rfl
theorem fo_161_1 : fldOff Tryz.prog 161 1 = some 1 := by kernel_rfl
theorem fo_161_2 : fldOff Tryz.prog 161 2 = some 2 := by kernel_rfl
theorem ts_151 : tySz Tryz.prog 151 = some (false, 1) := by kernel_rfl
theorem cb_128 : cb0 Tryz.prog 128 = true := by kernel_rfl
theorem fo_161_3 : fldOff Tryz.prog 161 3 = some 3 := by kernel_rfl
theorem fo_119_0 : fldOff Tryz.prog 119 0 = some 0 := by kernel_rfl
theorem fo_119_1 : fldOff Tryz.prog 119 1 = some 1 := by kernel_rfl
theorem ts_117 : tySz Tryz.prog 117 = some (false, 1) := by kernel_rfl
theorem te_117 : tyElem Tryz.prog 117 = some 161 := by kernel_rfl
theorem ts_161 : tySz Tryz.prog 161 = some (true, 4) := by kernel_rfl
theorem cb_108 : cb0 Tryz.prog 108 = true := by kernel_rfl
theorem cb_109 : cb0 Tryz.prog 109 = true := by kernel_rfl
theorem fo_119_2 : fldOff Tryz.prog 119 2 = some 2 := by kernel_rfl
theorem fo_109_1 : fldOff Tryz.prog 109 1 = some 1 := by kernel_rfl
theorem fo_109_2 : fldOff Tryz.prog 109 2 = some 2 := by kernel_rfl
theorem fo_109_3 : fldOff Tryz.prog 109 3 = some 3 := by kernel_rfl
theorem ts_106 : tySz Tryz.prog 106 = some (false, 1) := by kernel_rfl
theorem te_106 : tyElem Tryz.prog 106 = some 114 := by kernel_rfl
theorem ts_114 : tySz Tryz.prog 114 = some (true, 3) := by kernel_rfl
theorem cb_63 : cb0 Tryz.prog 63 = true := by kernel_rfl
theorem fo_109_4 : fldOff Tryz.prog 109 4 = some 4 := by kernel_rfl
theorem ts_107 : tySz Tryz.prog 107 = some (false, 1) := by kernel_rfl
theorem te_107 : tyElem Tryz.prog 107 = some 119 := by kernel_rfl
theorem ts_119 : tySz Tryz.prog 119 = some (true, 3) := by kernel_rfl
theorem cb_64 : cb0 Tryz.prog 64 = true := by kernel_rfl
theorem cb_65 : cb0 Tryz.prog 65 = true := by kernel_rfl
theorem fo_109_5 : fldOff Tryz.prog 109 5 = some 5 := by kernel_rfl
theorem fo_109_0 : fldOff Tryz.prog 109 0 = some 0 := by kernel_rfl
theorem cb_34 : cb0 Tryz.prog 34 = true := by kernel_rfl
theorem cb_35 : cb0 Tryz.prog 35 = true := by kernel_rfl
theorem cb_38 : cb0 Tryz.prog 38 = true := by kernel_rfl
theorem cb_39 : cb0 Tryz.prog 39 = true := by kernel_rfl
theorem cb_40 : cb0 Tryz.prog 40 = true := by kernel_rfl
theorem cb_5 : cb0 Tryz.prog 5 = true := by kernel_rfl
theorem cb_14 : cb0 Tryz.prog 14 = true := by kernel_rfl
theorem cb_15 : cb0 Tryz.prog 15 = true := by kernel_rfl
theorem cb_8 : cb0 Tryz.prog 8 = true := by kernel_rfl
theorem cb_10 : cb0 Tryz.prog 10 = true := by kernel_rfl
theorem cb_16 : cb0 Tryz.prog 16 = true := by kernel_rfl
theorem cb_12 : cb0 Tryz.prog 12 = true := by kernel_rfl
end Go.Proofs.YtnoklacheaplkabGreatDoor
