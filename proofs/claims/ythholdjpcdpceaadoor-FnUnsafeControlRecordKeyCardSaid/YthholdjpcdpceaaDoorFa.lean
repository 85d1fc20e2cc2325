/- Facts of the program by computation. No statement of the seat stands here. -/
import Derived.Test.YthholdjpcdpceaaDoorL3
import Derived.Test.YthholdjpcdpceaaDoorRows
import Derived.KernelRfl
namespace Go.Proofs.YthholdjpcdpceaaDoor
open Go Go.Mk
theorem mixed : Tryd.prog.follows .mixedOrders = true := Tryd.checked.mixed
theorem te_22 : tyElem Tryd.prog 22 = some 5 := by kernel_rfl
theorem ts_5 : tySz Tryd.prog 5 = some (false, 1) := by kernel_rfl
theorem un_5 : (Tryd.prog.underlying 5).isSome = true := by kernel_rfl
theorem ti_163 : tyInt Tryd.prog 163 = some .u16 := by kernel_rfl
theorem ti_59 : tyInt Tryd.prog 59 = some .u32 := by kernel_rfl
theorem fo_133_0 : fldOff Tryd.prog 133 0 = some 0 := by kernel_rfl
theorem ts_22 : tySz Tryd.prog 22 = some (false, 1) := by kernel_rfl
theorem fo_133_1 : fldOff Tryd.prog 133 1 = some 1 := by kernel_rfl
theorem ts_4 : tySz Tryd.prog 4 = some (false, 1) := by kernel_rfl
theorem ts_165 : tySz Tryd.prog 165 = some (true, 0) := by kernel_rfl
theorem cb_161 : cb0 Tryd.prog 161 = true := by kernel_rfl
theorem un_59 : (Tryd.prog.underlying 59).isSome = true := by kernel_rfl
theorem ti_21 : tyInt Tryd.prog 21 = some .i32 := by kernel_rfl
theorem cb_146 : cb0 Tryd.prog 146 = true := by kernel_rfl
theorem un_163 : (Tryd.prog.underlying 163).isSome = true := by kernel_rfl
theorem ti_45 : tyInt Tryd.prog 45 = some .i16 := by kernel_rfl
theorem ts_51 : tySz Tryd.prog 51 = some (false, 1) := by kernel_rfl
theorem iy_22 : isBytesTy Tryd.prog 22 = true := by kernel_rfl
theorem is_9 : isStrTy Tryd.prog 9 = true := by kernel_rfl
theorem cb_127 : cb0 Tryd.prog 127 = true := by kernel_rfl
theorem un_21 : (Tryd.prog.underlying 21).isSome = true := by kernel_rfl
theorem ti_3 : tyInt Tryd.prog 3 = some .i64 := by kernel_rfl
theorem cb_107 : cb0 Tryd.prog 107 = true := by kernel_rfl
theorem un_45 : (Tryd.prog.underlying 45).isSome = true := by kernel_rfl
theorem cb_154 : cb0 Tryd.prog 154 = true := by kernel_rfl
theorem tz_9 : tyZero Tryd.prog 9 = some (.string .empty) := by kernel_rfl
theorem ts_9 : tySz Tryd.prog 9 = some (false, 1) := by kernel_rfl
theorem cb_153 : cb0 Tryd.prog 153 = true := by kernel_rfl
theorem cb_164 : cb0 Tryd.prog 164 = true := by kernel_rfl
theorem cb_152 : cb0 Tryd.prog 152 = true := by kernel_rfl
theorem ti_102 : tyInt Tryd.prog 102 = some .i8 := by kernel_rfl
theorem fo_88_0 : fldOff Tryd.prog 88 0 = some 0 := by kernel_rfl
theorem ts_86 : tySz Tryd.prog 86 = some (false, 1) := by kernel_rfl
theorem im_86 : isMapTy Tryd.prog 86 = true := by kernel_rfl
theorem mt_86 : mapTy Tryd.prog 86 = some (59, 22) := by kernel_rfl
theorem tz_88 : tyZero Tryd.prog 88 = some (.agg #[.map none]) := by kernel_rfl
theorem ts_88 : tySz Tryd.prog 88 = some (true, 1) := by kernel_rfl
theorem cb_155 : cb0 Tryd.prog 155 = true := by kernel_rfl
theorem tz_116 : tyZero Tryd.prog 116 = some (.agg #[.int .u8 0, .int .u8 0, .int .u8 0, .int .u8 0, .int .u8 0, .int .u8 0, .int .u8 0, .int .u8 0, .int .u8 0, .int .u8 0, .int .u8 0, .int .u8 0, .int .u8 0, .int .u8 0, .int .u8 0, .int .u8 0]) := by kernel_rfl
theorem ts_116 : tySz Tryd.prog 116 = some (true, 16) := by kernel_rfl
theorem at_116 : tyArr Tryd.prog 116 = some (16, 5) := by kernel_rfl
theorem cz_5 : (Tryd.prog.info? 5).map (·.size) = some 1 := by kernel_rfl
theorem tz_37 : tyZero Tryd.prog 37 = some (.agg #[.int .i64 0, .slice none 0 0, .bool false, .slice none 0 0, .slice none 0 0]) := by kernel_rfl
theorem fo_26_0 : fldOff Tryd.prog 26 0 = some 0 := by kernel_rfl
theorem ts_2 : tySz Tryd.prog 2 = some (false, 1) := by kernel_rfl
theorem fo_26_1 : fldOff Tryd.prog 26 1 = some 1 := by kernel_rfl
theorem fo_26_2 : fldOff Tryd.prog 26 2 = some 2 := by kernel_rfl
theorem fa_37_0 : fldAt Tryd.prog 37 0 = some (0, 1) := by kernel_rfl
theorem fa_37_1 : fldAt Tryd.prog 37 1 = some (1, 1) := by kernel_rfl
theorem fa_37_2 : fldAt Tryd.prog 37 2 = some (2, 1) := by kernel_rfl
theorem fok_37 : fldsOk Tryd.prog 37 = true := by kernel_rfl
theorem ts_37 : tySz Tryd.prog 37 = some (true, 5) := by kernel_rfl
theorem fo_26_3 : fldOff Tryd.prog 26 3 = some 3 := by kernel_rfl
theorem ts_23 : tySz Tryd.prog 23 = some (false, 1) := by kernel_rfl
theorem te_23 : tyElem Tryd.prog 23 = some 26 := by kernel_rfl
theorem ts_26 : tySz Tryd.prog 26 = some (true, 5) := by kernel_rfl
theorem tz_26 : tyZero Tryd.prog 26 = some (.agg #[.int .i64 0, .slice none 0 0, .bool false, .slice none 0 0, .slice none 0 0]) := by kernel_rfl
theorem fo_37_3 : fldOff Tryd.prog 37 3 = some 3 := by kernel_rfl
theorem ts_34 : tySz Tryd.prog 34 = some (false, 1) := by kernel_rfl
theorem cb_15 : cb0 Tryd.prog 15 = true := by kernel_rfl
theorem rt_34 : rowTy Tryd.prog 34 = some (37, 5, 88) := by kernel_rfl
theorem te_34 : tyElem Tryd.prog 34 = some 37 := by kernel_rfl
theorem fo_26_4 : fldOff Tryd.prog 26 4 = some 4 := by kernel_rfl
theorem ts_24 : tySz Tryd.prog 24 = some (false, 1) := by kernel_rfl
theorem te_24 : tyElem Tryd.prog 24 = some 62 := by kernel_rfl
theorem ts_62 : tySz Tryd.prog 62 = some (true, 2) := by kernel_rfl
theorem tz_62 : tyZero Tryd.prog 62 = some (.agg #[.int .u32 0, .slice none 0 0]) := by kernel_rfl
theorem fo_37_4 : fldOff Tryd.prog 37 4 = some 4 := by kernel_rfl
theorem ts_35 : tySz Tryd.prog 35 = some (false, 1) := by kernel_rfl
theorem fo_62_0 : fldOff Tryd.prog 62 0 = some 0 := by kernel_rfl
theorem ts_59 : tySz Tryd.prog 59 = some (false, 1) := by kernel_rfl
theorem fo_62_1 : fldOff Tryd.prog 62 1 = some 1 := by kernel_rfl
theorem fa_61_0 : fldAt Tryd.prog 61 0 = some (0, 1) := by kernel_rfl
theorem fa_61_1 : fldAt Tryd.prog 61 1 = some (1, 1) := by kernel_rfl
theorem tz_61 : tyZero Tryd.prog 61 = some (.agg #[.int .u32 0, .slice none 0 0]) := by kernel_rfl
theorem fok_61 : fldsOk Tryd.prog 61 = true := by kernel_rfl
theorem rt_35 : rowTy Tryd.prog 35 = some (61, 2, 32) := by kernel_rfl
theorem te_35 : tyElem Tryd.prog 35 = some 61 := by kernel_rfl
theorem ip_99 : isPtrTy Tryd.prog 99 = true := by kernel_rfl
theorem fa_26_2 : fldAt Tryd.prog 26 2 = some (2, 1) := by kernel_rfl
theorem fok_26 : fldsOk Tryd.prog 26 = true := by kernel_rfl
theorem fa_26_1 : fldAt Tryd.prog 26 1 = some (1, 1) := by kernel_rfl
theorem fo_37_0 : fldOff Tryd.prog 37 0 = some 0 := by kernel_rfl
theorem fo_37_2 : fldOff Tryd.prog 37 2 = some 2 := by kernel_rfl
theorem ib_4 : isBoolTy Tryd.prog 4 = true := by kernel_rfl
theorem fo_37_1 : fldOff Tryd.prog 37 1 = some 1 := by kernel_rfl
theorem cb_41 : cb0 Tryd.prog 41 = true := by kernel_rfl
theorem cb_14 : cb0 Tryd.prog 14 = true := by kernel_rfl
theorem ts_61 : tySz Tryd.prog 61 = some (true, 2) := by kernel_rfl
theorem fo_61_0 : fldOff Tryd.prog 61 0 = some 0 := by kernel_rfl
theorem fo_61_1 : fldOff Tryd.prog 61 1 = some 1 := by kernel_rfl
theorem te_150 : tyElem Tryd.prog 150 = some 59 := by kernel_rfl
theorem ts_150 : tySz Tryd.prog 150 = some (false, 1) := by kernel_rfl
theorem tz_150 : tyZero Tryd.prog 150 = some (.slice none 0 0) := by kernel_rfl
theorem tz_59 : tyZero Tryd.prog 59 = some (.int .u32 0) := by kernel_rfl
theorem rt_150 : rowTy Tryd.prog 150 = some (59, 1, 4) := by kernel_rfl
theorem rt_22 : rowTy Tryd.prog 22 = some (5, 1, 1) := by kernel_rfl
theorem cb_126 : cb0 Tryd.prog 126 = true := by kernel_rfl
theorem cb_125 : cb0 Tryd.prog 125 = true := by kernel_rfl
theorem cb_83 : cb0 Tryd.prog 83 = true := by kernel_rfl
theorem cb_81 : cb0 Tryd.prog 81 = true := by kernel_rfl
theorem cb_108 : cb0 Tryd.prog 108 = true := by kernel_rfl
theorem cb_117 : cb0 Tryd.prog 117 = true := by kernel_rfl
theorem cb_118 : cb0 Tryd.prog 118 = true := by kernel_rfl
theorem cb_119 : cb0 Tryd.prog 119 = true := by kernel_rfl
theorem cb_120 : cb0 Tryd.prog 120 = true := by kernel_rfl
theorem cb_121 : cb0 Tryd.prog 121 = true := by kernel_rfl
theorem cb_122 : cb0 Tryd.prog 122 = true := by kernel_rfl
theorem cb_123 : cb0 Tryd.prog 123 = true := by kernel_rfl
theorem cb_124 : cb0 Tryd.prog 124 = true := by kernel_rfl
theorem cb_129 : cb0 Tryd.prog 129 = true := by kernel_rfl
theorem cb_130 : cb0 Tryd.prog 130 = true := by kernel_rfl
theorem cb_131 : cb0 Tryd.prog 131 = true := by kernel_rfl
theorem cb_132 : cb0 Tryd.prog 132 = true := by kernel_rfl
theorem cb_134 : cb0 Tryd.prog 134 = true := by kernel_rfl
theorem cb_138 : cb0 Tryd.prog 138 = true := by kernel_rfl
theorem cb_82 : cb0 Tryd.prog 82 = true := by kernel_rfl
theorem tz_90 : tyZero Tryd.prog 90 = some (.agg #[.int .i16 0, .slice none 0 0, .map none]) := by kernel_rfl
theorem fo_90_1 : fldOff Tryd.prog 90 1 = some 1 := by kernel_rfl
theorem ts_85 : tySz Tryd.prog 85 = some (false, 1) := by kernel_rfl
theorem te_85 : tyElem Tryd.prog 85 = some 9 := by kernel_rfl
theorem tz_4 : tyZero Tryd.prog 4 = some (.bool false) := by kernel_rfl
theorem cb_85 : cb0 Tryd.prog 85 = true := by kernel_rfl
theorem cb_84 : cb0 Tryd.prog 84 = true := by kernel_rfl
theorem fo_90_2 : fldOff Tryd.prog 90 2 = some 2 := by kernel_rfl
theorem fo_90_0 : fldOff Tryd.prog 90 0 = some 0 := by kernel_rfl
theorem ts_45 : tySz Tryd.prog 45 = some (false, 1) := by kernel_rfl
theorem cb_42 : cb0 Tryd.prog 42 = true := by kernel_rfl
theorem cb_43 : cb0 Tryd.prog 43 = true := by kernel_rfl
theorem un_3 : (Tryd.prog.underlying 3).isSome = true := by kernel_rfl
theorem cb_44 : cb0 Tryd.prog 44 = true := by kernel_rfl
theorem cb_45 : cb0 Tryd.prog 45 = true := by kernel_rfl
theorem cb_46 : cb0 Tryd.prog 46 = true := by kernel_rfl
theorem cb_47 : cb0 Tryd.prog 47 = true := by kernel_rfl
theorem cb_16 : cb0 Tryd.prog 16 = true := by kernel_rfl
theorem cb_18 : cb0 Tryd.prog 18 = true := by kernel_rfl
theorem cb_17 : cb0 Tryd.prog 17 = true := by kernel_rfl
theorem cb_19 : cb0 Tryd.prog 19 = true := by kernel_rfl
theorem cb_86 : cb0 Tryd.prog 86 = true := by kernel_rfl
theorem cb_128 : cb0 Tryd.prog 128 = true := by kernel_rfl
theorem cb_87 : cb0 Tryd.prog 87 = true := by kernel_rfl
theorem tz_96 : tyZero Tryd.prog 96 = some (.agg #[.int .i16 0, .int .i32 0, .slice none 0 0, .map none]) := by kernel_rfl
theorem fo_101_0 : fldOff Tryd.prog 101 0 = some 0 := by kernel_rfl
theorem ti_2 : tyInt Tryd.prog 2 = some .i64 := by kernel_rfl
theorem fo_101_1 : fldOff Tryd.prog 101 1 = some 1 := by kernel_rfl
theorem ts_99 : tySz Tryd.prog 99 = some (false, 1) := by kernel_rfl
theorem cb_105 : cb0 Tryd.prog 105 = true := by kernel_rfl
theorem cb_133 : cb0 Tryd.prog 133 = true := by kernel_rfl
theorem fo_101_2 : fldOff Tryd.prog 101 2 = some 2 := by kernel_rfl
theorem fo_96_1 : fldOff Tryd.prog 96 1 = some 1 := by kernel_rfl
theorem ts_21 : tySz Tryd.prog 21 = some (false, 1) := by kernel_rfl
theorem fo_96_2 : fldOff Tryd.prog 96 2 = some 2 := by kernel_rfl
theorem ts_94 : tySz Tryd.prog 94 = some (false, 1) := by kernel_rfl
theorem te_94 : tyElem Tryd.prog 94 = some 101 := by kernel_rfl
theorem ts_101 : tySz Tryd.prog 101 = some (true, 3) := by kernel_rfl
theorem cb_88 : cb0 Tryd.prog 88 = true := by kernel_rfl
theorem cb_89 : cb0 Tryd.prog 89 = true := by kernel_rfl
theorem fo_96_3 : fldOff Tryd.prog 96 3 = some 3 := by kernel_rfl
theorem fo_96_0 : fldOff Tryd.prog 96 0 = some 0 := by kernel_rfl
theorem cb_48 : cb0 Tryd.prog 48 = true := by kernel_rfl
theorem cb_49 : cb0 Tryd.prog 49 = true := by kernel_rfl
theorem cb_50 : cb0 Tryd.prog 50 = true := by kernel_rfl
theorem cb_51 : cb0 Tryd.prog 51 = true := by kernel_rfl
theorem cb_52 : cb0 Tryd.prog 52 = true := by kernel_rfl
theorem cb_53 : cb0 Tryd.prog 53 = true := by kernel_rfl
theorem cb_20 : cb0 Tryd.prog 20 = true := by kernel_rfl
theorem cb_21 : cb0 Tryd.prog 21 = true := by kernel_rfl
theorem cb_22 : cb0 Tryd.prog 22 = true := by kernel_rfl
theorem fo_105_3 : fldOff Tryd.prog 105 3 = some 3 := by kernel_rfl
theorem cb_90 : cb0 Tryd.prog 90 = true := by kernel_rfl
theorem cb_135 : cb0 Tryd.prog 135 = true := by kernel_rfl
theorem cb_91 : cb0 Tryd.prog 91 = true := by kernel_rfl
theorem tz_105 : tyZero Tryd.prog 105 = some (.agg #[.int .i16 0, .int .i8 0, .slice none 0 0, .int .i32 0, .map none]) := by kernel_rfl
theorem fo_110_0 : fldOff Tryd.prog 110 0 = some 0 := by kernel_rfl
theorem fo_110_1 : fldOff Tryd.prog 110 1 = some 1 := by kernel_rfl
theorem ts_108 : tySz Tryd.prog 108 = some (false, 1) := by kernel_rfl
theorem te_108 : tyElem Tryd.prog 108 = some 21 := by kernel_rfl
theorem cb_136 : cb0 Tryd.prog 136 = true := by kernel_rfl
theorem fo_110_2 : fldOff Tryd.prog 110 2 = some 2 := by kernel_rfl
theorem fo_105_1 : fldOff Tryd.prog 105 1 = some 1 := by kernel_rfl
theorem ts_102 : tySz Tryd.prog 102 = some (false, 1) := by kernel_rfl
theorem un_102 : (Tryd.prog.underlying 102).isSome = true := by kernel_rfl
theorem fo_105_2 : fldOff Tryd.prog 105 2 = some 2 := by kernel_rfl
theorem ts_103 : tySz Tryd.prog 103 = some (false, 1) := by kernel_rfl
theorem te_103 : tyElem Tryd.prog 103 = some 110 := by kernel_rfl
theorem ts_110 : tySz Tryd.prog 110 = some (true, 3) := by kernel_rfl
theorem cb_92 : cb0 Tryd.prog 92 = true := by kernel_rfl
theorem cb_93 : cb0 Tryd.prog 93 = true := by kernel_rfl
theorem fo_105_4 : fldOff Tryd.prog 105 4 = some 4 := by kernel_rfl
theorem fo_105_0 : fldOff Tryd.prog 105 0 = some 0 := by kernel_rfl
theorem cb_54 : cb0 Tryd.prog 54 = true := by kernel_rfl
theorem cb_55 : cb0 Tryd.prog 55 = true := by kernel_rfl
theorem cb_56 : cb0 Tryd.prog 56 = true := by kernel_rfl
theorem cb_57 : cb0 Tryd.prog 57 = true := by kernel_rfl
theorem cb_58 : cb0 Tryd.prog 58 = true := by kernel_rfl
theorem cb_59 : cb0 Tryd.prog 59 = true := by kernel_rfl
theorem cb_23 : cb0 Tryd.prog 23 = true := by kernel_rfl
theorem cb_24 : cb0 Tryd.prog 24 = true := by kernel_rfl
theorem cb_25 : cb0 Tryd.prog 25 = true := by kernel_rfl
theorem cb_94 : cb0 Tryd.prog 94 = true := by kernel_rfl
theorem cb_137 : cb0 Tryd.prog 137 = true := by kernel_rfl
theorem cb_139 : cb0 Tryd.prog 139 = true := by kernel_rfl
theorem cb_95 : cb0 Tryd.prog 95 = true := by kernel_rfl
theorem tz_113 : tyZero Tryd.prog 113 = some (.agg #[.int .i16 0, .string .empty, .slice none 0 0, .map none]) := by kernel_rfl
theorem fo_158_0 : fldOff Tryd.prog 158 0 = some 0 := by kernel_rfl
theorem cb_162 : cb0 Tryd.prog 162 = true := by kernel_rfl
theorem fo_158_1 : fldOff Tryd.prog 158 1 = some 1 := by kernel_rfl
theorem fo_119_0 : fldOff Tryd.prog 119 0 = some 0 := by kernel_rfl
theorem ar_116 : tyArr Tryd.prog 116 = some (16, 5) := by kernel_rfl
theorem fo_119_1 : fldOff Tryd.prog 119 1 = some 16 := by kernel_rfl
theorem ts_117 : tySz Tryd.prog 117 = some (false, 1) := by kernel_rfl
theorem te_117 : tyElem Tryd.prog 117 = some 158 := by kernel_rfl
theorem ts_158 : tySz Tryd.prog 158 = some (true, 2) := by kernel_rfl
theorem cb_140 : cb0 Tryd.prog 140 = true := by kernel_rfl
theorem cb_141 : cb0 Tryd.prog 141 = true := by kernel_rfl
theorem fo_119_2 : fldOff Tryd.prog 119 2 = some 17 := by kernel_rfl
theorem fo_113_1 : fldOff Tryd.prog 113 1 = some 1 := by kernel_rfl
theorem fo_113_2 : fldOff Tryd.prog 113 2 = some 2 := by kernel_rfl
theorem ts_111 : tySz Tryd.prog 111 = some (false, 1) := by kernel_rfl
theorem te_111 : tyElem Tryd.prog 111 = some 119 := by kernel_rfl
theorem ts_119 : tySz Tryd.prog 119 = some (true, 18) := by kernel_rfl
theorem cb_96 : cb0 Tryd.prog 96 = true := by kernel_rfl
theorem cb_97 : cb0 Tryd.prog 97 = true := by kernel_rfl
theorem fo_113_3 : fldOff Tryd.prog 113 3 = some 3 := by kernel_rfl
theorem fo_113_0 : fldOff Tryd.prog 113 0 = some 0 := by kernel_rfl
theorem cb_60 : cb0 Tryd.prog 60 = true := by kernel_rfl
theorem cb_61 : cb0 Tryd.prog 61 = true := by kernel_rfl
theorem cb_62 : cb0 Tryd.prog 62 = true := by kernel_rfl
theorem cb_63 : cb0 Tryd.prog 63 = true := by kernel_rfl
theorem cb_64 : cb0 Tryd.prog 64 = true := by kernel_rfl
theorem cb_65 : cb0 Tryd.prog 65 = true := by kernel_rfl
theorem cb_26 : cb0 Tryd.prog 26 = true := by kernel_rfl
theorem cb_27 : cb0 Tryd.prog 27 = true := by kernel_rfl
theorem cb_28 : cb0 Tryd.prog 28 = true := by kernel_rfl
theorem cb_103 : cb0 Tryd.prog 103 = true := by kernel_rfl
theorem cb_104 : cb0 Tryd.prog 104 = true := by kernel_rfl
theorem tz_130 : tyZero Tryd.prog 130 = some (.agg #[.int .i16 0, .string .empty, .string .empty, .int .i32 0, .pointer none, .slice none 0 0, .map none]) := by kernel_rfl
theorem fo_130_1 : fldOff Tryd.prog 130 1 = some 1 := by kernel_rfl
theorem fo_130_2 : fldOff Tryd.prog 130 2 = some 2 := by kernel_rfl
theorem fo_130_3 : fldOff Tryd.prog 130 3 = some 3 := by kernel_rfl
theorem fo_130_4 : fldOff Tryd.prog 130 4 = some 4 := by kernel_rfl
theorem fo_130_5 : fldOff Tryd.prog 130 5 = some 5 := by kernel_rfl
theorem cb_106 : cb0 Tryd.prog 106 = true := by kernel_rfl
theorem fo_130_6 : fldOff Tryd.prog 130 6 = some 6 := by kernel_rfl
theorem fo_130_0 : fldOff Tryd.prog 130 0 = some 0 := by kernel_rfl
theorem cb_72 : cb0 Tryd.prog 72 = true := by kernel_rfl
theorem cb_73 : cb0 Tryd.prog 73 = true := by kernel_rfl
theorem cb_74 : cb0 Tryd.prog 74 = true := by kernel_rfl
theorem cb_75 : cb0 Tryd.prog 75 = true := by kernel_rfl
theorem cb_76 : cb0 Tryd.prog 76 = true := by kernel_rfl
theorem cb_77 : cb0 Tryd.prog 77 = true := by kernel_rfl
theorem cb_32 : cb0 Tryd.prog 32 = true := by kernel_rfl
theorem cb_33 : cb0 Tryd.prog 33 = true := by kernel_rfl
theorem cb_34 : cb0 Tryd.prog 34 = true := by kernel_rfl
theorem fo_123_2 : fldOff Tryd.prog 123 2 = some 2 := by kernel_rfl
theorem fo_123_3 : fldOff Tryd.prog 123 3 = some 3 := by kernel_rfl
theorem cb_98 : cb0 Tryd.prog 98 = true := by kernel_rfl
theorem cb_142 : cb0 Tryd.prog 142 = true := by kernel_rfl
theorem cb_143 : cb0 Tryd.prog 143 = true := by kernel_rfl
theorem cb_99 : cb0 Tryd.prog 99 = true := by kernel_rfl
theorem tz_123 : tyZero Tryd.prog 123 = some (.agg #[.int .i16 0, .slice none 0 0, .int .i32 0, .pointer none, .map none]) := by kernel_rfl
theorem fo_127_0 : fldOff Tryd.prog 127 0 = some 0 := by kernel_rfl
theorem cb_144 : cb0 Tryd.prog 144 = true := by kernel_rfl
theorem fo_127_1 : fldOff Tryd.prog 127 1 = some 1 := by kernel_rfl
theorem fo_162_0 : fldOff Tryd.prog 162 0 = some 0 := by kernel_rfl
theorem fo_162_1 : fldOff Tryd.prog 162 1 = some 1 := by kernel_rfl
theorem cb_163 : cb0 Tryd.prog 163 = true := by kernel_rfl
theorem fo_162_2 : fldOff Tryd.prog 162 2 = some 2 := by kernel_rfl
theorem ip_121 : isPtrTy Tryd.prog 121 = true := by kernel_rfl
theorem cb_145 : cb0 Tryd.prog 145 = true := by kernel_rfl
theorem fo_123_1 : fldOff Tryd.prog 123 1 = some 1 := by kernel_rfl
theorem ts_120 : tySz Tryd.prog 120 = some (false, 1) := by kernel_rfl
theorem te_120 : tyElem Tryd.prog 120 = some 127 := by kernel_rfl
theorem ts_127 : tySz Tryd.prog 127 = some (true, 2) := by kernel_rfl
theorem cb_100 : cb0 Tryd.prog 100 = true := by kernel_rfl
theorem ts_121 : tySz Tryd.prog 121 = some (false, 1) := by kernel_rfl
theorem cb_101 : cb0 Tryd.prog 101 = true := by kernel_rfl
theorem cb_102 : cb0 Tryd.prog 102 = true := by kernel_rfl
theorem fo_123_4 : fldOff Tryd.prog 123 4 = some 4 := by kernel_rfl
theorem fo_123_0 : fldOff Tryd.prog 123 0 = some 0 := by kernel_rfl
theorem cb_66 : cb0 Tryd.prog 66 = true := by kernel_rfl
theorem cb_67 : cb0 Tryd.prog 67 = true := by kernel_rfl
theorem cb_68 : cb0 Tryd.prog 68 = true := by kernel_rfl
theorem cb_69 : cb0 Tryd.prog 69 = true := by kernel_rfl
theorem cb_70 : cb0 Tryd.prog 70 = true := by kernel_rfl
theorem cb_71 : cb0 Tryd.prog 71 = true := by kernel_rfl
theorem cb_29 : cb0 Tryd.prog 29 = true := by kernel_rfl
theorem cb_30 : cb0 Tryd.prog 30 = true := by kernel_rfl
theorem cb_31 : cb0 Tryd.prog 31 = true := by kernel_rfl
theorem fo_57_1 : fldOff Tryd.prog 57 1 = some 1 := by kernel_rfl
theorem ts_3 : tySz Tryd.prog 3 = some (false, 1) := by kernel_rfl
theorem fo_57_2 : fldOff Tryd.prog 57 2 = some 2 := by kernel_rfl
theorem fo_57_3 : fldOff Tryd.prog 57 3 = some 3 := by kernel_rfl
theorem te_30 : tyElem Tryd.prog 30 = some 57 := by kernel_rfl
theorem ts_57 : tySz Tryd.prog 57 = some (true, 8) := by kernel_rfl
theorem tz_57 : tyZero Tryd.prog 57 = some (.agg #[.int .i64 0, .int .i64 0, .int .i64 0, .int .i64 0, .int .i64 0, .int .i64 0, .int .i64 0, .slice none 0 0]) := by kernel_rfl
theorem fo_57_4 : fldOff Tryd.prog 57 4 = some 4 := by kernel_rfl
theorem un_2 : (Tryd.prog.underlying 2).isSome = true := by kernel_rfl
theorem ti_5 : tyInt Tryd.prog 5 = some .u8 := by kernel_rfl
theorem tz_5 : tyZero Tryd.prog 5 = some (.int .u8 0) := by kernel_rfl
theorem un_141 : (Tryd.prog.underlying 141).isSome = true := by kernel_rfl
theorem ti_141 : tyInt Tryd.prog 141 = some .u64 := by kernel_rfl
theorem cb_114 : cb0 Tryd.prog 114 = true := by kernel_rfl
theorem cb_38 : cb0 Tryd.prog 38 = true := by kernel_rfl
theorem cb_112 : cb0 Tryd.prog 112 = true := by kernel_rfl
theorem cb_116 : cb0 Tryd.prog 116 = true := by kernel_rfl
theorem cb_149 : cb0 Tryd.prog 149 = true := by kernel_rfl
theorem cb_80 : cb0 Tryd.prog 80 = true := by kernel_rfl
theorem cb_151 : cb0 Tryd.prog 151 = true := by kernel_rfl
theorem cb_147 : cb0 Tryd.prog 147 = true := by kernel_rfl
theorem fo_57_0 : fldOff Tryd.prog 57 0 = some 0 := by kernel_rfl
theorem cb_148 : cb0 Tryd.prog 148 = true := by kernel_rfl
theorem fo_57_6 : fldOff Tryd.prog 57 6 = some 6 := by kernel_rfl
theorem fo_57_7 : fldOff Tryd.prog 57 7 = some 7 := by kernel_rfl
theorem ts_30 : tySz Tryd.prog 30 = some (false, 1) := by kernel_rfl
theorem cb_150 : cb0 Tryd.prog 150 = true := by kernel_rfl
theorem cb_109 : cb0 Tryd.prog 109 = true := by kernel_rfl
theorem cb_111 : cb0 Tryd.prog 111 = true := by kernel_rfl
theorem cb_110 : cb0 Tryd.prog 110 = true := by kernel_rfl
theorem cb_115 : cb0 Tryd.prog 115 = true := by kernel_rfl
theorem fo_32_0 : fldOff Tryd.prog 32 0 = some 0 := by kernel_rfl
theorem fo_32_1 : fldOff Tryd.prog 32 1 = some 1 := by kernel_rfl
theorem ts_32 : tySz Tryd.prog 32 = some (true, 2) := by kernel_rfl
theorem cb_39 : cb0 Tryd.prog 39 = true := by kernel_rfl
theorem tz_32 : tyZero Tryd.prog 32 = some (.agg #[.slice none 0 0, .int .i64 0]) := by kernel_rfl
theorem fa_57_0 : fldAt Tryd.prog 57 0 = some (0, 1) := by kernel_rfl
theorem fa_57_2 : fldAt Tryd.prog 57 2 = some (2, 1) := by kernel_rfl
theorem fa_57_3 : fldAt Tryd.prog 57 3 = some (3, 1) := by kernel_rfl
theorem fa_57_4 : fldAt Tryd.prog 57 4 = some (4, 1) := by kernel_rfl
theorem fok_57 : fldsOk Tryd.prog 57 = true := by kernel_rfl
theorem rt_30 : rowTy Tryd.prog 30 = some (57, 8, 80) := by kernel_rfl
theorem fa_32_1 : fldAt Tryd.prog 32 1 = some (1, 1) := by kernel_rfl
theorem fa_32_0 : fldAt Tryd.prog 32 0 = some (0, 1) := by kernel_rfl
theorem fok_32 : fldsOk Tryd.prog 32 = true := by kernel_rfl
theorem tz_48 : tyZero Tryd.prog 48 = some (.agg #[.int .i16 0, .int .i16 0]) := by kernel_rfl
theorem ts_48 : tySz Tryd.prog 48 = some (true, 2) := by kernel_rfl
theorem cb_78 : cb0 Tryd.prog 78 = true := by kernel_rfl
theorem fa_133_0 : fldAt Tryd.prog 133 0 = some (0, 1) := by kernel_rfl
theorem tz_133 : tyZero Tryd.prog 133 = some (.agg #[.slice none 0 0, .bool false]) := by kernel_rfl
theorem fok_133 : fldsOk Tryd.prog 133 = true := by kernel_rfl
theorem ts_133 : tySz Tryd.prog 133 = some (true, 2) := by kernel_rfl
theorem fo_48_0 : fldOff Tryd.prog 48 0 = some 0 := by kernel_rfl
theorem fo_48_1 : fldOff Tryd.prog 48 1 = some 1 := by kernel_rfl
theorem ts_46 : tySz Tryd.prog 46 = some (false, 1) := by kernel_rfl
theorem cb_79 : cb0 Tryd.prog 79 = true := by kernel_rfl
theorem un_46 : (Tryd.prog.underlying 46).isSome = true := by kernel_rfl
theorem cb_35 : cb0 Tryd.prog 35 = true := by kernel_rfl
theorem cb_36 : cb0 Tryd.prog 36 = true := by kernel_rfl
theorem cb_37 : cb0 Tryd.prog 37 = true := by kernel_rfl
theorem cb_40 : cb0 Tryd.prog 40 = true := by kernel_rfl
theorem cb_12 : cb0 Tryd.prog 12 = true := by kernel_rfl
theorem cb_11 : cb0 Tryd.prog 11 = true := by kernel_rfl
theorem cb_10 : cb0 Tryd.prog 10 = true := by kernel_rfl
theorem cb_13 : cb0 Tryd.prog 13 = true := by kernel_rfl
end Go.Proofs.YthholdjpcdpceaaDoor
