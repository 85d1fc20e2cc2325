/- Facts of the program by computation. No statement of the seat stands here. -/
import Derived.Test.YticigmdbfimfbaaGreatDoorL3
import Derived.Test.YticigmdbfimfbaaGreatDoorRows
import Derived.KernelRfl
namespace Go.Proofs.YticigmdbfimfbaaGreatDoor
open Go Go.Mk
theorem mixed : Tryz.prog.follows .mixedOrders = true := Tryz.checked.mixed
theorem te_22 : tyElem Tryz.prog 22 = some 5 := by kernel_rfl
theorem ts_5 : tySz Tryz.prog 5 = some (false, 1) := by kernel_rfl
theorem un_5 : (Tryz.prog.underlying 5).isSome = true := by kernel_rfl
theorem ti_167 : tyInt Tryz.prog 167 = some .u16 := by kernel_rfl
theorem ti_63 : tyInt Tryz.prog 63 = some .u32 := by kernel_rfl
theorem ti_103 : tyInt Tryz.prog 103 = some .u64 := by kernel_rfl
theorem fo_153_0 : fldOff Tryz.prog 153 0 = some 0 := by kernel_rfl
theorem ts_22 : tySz Tryz.prog 22 = some (false, 1) := by kernel_rfl
theorem fo_153_1 : fldOff Tryz.prog 153 1 = some 1 := by kernel_rfl
theorem ts_4 : tySz Tryz.prog 4 = some (false, 1) := by kernel_rfl
theorem ts_184 : tySz Tryz.prog 184 = some (true, 0) := by kernel_rfl
theorem cb_170 : callable Tryz.prog 170 = true := by kernel_rfl
theorem un_63 : (Tryz.prog.underlying 63).isSome = true := by kernel_rfl
theorem ti_21 : tyInt Tryz.prog 21 = some .i32 := by kernel_rfl
theorem cb_177 : callable Tryz.prog 177 = true := by kernel_rfl
theorem un_167 : (Tryz.prog.underlying 167).isSome = true := by kernel_rfl
theorem ti_46 : tyInt Tryz.prog 46 = some .i16 := by kernel_rfl
theorem cb_201 : callable Tryz.prog 201 = true := by kernel_rfl
theorem cb_178 : callable Tryz.prog 178 = true := by kernel_rfl
theorem un_103 : (Tryz.prog.underlying 103).isSome = true := by kernel_rfl
theorem ti_2 : tyInt Tryz.prog 2 = some .i64 := by kernel_rfl
theorem ts_54 : tySz Tryz.prog 54 = some (false, 1) := by kernel_rfl
theorem iy_22 : isBytesTy Tryz.prog 22 = true := by kernel_rfl
theorem is_9 : isStrTy Tryz.prog 9 = true := by kernel_rfl
theorem cb_133 : callable Tryz.prog 133 = true := by kernel_rfl
theorem un_21 : (Tryz.prog.underlying 21).isSome = true := by kernel_rfl
theorem ti_3 : tyInt Tryz.prog 3 = some .i64 := by kernel_rfl
theorem cb_144 : callable Tryz.prog 144 = true := by kernel_rfl
theorem un_46 : (Tryz.prog.underlying 46).isSome = true := by kernel_rfl
theorem cb_169 : callable Tryz.prog 169 = true := by kernel_rfl
theorem tz_9 : tyZero Tryz.prog 9 = some (.string .empty) := by kernel_rfl
theorem ts_9 : tySz Tryz.prog 9 = some (false, 1) := by kernel_rfl
theorem cb_168 : callable Tryz.prog 168 = true := by kernel_rfl
theorem cb_181 : callable Tryz.prog 181 = true := by kernel_rfl
theorem cb_167 : callable Tryz.prog 167 = true := by kernel_rfl
theorem ti_132 : tyInt Tryz.prog 132 = some .i8 := by kernel_rfl
theorem fo_92_0 : fldOff Tryz.prog 92 0 = some 0 := by kernel_rfl
theorem ts_90 : tySz Tryz.prog 90 = some (false, 1) := by kernel_rfl
theorem im_90 : isMapTy Tryz.prog 90 = true := by kernel_rfl
theorem mt_90 : mapTy Tryz.prog 90 = some (63, 22) := by kernel_rfl
theorem tz_92 : tyZero Tryz.prog 92 = some (.agg #[.map none]) := by kernel_rfl
theorem ts_92 : tySz Tryz.prog 92 = some (true, 1) := by kernel_rfl
theorem cb_171 : callable Tryz.prog 171 = true := by kernel_rfl
theorem fo_129_1 : fldOff Tryz.prog 129 1 = some 1 := by kernel_rfl
theorem ts_21 : tySz Tryz.prog 21 = some (false, 1) := by kernel_rfl
theorem fo_138_1 : fldOff Tryz.prog 138 1 = some 1 := by kernel_rfl
theorem fo_174_1 : fldOff Tryz.prog 174 1 = some 1 := by kernel_rfl
theorem cb_88 : callable Tryz.prog 88 = true := by kernel_rfl
theorem cb_102 : callable Tryz.prog 102 = true := by kernel_rfl
theorem cb_106 : callable Tryz.prog 106 = true := by kernel_rfl
theorem cb_110 : callable Tryz.prog 110 = true := by kernel_rfl
theorem cb_114 : callable Tryz.prog 114 = true := by kernel_rfl
theorem cb_119 : callable Tryz.prog 119 = true := by kernel_rfl
theorem cb_124 : callable Tryz.prog 124 = true := by kernel_rfl
theorem cb_129 : callable Tryz.prog 129 = true := by kernel_rfl
theorem cb_130 : callable Tryz.prog 130 = true := by kernel_rfl
theorem cb_131 : callable Tryz.prog 131 = true := by kernel_rfl
theorem cb_132 : callable Tryz.prog 132 = true := by kernel_rfl
theorem cb_134 : callable Tryz.prog 134 = true := by kernel_rfl
theorem cb_135 : callable Tryz.prog 135 = true := by kernel_rfl
theorem cb_136 : callable Tryz.prog 136 = true := by kernel_rfl
theorem cb_137 : callable Tryz.prog 137 = true := by kernel_rfl
theorem cb_138 : callable Tryz.prog 138 = true := by kernel_rfl
theorem cb_139 : callable Tryz.prog 139 = true := by kernel_rfl
theorem cb_145 : callable Tryz.prog 145 = true := by kernel_rfl
theorem cb_146 : callable Tryz.prog 146 = true := by kernel_rfl
theorem cb_147 : callable Tryz.prog 147 = true := by kernel_rfl
theorem cb_148 : callable Tryz.prog 148 = true := by kernel_rfl
theorem cb_150 : callable Tryz.prog 150 = true := by kernel_rfl
theorem cb_151 : callable Tryz.prog 151 = true := by kernel_rfl
theorem cb_152 : callable Tryz.prog 152 = true := by kernel_rfl
theorem cb_153 : callable Tryz.prog 153 = true := by kernel_rfl
theorem cb_155 : callable Tryz.prog 155 = true := by kernel_rfl
theorem cb_156 : callable Tryz.prog 156 = true := by kernel_rfl
theorem cb_157 : callable Tryz.prog 157 = true := by kernel_rfl
theorem cb_159 : callable Tryz.prog 159 = true := by kernel_rfl
theorem cb_160 : callable Tryz.prog 160 = true := by kernel_rfl
theorem cb_163 : callable Tryz.prog 163 = true := by kernel_rfl
theorem cb_164 : callable Tryz.prog 164 = true := by kernel_rfl
theorem fo_65_1 : fldOff Tryz.prog 65 1 = some 1 := by kernel_rfl
theorem te_24 : tyElem Tryz.prog 24 = some 65 := by kernel_rfl
theorem ts_65 : tySz Tryz.prog 65 = some (true, 2) := by kernel_rfl
theorem tz_65 : tyZero Tryz.prog 65 = some (.agg #[.int .u32 0, .slice none 0 0]) := by kernel_rfl
theorem cb_87 : callable Tryz.prog 87 = true := by kernel_rfl
theorem fo_26_1 : fldOff Tryz.prog 26 1 = some 1 := by kernel_rfl
theorem fo_26_3 : fldOff Tryz.prog 26 3 = some 3 := by kernel_rfl
theorem ts_23 : tySz Tryz.prog 23 = some (false, 1) := by kernel_rfl
theorem te_23 : tyElem Tryz.prog 23 = some 26 := by kernel_rfl
theorem fo_26_4 : fldOff Tryz.prog 26 4 = some 4 := by kernel_rfl
theorem ts_24 : tySz Tryz.prog 24 = some (false, 1) := by kernel_rfl
theorem cb_37 : callable Tryz.prog 37 = true := by kernel_rfl
theorem tz_26 : tyZero Tryz.prog 26 = some (.agg #[.int .i64 0, .slice none 0 0, .bool false, .slice none 0 0, .slice none 0 0]) := by kernel_rfl
theorem ts_26 : tySz Tryz.prog 26 = some (true, 5) := by kernel_rfl
theorem fok_26 : fldsOk Tryz.prog 26 = true := by kernel_rfl
theorem fo_51_1 : fldOff Tryz.prog 51 1 = some 1 := by kernel_rfl
theorem ts_3 : tySz Tryz.prog 3 = some (false, 1) := by kernel_rfl
theorem fo_51_2 : fldOff Tryz.prog 51 2 = some 2 := by kernel_rfl
theorem fo_26_2 : fldOff Tryz.prog 26 2 = some 2 := by kernel_rfl
theorem fo_51_3 : fldOff Tryz.prog 51 3 = some 3 := by kernel_rfl
theorem te_29 : tyElem Tryz.prog 29 = some 51 := by kernel_rfl
theorem ts_51 : tySz Tryz.prog 51 = some (true, 8) := by kernel_rfl
theorem tz_51 : tyZero Tryz.prog 51 = some (.agg #[.int .i64 0, .int .i64 0, .int .i64 0, .int .i64 0, .int .i64 0, .int .i64 0, .int .i64 0, .slice none 0 0]) := by kernel_rfl
theorem fo_51_4 : fldOff Tryz.prog 51 4 = some 4 := by kernel_rfl
theorem un_3 : (Tryz.prog.underlying 3).isSome = true := by kernel_rfl
theorem un_2 : (Tryz.prog.underlying 2).isSome = true := by kernel_rfl
theorem ti_5 : tyInt Tryz.prog 5 = some .u8 := by kernel_rfl
theorem rt_22 : rowTy Tryz.prog 22 = some (5, 1, 1) := by kernel_rfl
theorem tz_5 : tyZero Tryz.prog 5 = some (.int .u8 0) := by kernel_rfl
theorem cb_96 : callable Tryz.prog 96 = true := by kernel_rfl
theorem cb_97 : callable Tryz.prog 97 = true := by kernel_rfl
theorem cb_95 : callable Tryz.prog 95 = true := by kernel_rfl
theorem fo_65_0 : fldOff Tryz.prog 65 0 = some 0 := by kernel_rfl
theorem ts_63 : tySz Tryz.prog 63 = some (false, 1) := by kernel_rfl
theorem fok_65 : fldsOk Tryz.prog 65 = true := by kernel_rfl
theorem rt_24 : rowTy Tryz.prog 24 = some (65, 2, 32) := by kernel_rfl
theorem cz_5 : (Tryz.prog.info? 5).map (·.size) = some 1 := by kernel_rfl
theorem fo_26_0 : fldOff Tryz.prog 26 0 = some 0 := by kernel_rfl
theorem ts_2 : tySz Tryz.prog 2 = some (false, 1) := by kernel_rfl
theorem cb_51 : callable Tryz.prog 51 = true := by kernel_rfl
theorem cb_142 : callable Tryz.prog 142 = true := by kernel_rfl
theorem cb_43 : callable Tryz.prog 43 = true := by kernel_rfl
theorem cb_98 : callable Tryz.prog 98 = true := by kernel_rfl
theorem cb_99 : callable Tryz.prog 99 = true := by kernel_rfl
theorem fo_51_0 : fldOff Tryz.prog 51 0 = some 0 := by kernel_rfl
theorem cb_100 : callable Tryz.prog 100 = true := by kernel_rfl
theorem fo_51_6 : fldOff Tryz.prog 51 6 = some 6 := by kernel_rfl
theorem fo_51_7 : fldOff Tryz.prog 51 7 = some 7 := by kernel_rfl
theorem ts_29 : tySz Tryz.prog 29 = some (false, 1) := by kernel_rfl
theorem cb_143 : callable Tryz.prog 143 = true := by kernel_rfl
theorem cb_45 : callable Tryz.prog 45 = true := by kernel_rfl
theorem cb_44 : callable Tryz.prog 44 = true := by kernel_rfl
theorem cb_94 : callable Tryz.prog 94 = true := by kernel_rfl
theorem cb_49 : callable Tryz.prog 49 = true := by kernel_rfl
theorem fo_31_0 : fldOff Tryz.prog 31 0 = some 0 := by kernel_rfl
theorem fo_31_1 : fldOff Tryz.prog 31 1 = some 1 := by kernel_rfl
theorem un_132 : (Tryz.prog.underlying 132).isSome = true := by kernel_rfl
theorem fo_37_0 : fldOff Tryz.prog 37 0 = some 0 := by kernel_rfl
theorem fo_37_1 : fldOff Tryz.prog 37 1 = some 1 := by kernel_rfl
theorem fo_37_2 : fldOff Tryz.prog 37 2 = some 2 := by kernel_rfl
theorem fa_26_0 : fldAt Tryz.prog 26 0 = some (0, 1) := by kernel_rfl
theorem fa_26_1 : fldAt Tryz.prog 26 1 = some (1, 1) := by kernel_rfl
theorem fa_26_2 : fldAt Tryz.prog 26 2 = some (2, 1) := by kernel_rfl
theorem fo_37_3 : fldOff Tryz.prog 37 3 = some 3 := by kernel_rfl
theorem ts_34 : tySz Tryz.prog 34 = some (false, 1) := by kernel_rfl
theorem te_34 : tyElem Tryz.prog 34 = some 37 := by kernel_rfl
theorem ts_37 : tySz Tryz.prog 37 = some (true, 5) := by kernel_rfl
theorem tz_37 : tyZero Tryz.prog 37 = some (.agg #[.int .i64 0, .slice none 0 0, .bool false, .slice none 0 0, .slice none 0 0]) := by kernel_rfl
theorem cb_18 : callable Tryz.prog 18 = true := by kernel_rfl
theorem rt_23 : rowTy Tryz.prog 23 = some (26, 5, 88) := by kernel_rfl
theorem fo_37_4 : fldOff Tryz.prog 37 4 = some 4 := by kernel_rfl
theorem ts_35 : tySz Tryz.prog 35 = some (false, 1) := by kernel_rfl
theorem te_35 : tyElem Tryz.prog 35 = some 68 := by kernel_rfl
theorem ts_68 : tySz Tryz.prog 68 = some (true, 2) := by kernel_rfl
theorem tz_68 : tyZero Tryz.prog 68 = some (.agg #[.int .u32 0, .slice none 0 0]) := by kernel_rfl
theorem fo_68_0 : fldOff Tryz.prog 68 0 = some 0 := by kernel_rfl
theorem fo_68_1 : fldOff Tryz.prog 68 1 = some 1 := by kernel_rfl
theorem fa_65_0 : fldAt Tryz.prog 65 0 = some (0, 1) := by kernel_rfl
theorem fa_65_1 : fldAt Tryz.prog 65 1 = some (1, 1) := by kernel_rfl
theorem ib_4 : isBoolTy Tryz.prog 4 = true := by kernel_rfl
theorem cb_50 : callable Tryz.prog 50 = true := by kernel_rfl
theorem cb_48 : callable Tryz.prog 48 = true := by kernel_rfl
theorem fo_51_5 : fldOff Tryz.prog 51 5 = some 5 := by kernel_rfl
theorem cb_101 : callable Tryz.prog 101 = true := by kernel_rfl
theorem cb_16 : callable Tryz.prog 16 = true := by kernel_rfl
theorem cb_47 : callable Tryz.prog 47 = true := by kernel_rfl
theorem rt_29 : rowTy Tryz.prog 29 = some (51, 8, 80) := by kernel_rfl
theorem fa_26_3 : fldAt Tryz.prog 26 3 = some (3, 1) := by kernel_rfl
theorem fa_37_0 : fldAt Tryz.prog 37 0 = some (0, 1) := by kernel_rfl
theorem fok_37 : fldsOk Tryz.prog 37 = true := by kernel_rfl
theorem ip_89 : isPtrTy Tryz.prog 89 = true := by kernel_rfl
theorem fa_37_2 : fldAt Tryz.prog 37 2 = some (2, 1) := by kernel_rfl
theorem fa_37_1 : fldAt Tryz.prog 37 1 = some (1, 1) := by kernel_rfl
theorem tz_31 : tyZero Tryz.prog 31 = some (.agg #[.slice none 0 0, .int .i64 0]) := by kernel_rfl
theorem fa_51_0 : fldAt Tryz.prog 51 0 = some (0, 1) := by kernel_rfl
theorem fa_51_2 : fldAt Tryz.prog 51 2 = some (2, 1) := by kernel_rfl
theorem fa_51_3 : fldAt Tryz.prog 51 3 = some (3, 1) := by kernel_rfl
theorem fa_51_4 : fldAt Tryz.prog 51 4 = some (4, 1) := by kernel_rfl
theorem fok_51 : fldsOk Tryz.prog 51 = true := by kernel_rfl
theorem fa_51_1 : fldAt Tryz.prog 51 1 = some (1, 1) := by kernel_rfl
theorem fa_31_1 : fldAt Tryz.prog 31 1 = some (1, 1) := by kernel_rfl
theorem fa_31_0 : fldAt Tryz.prog 31 0 = some (0, 1) := by kernel_rfl
theorem fok_31 : fldsOk Tryz.prog 31 = true := by kernel_rfl
theorem ts_31 : tySz Tryz.prog 31 = some (true, 2) := by kernel_rfl
theorem cb_89 : callable Tryz.prog 89 = true := by kernel_rfl
theorem tz_94 : tyZero Tryz.prog 94 = some (.agg #[.int .i16 0, .string .empty, .int .i32 0, .string .empty, .pointer none, .map none]) := by kernel_rfl
theorem cb_54 : callable Tryz.prog 54 = true := by kernel_rfl
theorem fa_51_6 : fldAt Tryz.prog 51 6 = some (6, 1) := by kernel_rfl
theorem fa_51_7 : fldAt Tryz.prog 51 7 = some (7, 1) := by kernel_rfl
theorem cb_103 : callable Tryz.prog 103 = true := by kernel_rfl
theorem tz_111 : tyZero Tryz.prog 111 = some (.agg #[.int .i16 0, .int .i16 0, .slice none 0 0, .map none]) := by kernel_rfl
theorem cb_107 : callable Tryz.prog 107 = true := by kernel_rfl
theorem tz_117 : tyZero Tryz.prog 117 = some (.agg #[.int .i16 0, .int .i16 0, .pointer none, .slice none 0 0, .int .i64 0, .map none]) := by kernel_rfl
theorem cb_65 : callable Tryz.prog 65 = true := by kernel_rfl
theorem cb_111 : callable Tryz.prog 111 = true := by kernel_rfl
theorem tz_121 : tyZero Tryz.prog 121 = some (.agg #[.int .i16 0, .slice none 0 0, .map none]) := by kernel_rfl
theorem fa_51_5 : fldAt Tryz.prog 51 5 = some (5, 1) := by kernel_rfl
theorem cb_71 : callable Tryz.prog 71 = true := by kernel_rfl
theorem cb_115 : callable Tryz.prog 115 = true := by kernel_rfl
theorem tz_129 : tyZero Tryz.prog 129 = some (.agg #[.int .i16 0, .int .i32 0, .slice none 0 0, .bool false, .map none]) := by kernel_rfl
theorem cb_120 : callable Tryz.prog 120 = true := by kernel_rfl
theorem cb_77 : callable Tryz.prog 77 = true := by kernel_rfl
theorem cb_121 : callable Tryz.prog 121 = true := by kernel_rfl
theorem tz_138 : tyZero Tryz.prog 138 = some (.agg #[.int .i16 0, .int .i32 0, .slice none 0 0, .map none]) := by kernel_rfl
theorem cb_125 : callable Tryz.prog 125 = true := by kernel_rfl
theorem cb_83 : callable Tryz.prog 83 = true := by kernel_rfl
theorem cb_126 : callable Tryz.prog 126 = true := by kernel_rfl
theorem tz_146 : tyZero Tryz.prog 146 = some (.agg #[.int .i16 0, .int .i32 0, .slice none 0 0, .map none]) := by kernel_rfl
theorem te_161 : tyElem Tryz.prog 161 = some 63 := by kernel_rfl
theorem ts_161 : tySz Tryz.prog 161 = some (false, 1) := by kernel_rfl
theorem tz_161 : tyZero Tryz.prog 161 = some (.slice none 0 0) := by kernel_rfl
theorem tz_63 : tyZero Tryz.prog 63 = some (.int .u32 0) := by kernel_rfl
theorem rt_161 : rowTy Tryz.prog 161 = some (63, 1, 4) := by kernel_rfl
theorem cb_141 : callable Tryz.prog 141 = true := by kernel_rfl
theorem cb_140 : callable Tryz.prog 140 = true := by kernel_rfl
theorem cb_91 : callable Tryz.prog 91 = true := by kernel_rfl
theorem fo_134_0 : fldOff Tryz.prog 134 0 = some 0 := by kernel_rfl
theorem fo_134_1 : fldOff Tryz.prog 134 1 = some 1 := by kernel_rfl
theorem ts_46 : tySz Tryz.prog 46 = some (false, 1) := by kernel_rfl
theorem fo_134_2 : fldOff Tryz.prog 134 2 = some 2 := by kernel_rfl
theorem cb_117 : callable Tryz.prog 117 = true := by kernel_rfl
theorem fo_134_3 : fldOff Tryz.prog 134 3 = some 3 := by kernel_rfl
theorem ts_132 : tySz Tryz.prog 132 = some (false, 1) := by kernel_rfl
theorem cb_93 : callable Tryz.prog 93 = true := by kernel_rfl
theorem cb_158 : callable Tryz.prog 158 = true := by kernel_rfl
theorem fo_134_4 : fldOff Tryz.prog 134 4 = some 4 := by kernel_rfl
theorem fo_129_2 : fldOff Tryz.prog 129 2 = some 2 := by kernel_rfl
theorem ts_127 : tySz Tryz.prog 127 = some (false, 1) := by kernel_rfl
theorem te_127 : tyElem Tryz.prog 127 = some 134 := by kernel_rfl
theorem tz_4 : tyZero Tryz.prog 4 = some (.bool false) := by kernel_rfl
theorem ts_134 : tySz Tryz.prog 134 = some (true, 5) := by kernel_rfl
theorem cb_116 : callable Tryz.prog 116 = true := by kernel_rfl
theorem fo_129_3 : fldOff Tryz.prog 129 3 = some 3 := by kernel_rfl
theorem cb_118 : callable Tryz.prog 118 = true := by kernel_rfl
theorem fo_129_4 : fldOff Tryz.prog 129 4 = some 4 := by kernel_rfl
theorem fo_115_0 : fldOff Tryz.prog 115 0 = some 0 := by kernel_rfl
theorem fo_115_1 : fldOff Tryz.prog 115 1 = some 1 := by kernel_rfl
theorem fo_115_2 : fldOff Tryz.prog 115 2 = some 2 := by kernel_rfl
theorem cb_149 : callable Tryz.prog 149 = true := by kernel_rfl
theorem fo_115_3 : fldOff Tryz.prog 115 3 = some 3 := by kernel_rfl
theorem fo_111_1 : fldOff Tryz.prog 111 1 = some 1 := by kernel_rfl
theorem fo_111_2 : fldOff Tryz.prog 111 2 = some 2 := by kernel_rfl
theorem ts_109 : tySz Tryz.prog 109 = some (false, 1) := by kernel_rfl
theorem te_109 : tyElem Tryz.prog 109 = some 115 := by kernel_rfl
theorem ts_115 : tySz Tryz.prog 115 = some (true, 4) := by kernel_rfl
theorem cb_104 : callable Tryz.prog 104 = true := by kernel_rfl
theorem cb_105 : callable Tryz.prog 105 = true := by kernel_rfl
theorem fo_111_3 : fldOff Tryz.prog 111 3 = some 3 := by kernel_rfl
theorem fo_117_1 : fldOff Tryz.prog 117 1 = some 1 := by kernel_rfl
theorem fo_117_2 : fldOff Tryz.prog 117 2 = some 2 := by kernel_rfl
theorem ts_89 : tySz Tryz.prog 89 = some (false, 1) := by kernel_rfl
theorem cb_90 : callable Tryz.prog 90 = true := by kernel_rfl
theorem fo_117_3 : fldOff Tryz.prog 117 3 = some 3 := by kernel_rfl
theorem cb_108 : callable Tryz.prog 108 = true := by kernel_rfl
theorem fo_117_4 : fldOff Tryz.prog 117 4 = some 4 := by kernel_rfl
theorem cb_109 : callable Tryz.prog 109 = true := by kernel_rfl
theorem fo_117_5 : fldOff Tryz.prog 117 5 = some 5 := by kernel_rfl
theorem fo_126_0 : fldOff Tryz.prog 126 0 = some 0 := by kernel_rfl
theorem fo_126_1 : fldOff Tryz.prog 126 1 = some 1 := by kernel_rfl
theorem ts_124 : tySz Tryz.prog 124 = some (false, 1) := by kernel_rfl
theorem te_124 : tyElem Tryz.prog 124 = some 21 := by kernel_rfl
theorem cb_154 : callable Tryz.prog 154 = true := by kernel_rfl
theorem fo_126_2 : fldOff Tryz.prog 126 2 = some 2 := by kernel_rfl
theorem fo_121_1 : fldOff Tryz.prog 121 1 = some 1 := by kernel_rfl
theorem ts_119 : tySz Tryz.prog 119 = some (false, 1) := by kernel_rfl
theorem te_119 : tyElem Tryz.prog 119 = some 126 := by kernel_rfl
theorem ts_126 : tySz Tryz.prog 126 = some (true, 3) := by kernel_rfl
theorem cb_112 : callable Tryz.prog 112 = true := by kernel_rfl
theorem cb_113 : callable Tryz.prog 113 = true := by kernel_rfl
theorem fo_121_2 : fldOff Tryz.prog 121 2 = some 2 := by kernel_rfl
theorem fo_174_0 : fldOff Tryz.prog 174 0 = some 0 := by kernel_rfl
theorem fo_174_2 : fldOff Tryz.prog 174 2 = some 2 := by kernel_rfl
theorem cb_179 : callable Tryz.prog 179 = true := by kernel_rfl
theorem fo_174_3 : fldOff Tryz.prog 174 3 = some 3 := by kernel_rfl
theorem fo_143_0 : fldOff Tryz.prog 143 0 = some 0 := by kernel_rfl
theorem fo_143_1 : fldOff Tryz.prog 143 1 = some 1 := by kernel_rfl
theorem ts_141 : tySz Tryz.prog 141 = some (false, 1) := by kernel_rfl
theorem te_141 : tyElem Tryz.prog 141 = some 174 := by kernel_rfl
theorem ts_174 : tySz Tryz.prog 174 = some (true, 4) := by kernel_rfl
theorem cb_161 : callable Tryz.prog 161 = true := by kernel_rfl
theorem cb_162 : callable Tryz.prog 162 = true := by kernel_rfl
theorem fo_143_2 : fldOff Tryz.prog 143 2 = some 2 := by kernel_rfl
theorem fo_138_2 : fldOff Tryz.prog 138 2 = some 2 := by kernel_rfl
theorem ts_136 : tySz Tryz.prog 136 = some (false, 1) := by kernel_rfl
theorem te_136 : tyElem Tryz.prog 136 = some 143 := by kernel_rfl
theorem ts_143 : tySz Tryz.prog 143 = some (true, 3) := by kernel_rfl
theorem cb_122 : callable Tryz.prog 122 = true := by kernel_rfl
theorem cb_123 : callable Tryz.prog 123 = true := by kernel_rfl
theorem fo_138_3 : fldOff Tryz.prog 138 3 = some 3 := by kernel_rfl
theorem fo_178_0 : fldOff Tryz.prog 178 0 = some 0 := by kernel_rfl
theorem fo_178_1 : fldOff Tryz.prog 178 1 = some 1 := by kernel_rfl
theorem fo_178_2 : fldOff Tryz.prog 178 2 = some 2 := by kernel_rfl
theorem cb_180 : callable Tryz.prog 180 = true := by kernel_rfl
theorem fo_178_3 : fldOff Tryz.prog 178 3 = some 3 := by kernel_rfl
theorem fo_151_0 : fldOff Tryz.prog 151 0 = some 0 := by kernel_rfl
theorem fo_151_1 : fldOff Tryz.prog 151 1 = some 1 := by kernel_rfl
theorem ts_149 : tySz Tryz.prog 149 = some (false, 1) := by kernel_rfl
theorem te_149 : tyElem Tryz.prog 149 = some 178 := by kernel_rfl
theorem ts_178 : tySz Tryz.prog 178 = some (true, 4) := by kernel_rfl
theorem cb_165 : callable Tryz.prog 165 = true := by kernel_rfl
theorem cb_166 : callable Tryz.prog 166 = true := by kernel_rfl
theorem fo_151_2 : fldOff Tryz.prog 151 2 = some 2 := by kernel_rfl
theorem fo_146_1 : fldOff Tryz.prog 146 1 = some 1 := by kernel_rfl
theorem fo_146_2 : fldOff Tryz.prog 146 2 = some 2 := by kernel_rfl
theorem ts_144 : tySz Tryz.prog 144 = some (false, 1) := by kernel_rfl
theorem te_144 : tyElem Tryz.prog 144 = some 151 := by kernel_rfl
theorem ts_151 : tySz Tryz.prog 151 = some (true, 3) := by kernel_rfl
theorem cb_127 : callable Tryz.prog 127 = true := by kernel_rfl
theorem cb_128 : callable Tryz.prog 128 = true := by kernel_rfl
theorem fo_146_3 : fldOff Tryz.prog 146 3 = some 3 := by kernel_rfl
theorem fo_111_0 : fldOff Tryz.prog 111 0 = some 0 := by kernel_rfl
theorem cb_52 : callable Tryz.prog 52 = true := by kernel_rfl
theorem cb_53 : callable Tryz.prog 53 = true := by kernel_rfl
theorem cb_55 : callable Tryz.prog 55 = true := by kernel_rfl
theorem cb_56 : callable Tryz.prog 56 = true := by kernel_rfl
theorem cb_57 : callable Tryz.prog 57 = true := by kernel_rfl
theorem cb_10 : callable Tryz.prog 10 = true := by kernel_rfl
theorem cb_19 : callable Tryz.prog 19 = true := by kernel_rfl
theorem cb_20 : callable Tryz.prog 20 = true := by kernel_rfl
theorem cb_13 : callable Tryz.prog 13 = true := by kernel_rfl
theorem cb_15 : callable Tryz.prog 15 = true := by kernel_rfl
theorem cb_21 : callable Tryz.prog 21 = true := by kernel_rfl
theorem cb_17 : callable Tryz.prog 17 = true := by kernel_rfl
theorem fo_94_1 : fldOff Tryz.prog 94 1 = some 1 := by kernel_rfl
theorem fo_94_2 : fldOff Tryz.prog 94 2 = some 2 := by kernel_rfl
theorem fo_94_3 : fldOff Tryz.prog 94 3 = some 3 := by kernel_rfl
theorem fo_94_4 : fldOff Tryz.prog 94 4 = some 4 := by kernel_rfl
theorem cb_92 : callable Tryz.prog 92 = true := by kernel_rfl
theorem fo_94_5 : fldOff Tryz.prog 94 5 = some 5 := by kernel_rfl
theorem fo_94_0 : fldOff Tryz.prog 94 0 = some 0 := by kernel_rfl
theorem cb_38 : callable Tryz.prog 38 = true := by kernel_rfl
theorem cb_39 : callable Tryz.prog 39 = true := by kernel_rfl
theorem cb_40 : callable Tryz.prog 40 = true := by kernel_rfl
theorem cb_41 : callable Tryz.prog 41 = true := by kernel_rfl
theorem cb_42 : callable Tryz.prog 42 = true := by kernel_rfl
theorem cb_11 : callable Tryz.prog 11 = true := by kernel_rfl
theorem cb_12 : callable Tryz.prog 12 = true := by kernel_rfl
theorem cb_14 : callable Tryz.prog 14 = true := by kernel_rfl
theorem fo_117_0 : fldOff Tryz.prog 117 0 = some 0 := by kernel_rfl
theorem cb_58 : callable Tryz.prog 58 = true := by kernel_rfl
theorem cb_59 : callable Tryz.prog 59 = true := by kernel_rfl
theorem cb_60 : callable Tryz.prog 60 = true := by kernel_rfl
theorem cb_61 : callable Tryz.prog 61 = true := by kernel_rfl
theorem cb_62 : callable Tryz.prog 62 = true := by kernel_rfl
theorem cb_22 : callable Tryz.prog 22 = true := by kernel_rfl
theorem cb_23 : callable Tryz.prog 23 = true := by kernel_rfl
theorem cb_24 : callable Tryz.prog 24 = true := by kernel_rfl
theorem fo_121_0 : fldOff Tryz.prog 121 0 = some 0 := by kernel_rfl
theorem cb_63 : callable Tryz.prog 63 = true := by kernel_rfl
theorem cb_64 : callable Tryz.prog 64 = true := by kernel_rfl
theorem cb_66 : callable Tryz.prog 66 = true := by kernel_rfl
theorem cb_67 : callable Tryz.prog 67 = true := by kernel_rfl
theorem cb_68 : callable Tryz.prog 68 = true := by kernel_rfl
theorem cb_25 : callable Tryz.prog 25 = true := by kernel_rfl
theorem cb_26 : callable Tryz.prog 26 = true := by kernel_rfl
theorem cb_27 : callable Tryz.prog 27 = true := by kernel_rfl
theorem fo_129_0 : fldOff Tryz.prog 129 0 = some 0 := by kernel_rfl
theorem cb_69 : callable Tryz.prog 69 = true := by kernel_rfl
theorem cb_70 : callable Tryz.prog 70 = true := by kernel_rfl
theorem cb_72 : callable Tryz.prog 72 = true := by kernel_rfl
theorem cb_73 : callable Tryz.prog 73 = true := by kernel_rfl
theorem cb_74 : callable Tryz.prog 74 = true := by kernel_rfl
theorem cb_28 : callable Tryz.prog 28 = true := by kernel_rfl
theorem cb_29 : callable Tryz.prog 29 = true := by kernel_rfl
theorem cb_30 : callable Tryz.prog 30 = true := by kernel_rfl
theorem fo_138_0 : fldOff Tryz.prog 138 0 = some 0 := by kernel_rfl
theorem cb_75 : callable Tryz.prog 75 = true := by kernel_rfl
theorem cb_76 : callable Tryz.prog 76 = true := by kernel_rfl
theorem cb_78 : callable Tryz.prog 78 = true := by kernel_rfl
theorem cb_79 : callable Tryz.prog 79 = true := by kernel_rfl
theorem cb_80 : callable Tryz.prog 80 = true := by kernel_rfl
theorem cb_31 : callable Tryz.prog 31 = true := by kernel_rfl
theorem cb_32 : callable Tryz.prog 32 = true := by kernel_rfl
theorem cb_33 : callable Tryz.prog 33 = true := by kernel_rfl
theorem fo_146_0 : fldOff Tryz.prog 146 0 = some 0 := by kernel_rfl
theorem cb_81 : callable Tryz.prog 81 = true := by kernel_rfl
theorem cb_82 : callable Tryz.prog 82 = true := by kernel_rfl
theorem cb_84 : callable Tryz.prog 84 = true := by kernel_rfl
theorem cb_85 : callable Tryz.prog 85 = true := by kernel_rfl
theorem cb_86 : callable Tryz.prog 86 = true := by kernel_rfl
theorem cb_34 : callable Tryz.prog 34 = true := by kernel_rfl
theorem cb_35 : callable Tryz.prog 35 = true := by kernel_rfl
theorem cb_36 : callable Tryz.prog 36 = true := by kernel_rfl
end Go.Proofs.YticigmdbfimfbaaGreatDoor
