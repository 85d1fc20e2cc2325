/- Facts of the program by computation. No statement of the seat stands here. -/
import Derived.Test.YtpjichobdalpjaaGreatDoorL5
import Derived.Test.YtpjichobdalpjaaGreatDoorRows
import Derived.KernelRfl
namespace Go.Proofs.YtpjichobdalpjaaGreatDoor
open Go Go.Mk
theorem mixed : Tryz.prog.follows .mixedOrders = true := Tryz.checked.mixed
theorem te_22 : tyElem Tryz.prog 22 = some 5 := by kernel_rfl
theorem ts_5 : tySz Tryz.prog 5 = some (false, 1) := by kernel_rfl
theorem un_5 : (Tryz.prog.underlying 5).isSome = true := by kernel_rfl
theorem ti_226 : tyInt Tryz.prog 226 = some .u16 := by kernel_rfl
theorem ti_68 : tyInt Tryz.prog 68 = some .u32 := by kernel_rfl
theorem ti_115 : tyInt Tryz.prog 115 = some .u64 := by kernel_rfl
theorem fo_197_0 : fldOff Tryz.prog 197 0 = some 0 := by kernel_rfl
theorem ts_22 : tySz Tryz.prog 22 = some (false, 1) := by kernel_rfl
theorem fo_197_1 : fldOff Tryz.prog 197 1 = some 1 := by kernel_rfl
theorem ts_4 : tySz Tryz.prog 4 = some (false, 1) := by kernel_rfl
theorem ts_245 : tySz Tryz.prog 245 = some (true, 0) := by kernel_rfl
theorem cb_216 : callable Tryz.prog 216 = true := by kernel_rfl
theorem un_68 : (Tryz.prog.underlying 68).isSome = true := by kernel_rfl
theorem ti_21 : tyInt Tryz.prog 21 = some .i32 := by kernel_rfl
theorem cb_217 : callable Tryz.prog 217 = true := by kernel_rfl
theorem un_226 : (Tryz.prog.underlying 226).isSome = true := by kernel_rfl
theorem ti_50 : tyInt Tryz.prog 50 = some .i16 := by kernel_rfl
theorem cb_237 : callable Tryz.prog 237 = true := by kernel_rfl
theorem cb_222 : callable Tryz.prog 222 = true := by kernel_rfl
theorem un_115 : (Tryz.prog.underlying 115).isSome = true := by kernel_rfl
theorem ti_2 : tyInt Tryz.prog 2 = some .i64 := by kernel_rfl
theorem ts_59 : tySz Tryz.prog 59 = some (false, 1) := by kernel_rfl
theorem iy_22 : isBytesTy Tryz.prog 22 = true := by kernel_rfl
theorem is_9 : isStrTy Tryz.prog 9 = true := by kernel_rfl
theorem cb_157 : callable Tryz.prog 157 = true := by kernel_rfl
theorem un_21 : (Tryz.prog.underlying 21).isSome = true := by kernel_rfl
theorem ti_3 : tyInt Tryz.prog 3 = some .i64 := by kernel_rfl
theorem cb_158 : callable Tryz.prog 158 = true := by kernel_rfl
theorem un_50 : (Tryz.prog.underlying 50).isSome = true := by kernel_rfl
theorem cb_220 : callable Tryz.prog 220 = true := by kernel_rfl
theorem tz_9 : tyZero Tryz.prog 9 = some (.string .empty) := by kernel_rfl
theorem ts_9 : tySz Tryz.prog 9 = some (false, 1) := by kernel_rfl
theorem cb_219 : callable Tryz.prog 219 = true := by kernel_rfl
theorem cb_236 : callable Tryz.prog 236 = true := by kernel_rfl
theorem cb_218 : callable Tryz.prog 218 = true := by kernel_rfl
theorem ti_192 : tyInt Tryz.prog 192 = some .i8 := by kernel_rfl
theorem fo_94_0 : fldOff Tryz.prog 94 0 = some 0 := by kernel_rfl
theorem ts_92 : tySz Tryz.prog 92 = some (false, 1) := by kernel_rfl
theorem im_92 : isMapTy Tryz.prog 92 = true := by kernel_rfl
theorem mt_92 : mapTy Tryz.prog 92 = some (68, 22) := by kernel_rfl
theorem tz_94 : tyZero Tryz.prog 94 = some (.agg #[.map none]) := by kernel_rfl
theorem ts_94 : tySz Tryz.prog 94 = some (true, 1) := by kernel_rfl
theorem cb_221 : callable Tryz.prog 221 = true := by kernel_rfl
theorem tz_101 : tyZero Tryz.prog 101 = some (.agg #[.int .u8 0, .int .u8 0, .int .u8 0, .int .u8 0, .int .u8 0, .int .u8 0, .int .u8 0, .int .u8 0, .int .u8 0, .int .u8 0, .int .u8 0, .int .u8 0, .int .u8 0, .int .u8 0, .int .u8 0, .int .u8 0]) := by kernel_rfl
theorem ts_101 : tySz Tryz.prog 101 = some (true, 16) := by kernel_rfl
theorem at_101 : tyArr Tryz.prog 101 = some (16, 5) := by kernel_rfl
theorem cz_5 : (Tryz.prog.info? 5).map (·.size) = some 1 := by kernel_rfl
theorem fo_144_1 : fldOff Tryz.prog 144 1 = some 1 := by kernel_rfl
theorem ts_21 : tySz Tryz.prog 21 = some (false, 1) := by kernel_rfl
theorem fo_153_2 : fldOff Tryz.prog 153 2 = some 2 := by kernel_rfl
theorem ts_2 : tySz Tryz.prog 2 = some (false, 1) := by kernel_rfl
theorem fo_176_2 : fldOff Tryz.prog 176 2 = some 2 := by kernel_rfl
theorem fo_233_3 : fldOff Tryz.prog 233 3 = some 18 := by kernel_rfl
theorem fo_233_4 : fldOff Tryz.prog 233 4 = some 19 := by kernel_rfl
theorem cb_101 : callable Tryz.prog 101 = true := by kernel_rfl
theorem cb_118 : callable Tryz.prog 118 = true := by kernel_rfl
theorem cb_125 : callable Tryz.prog 125 = true := by kernel_rfl
theorem cb_135 : callable Tryz.prog 135 = true := by kernel_rfl
theorem cb_140 : callable Tryz.prog 140 = true := by kernel_rfl
theorem cb_145 : callable Tryz.prog 145 = true := by kernel_rfl
theorem cb_148 : callable Tryz.prog 148 = true := by kernel_rfl
theorem cb_151 : callable Tryz.prog 151 = true := by kernel_rfl
theorem cb_159 : callable Tryz.prog 159 = true := by kernel_rfl
theorem cb_160 : callable Tryz.prog 160 = true := by kernel_rfl
theorem cb_161 : callable Tryz.prog 161 = true := by kernel_rfl
theorem cb_162 : callable Tryz.prog 162 = true := by kernel_rfl
theorem cb_163 : callable Tryz.prog 163 = true := by kernel_rfl
theorem cb_164 : callable Tryz.prog 164 = true := by kernel_rfl
theorem cb_165 : callable Tryz.prog 165 = true := by kernel_rfl
theorem cb_166 : callable Tryz.prog 166 = true := by kernel_rfl
theorem cb_167 : callable Tryz.prog 167 = true := by kernel_rfl
theorem cb_168 : callable Tryz.prog 168 = true := by kernel_rfl
theorem cb_169 : callable Tryz.prog 169 = true := by kernel_rfl
theorem cb_170 : callable Tryz.prog 170 = true := by kernel_rfl
theorem cb_171 : callable Tryz.prog 171 = true := by kernel_rfl
theorem cb_172 : callable Tryz.prog 172 = true := by kernel_rfl
theorem cb_173 : callable Tryz.prog 173 = true := by kernel_rfl
theorem cb_174 : callable Tryz.prog 174 = true := by kernel_rfl
theorem cb_175 : callable Tryz.prog 175 = true := by kernel_rfl
theorem cb_176 : callable Tryz.prog 176 = true := by kernel_rfl
theorem cb_177 : callable Tryz.prog 177 = true := by kernel_rfl
theorem cb_178 : callable Tryz.prog 178 = true := by kernel_rfl
theorem cb_179 : callable Tryz.prog 179 = true := by kernel_rfl
theorem cb_180 : callable Tryz.prog 180 = true := by kernel_rfl
theorem cb_189 : callable Tryz.prog 189 = true := by kernel_rfl
theorem cb_190 : callable Tryz.prog 190 = true := by kernel_rfl
theorem cb_191 : callable Tryz.prog 191 = true := by kernel_rfl
theorem cb_192 : callable Tryz.prog 192 = true := by kernel_rfl
theorem cb_193 : callable Tryz.prog 193 = true := by kernel_rfl
theorem cb_194 : callable Tryz.prog 194 = true := by kernel_rfl
theorem cb_199 : callable Tryz.prog 199 = true := by kernel_rfl
theorem cb_202 : callable Tryz.prog 202 = true := by kernel_rfl
theorem cb_205 : callable Tryz.prog 205 = true := by kernel_rfl
theorem cb_206 : callable Tryz.prog 206 = true := by kernel_rfl
theorem cb_207 : callable Tryz.prog 207 = true := by kernel_rfl
theorem cb_209 : callable Tryz.prog 209 = true := by kernel_rfl
theorem cb_211 : callable Tryz.prog 211 = true := by kernel_rfl
theorem cb_212 : callable Tryz.prog 212 = true := by kernel_rfl
theorem cb_213 : callable Tryz.prog 213 = true := by kernel_rfl
theorem cb_214 : callable Tryz.prog 214 = true := by kernel_rfl
theorem cb_215 : callable Tryz.prog 215 = true := by kernel_rfl
theorem fo_70_1 : fldOff Tryz.prog 70 1 = some 1 := by kernel_rfl
theorem te_24 : tyElem Tryz.prog 24 = some 70 := by kernel_rfl
theorem ts_70 : tySz Tryz.prog 70 = some (true, 2) := by kernel_rfl
theorem tz_70 : tyZero Tryz.prog 70 = some (.agg #[.int .u32 0, .slice none 0 0]) := by kernel_rfl
theorem cb_100 : callable Tryz.prog 100 = true := by kernel_rfl
theorem fo_26_1 : fldOff Tryz.prog 26 1 = some 1 := by kernel_rfl
theorem fo_26_3 : fldOff Tryz.prog 26 3 = some 3 := by kernel_rfl
theorem ts_23 : tySz Tryz.prog 23 = some (false, 1) := by kernel_rfl
theorem te_23 : tyElem Tryz.prog 23 = some 26 := by kernel_rfl
theorem fo_26_4 : fldOff Tryz.prog 26 4 = some 4 := by kernel_rfl
theorem ts_24 : tySz Tryz.prog 24 = some (false, 1) := by kernel_rfl
theorem cb_42 : callable Tryz.prog 42 = true := by kernel_rfl
theorem tz_26 : tyZero Tryz.prog 26 = some (.agg #[.int .i64 0, .slice none 0 0, .bool false, .slice none 0 0, .slice none 0 0]) := by kernel_rfl
theorem ts_26 : tySz Tryz.prog 26 = some (true, 5) := by kernel_rfl
theorem fok_26 : fldsOk Tryz.prog 26 = true := by kernel_rfl
theorem fo_55_1 : fldOff Tryz.prog 55 1 = some 1 := by kernel_rfl
theorem ts_3 : tySz Tryz.prog 3 = some (false, 1) := by kernel_rfl
theorem fo_55_2 : fldOff Tryz.prog 55 2 = some 2 := by kernel_rfl
theorem fo_26_2 : fldOff Tryz.prog 26 2 = some 2 := by kernel_rfl
theorem fo_55_3 : fldOff Tryz.prog 55 3 = some 3 := by kernel_rfl
theorem te_29 : tyElem Tryz.prog 29 = some 55 := by kernel_rfl
theorem ts_55 : tySz Tryz.prog 55 = some (true, 8) := by kernel_rfl
theorem tz_55 : tyZero Tryz.prog 55 = some (.agg #[.int .i64 0, .int .i64 0, .int .i64 0, .int .i64 0, .int .i64 0, .int .i64 0, .int .i64 0, .slice none 0 0]) := by kernel_rfl
theorem fo_55_4 : fldOff Tryz.prog 55 4 = some 4 := by kernel_rfl
theorem un_3 : (Tryz.prog.underlying 3).isSome = true := by kernel_rfl
theorem un_2 : (Tryz.prog.underlying 2).isSome = true := by kernel_rfl
theorem ti_5 : tyInt Tryz.prog 5 = some .u8 := by kernel_rfl
theorem rt_22 : rowTy Tryz.prog 22 = some (5, 1, 1) := by kernel_rfl
theorem tz_5 : tyZero Tryz.prog 5 = some (.int .u8 0) := by kernel_rfl
theorem cb_112 : callable Tryz.prog 112 = true := by kernel_rfl
theorem cb_113 : callable Tryz.prog 113 = true := by kernel_rfl
theorem cb_111 : callable Tryz.prog 111 = true := by kernel_rfl
theorem fo_70_0 : fldOff Tryz.prog 70 0 = some 0 := by kernel_rfl
theorem ts_68 : tySz Tryz.prog 68 = some (false, 1) := by kernel_rfl
theorem fok_70 : fldsOk Tryz.prog 70 = true := by kernel_rfl
theorem rt_24 : rowTy Tryz.prog 24 = some (70, 2, 32) := by kernel_rfl
theorem fo_26_0 : fldOff Tryz.prog 26 0 = some 0 := by kernel_rfl
theorem cb_57 : callable Tryz.prog 57 = true := by kernel_rfl
theorem cb_186 : callable Tryz.prog 186 = true := by kernel_rfl
theorem cb_50 : callable Tryz.prog 50 = true := by kernel_rfl
theorem cb_114 : callable Tryz.prog 114 = true := by kernel_rfl
theorem cb_115 : callable Tryz.prog 115 = true := by kernel_rfl
theorem fo_55_0 : fldOff Tryz.prog 55 0 = some 0 := by kernel_rfl
theorem cb_116 : callable Tryz.prog 116 = true := by kernel_rfl
theorem fo_55_6 : fldOff Tryz.prog 55 6 = some 6 := by kernel_rfl
theorem fo_55_7 : fldOff Tryz.prog 55 7 = some 7 := by kernel_rfl
theorem ts_29 : tySz Tryz.prog 29 = some (false, 1) := by kernel_rfl
theorem cb_187 : callable Tryz.prog 187 = true := by kernel_rfl
theorem cb_52 : callable Tryz.prog 52 = true := by kernel_rfl
theorem cb_51 : callable Tryz.prog 51 = true := by kernel_rfl
theorem cb_110 : callable Tryz.prog 110 = true := by kernel_rfl
theorem cb_56 : callable Tryz.prog 56 = true := by kernel_rfl
theorem fo_31_0 : fldOff Tryz.prog 31 0 = some 0 := by kernel_rfl
theorem fo_31_1 : fldOff Tryz.prog 31 1 = some 1 := by kernel_rfl
theorem cb_210 : callable Tryz.prog 210 = true := by kernel_rfl
theorem cb_203 : callable Tryz.prog 203 = true := by kernel_rfl
theorem cb_208 : callable Tryz.prog 208 = true := by kernel_rfl
theorem cb_137 : callable Tryz.prog 137 = true := by kernel_rfl
theorem cb_147 : callable Tryz.prog 147 = true := by kernel_rfl
theorem cb_235 : callable Tryz.prog 235 = true := by kernel_rfl
theorem cb_200 : callable Tryz.prog 200 = true := by kernel_rfl
theorem un_192 : (Tryz.prog.underlying 192).isSome = true := by kernel_rfl
theorem cb_132 : callable Tryz.prog 132 = true := by kernel_rfl
theorem te_220 : tyElem Tryz.prog 220 = some 68 := by kernel_rfl
theorem ts_220 : tySz Tryz.prog 220 = some (false, 1) := by kernel_rfl
theorem tz_220 : tyZero Tryz.prog 220 = some (.slice none 0 0) := by kernel_rfl
theorem tz_68 : tyZero Tryz.prog 68 = some (.int .u32 0) := by kernel_rfl
theorem rt_220 : rowTy Tryz.prog 220 = some (68, 1, 4) := by kernel_rfl
theorem cb_185 : callable Tryz.prog 185 = true := by kernel_rfl
theorem cb_184 : callable Tryz.prog 184 = true := by kernel_rfl
theorem cb_201 : callable Tryz.prog 201 = true := by kernel_rfl
theorem cb_107 : callable Tryz.prog 107 = true := by kernel_rfl
theorem cb_127 : callable Tryz.prog 127 = true := by kernel_rfl
theorem cb_128 : callable Tryz.prog 128 = true := by kernel_rfl
theorem cb_129 : callable Tryz.prog 129 = true := by kernel_rfl
theorem cb_130 : callable Tryz.prog 130 = true := by kernel_rfl
theorem cb_131 : callable Tryz.prog 131 = true := by kernel_rfl
theorem cb_133 : callable Tryz.prog 133 = true := by kernel_rfl
theorem cb_134 : callable Tryz.prog 134 = true := by kernel_rfl
theorem cb_138 : callable Tryz.prog 138 = true := by kernel_rfl
theorem cb_139 : callable Tryz.prog 139 = true := by kernel_rfl
theorem cb_143 : callable Tryz.prog 143 = true := by kernel_rfl
theorem cb_144 : callable Tryz.prog 144 = true := by kernel_rfl
theorem cb_154 : callable Tryz.prog 154 = true := by kernel_rfl
theorem tz_31 : tyZero Tryz.prog 31 = some (.agg #[.slice none 0 0, .int .i64 0]) := by kernel_rfl
theorem fa_55_0 : fldAt Tryz.prog 55 0 = some (0, 1) := by kernel_rfl
theorem fa_55_2 : fldAt Tryz.prog 55 2 = some (2, 1) := by kernel_rfl
theorem fa_55_3 : fldAt Tryz.prog 55 3 = some (3, 1) := by kernel_rfl
theorem fa_55_4 : fldAt Tryz.prog 55 4 = some (4, 1) := by kernel_rfl
theorem fa_55_6 : fldAt Tryz.prog 55 6 = some (6, 1) := by kernel_rfl
theorem fok_55 : fldsOk Tryz.prog 55 = true := by kernel_rfl
theorem rt_29 : rowTy Tryz.prog 29 = some (55, 8, 80) := by kernel_rfl
theorem fa_31_1 : fldAt Tryz.prog 31 1 = some (1, 1) := by kernel_rfl
theorem fa_31_0 : fldAt Tryz.prog 31 0 = some (0, 1) := by kernel_rfl
theorem fok_31 : fldsOk Tryz.prog 31 = true := by kernel_rfl
theorem ts_31 : tySz Tryz.prog 31 = some (true, 2) := by kernel_rfl
theorem cb_126 : callable Tryz.prog 126 = true := by kernel_rfl
theorem tz_137 : tyZero Tryz.prog 137 = some (.agg #[.int .i16 0, .slice none 0 0, .bool false, .map none]) := by kernel_rfl
theorem fo_137_0 : fldOff Tryz.prog 137 0 = some 0 := by kernel_rfl
theorem ts_50 : tySz Tryz.prog 50 = some (false, 1) := by kernel_rfl
theorem cb_65 : callable Tryz.prog 65 = true := by kernel_rfl
theorem cb_66 : callable Tryz.prog 66 = true := by kernel_rfl
theorem cb_67 : callable Tryz.prog 67 = true := by kernel_rfl
theorem cb_68 : callable Tryz.prog 68 = true := by kernel_rfl
theorem cb_69 : callable Tryz.prog 69 = true := by kernel_rfl
theorem cb_11 : callable Tryz.prog 11 = true := by kernel_rfl
theorem cb_23 : callable Tryz.prog 23 = true := by kernel_rfl
theorem cb_24 : callable Tryz.prog 24 = true := by kernel_rfl
theorem cb_14 : callable Tryz.prog 14 = true := by kernel_rfl
theorem cb_16 : callable Tryz.prog 16 = true := by kernel_rfl
theorem cb_25 : callable Tryz.prog 25 = true := by kernel_rfl
theorem cb_26 : callable Tryz.prog 26 = true := by kernel_rfl
theorem fa_55_5 : fldAt Tryz.prog 55 5 = some (5, 1) := by kernel_rfl
theorem cb_72 : callable Tryz.prog 72 = true := by kernel_rfl
theorem fa_55_7 : fldAt Tryz.prog 55 7 = some (7, 1) := by kernel_rfl
theorem cb_136 : callable Tryz.prog 136 = true := by kernel_rfl
theorem tz_144 : tyZero Tryz.prog 144 = some (.agg #[.int .i16 0, .int .i32 0, .slice none 0 0, .map none]) := by kernel_rfl
theorem fo_144_0 : fldOff Tryz.prog 144 0 = some 0 := by kernel_rfl
theorem cb_70 : callable Tryz.prog 70 = true := by kernel_rfl
theorem cb_71 : callable Tryz.prog 71 = true := by kernel_rfl
theorem cb_73 : callable Tryz.prog 73 = true := by kernel_rfl
theorem cb_74 : callable Tryz.prog 74 = true := by kernel_rfl
theorem cb_75 : callable Tryz.prog 75 = true := by kernel_rfl
theorem cb_27 : callable Tryz.prog 27 = true := by kernel_rfl
theorem cb_28 : callable Tryz.prog 28 = true := by kernel_rfl
theorem cb_29 : callable Tryz.prog 29 = true := by kernel_rfl
theorem cb_204 : callable Tryz.prog 204 = true := by kernel_rfl
theorem cb_141 : callable Tryz.prog 141 = true := by kernel_rfl
theorem cb_78 : callable Tryz.prog 78 = true := by kernel_rfl
theorem cb_142 : callable Tryz.prog 142 = true := by kernel_rfl
theorem tz_153 : tyZero Tryz.prog 153 = some (.agg #[.int .i16 0, .int .i32 0, .int .i64 0, .slice none 0 0, .map none]) := by kernel_rfl
theorem fo_153_0 : fldOff Tryz.prog 153 0 = some 0 := by kernel_rfl
theorem cb_76 : callable Tryz.prog 76 = true := by kernel_rfl
theorem cb_77 : callable Tryz.prog 77 = true := by kernel_rfl
theorem cb_79 : callable Tryz.prog 79 = true := by kernel_rfl
theorem cb_80 : callable Tryz.prog 80 = true := by kernel_rfl
theorem cb_81 : callable Tryz.prog 81 = true := by kernel_rfl
theorem cb_30 : callable Tryz.prog 30 = true := by kernel_rfl
theorem cb_31 : callable Tryz.prog 31 = true := by kernel_rfl
theorem cb_32 : callable Tryz.prog 32 = true := by kernel_rfl
theorem fa_55_1 : fldAt Tryz.prog 55 1 = some (1, 1) := by kernel_rfl
theorem cb_84 : callable Tryz.prog 84 = true := by kernel_rfl
theorem cb_146 : callable Tryz.prog 146 = true := by kernel_rfl
theorem tz_169 : tyZero Tryz.prog 169 = some (.agg #[.int .i16 0, .int .i32 0, .int .i16 0, .slice none 0 0, .map none]) := by kernel_rfl
theorem fo_169_0 : fldOff Tryz.prog 169 0 = some 0 := by kernel_rfl
theorem cb_82 : callable Tryz.prog 82 = true := by kernel_rfl
theorem cb_83 : callable Tryz.prog 83 = true := by kernel_rfl
theorem cb_85 : callable Tryz.prog 85 = true := by kernel_rfl
theorem cb_86 : callable Tryz.prog 86 = true := by kernel_rfl
theorem cb_87 : callable Tryz.prog 87 = true := by kernel_rfl
theorem cb_33 : callable Tryz.prog 33 = true := by kernel_rfl
theorem cb_34 : callable Tryz.prog 34 = true := by kernel_rfl
theorem cb_35 : callable Tryz.prog 35 = true := by kernel_rfl
theorem cb_149 : callable Tryz.prog 149 = true := by kernel_rfl
theorem cb_90 : callable Tryz.prog 90 = true := by kernel_rfl
theorem cb_150 : callable Tryz.prog 150 = true := by kernel_rfl
theorem tz_176 : tyZero Tryz.prog 176 = some (.agg #[.int .i16 0, .slice none 0 0, .int .i32 0, .bool false, .map none]) := by kernel_rfl
theorem fo_176_0 : fldOff Tryz.prog 176 0 = some 0 := by kernel_rfl
theorem cb_88 : callable Tryz.prog 88 = true := by kernel_rfl
theorem cb_89 : callable Tryz.prog 89 = true := by kernel_rfl
theorem cb_91 : callable Tryz.prog 91 = true := by kernel_rfl
theorem cb_92 : callable Tryz.prog 92 = true := by kernel_rfl
theorem cb_93 : callable Tryz.prog 93 = true := by kernel_rfl
theorem cb_36 : callable Tryz.prog 36 = true := by kernel_rfl
theorem cb_37 : callable Tryz.prog 37 = true := by kernel_rfl
theorem cb_38 : callable Tryz.prog 38 = true := by kernel_rfl
theorem cb_152 : callable Tryz.prog 152 = true := by kernel_rfl
theorem cb_96 : callable Tryz.prog 96 = true := by kernel_rfl
theorem cb_153 : callable Tryz.prog 153 = true := by kernel_rfl
theorem tz_186 : tyZero Tryz.prog 186 = some (.agg #[.int .i16 0, .int .i32 0, .int .i16 0, .slice none 0 0, .map none]) := by kernel_rfl
theorem fo_186_0 : fldOff Tryz.prog 186 0 = some 0 := by kernel_rfl
theorem cb_94 : callable Tryz.prog 94 = true := by kernel_rfl
theorem cb_95 : callable Tryz.prog 95 = true := by kernel_rfl
theorem cb_97 : callable Tryz.prog 97 = true := by kernel_rfl
theorem cb_98 : callable Tryz.prog 98 = true := by kernel_rfl
theorem cb_99 : callable Tryz.prog 99 = true := by kernel_rfl
theorem cb_39 : callable Tryz.prog 39 = true := by kernel_rfl
theorem cb_40 : callable Tryz.prog 40 = true := by kernel_rfl
theorem cb_41 : callable Tryz.prog 41 = true := by kernel_rfl
theorem fo_208_5 : fldOff Tryz.prog 208 5 = some 5 := by kernel_rfl
end Go.Proofs.YtpjichobdalpjaaGreatDoor
