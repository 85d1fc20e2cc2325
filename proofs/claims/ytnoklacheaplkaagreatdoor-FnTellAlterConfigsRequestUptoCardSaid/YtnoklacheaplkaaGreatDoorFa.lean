/- Facts of the program by computation. No statement of the seat stands here. -/
import Derived.Test.YtnoklacheaplkaaGreatDoorL3
import Derived.Test.YtnoklacheaplkaaGreatDoorRows
import Derived.KernelRfl
namespace Go.Proofs.YtnoklacheaplkaaGreatDoor
open Go Go.Mk
theorem mixed : Tryz.prog.follows .mixedOrders = true := Tryz.checked.mixed
theorem te_22 : tyElem Tryz.prog 22 = some 5 := by kernel_rfl
theorem ts_5 : tySz Tryz.prog 5 = some (false, 1) := by kernel_rfl
theorem un_5 : (Tryz.prog.underlying 5).isSome = true := by kernel_rfl
theorem ti_174 : tyInt Tryz.prog 174 = some .u16 := by kernel_rfl
theorem ti_64 : tyInt Tryz.prog 64 = some .u32 := by kernel_rfl
theorem ti_124 : tyInt Tryz.prog 124 = some .u64 := by kernel_rfl
theorem fo_231_0 : fldOff Tryz.prog 231 0 = some 0 := by kernel_rfl
theorem ts_22 : tySz Tryz.prog 22 = some (false, 1) := by kernel_rfl
theorem fo_231_1 : fldOff Tryz.prog 231 1 = some 1 := by kernel_rfl
theorem ts_4 : tySz Tryz.prog 4 = some (false, 1) := by kernel_rfl
theorem ts_288 : tySz Tryz.prog 288 = some (true, 0) := by kernel_rfl
theorem cb_285 : cb0 Tryz.prog 285 = true := by kernel_rfl
theorem un_64 : (Tryz.prog.underlying 64).isSome = true := by kernel_rfl
theorem ti_21 : tyInt Tryz.prog 21 = some .i32 := by kernel_rfl
theorem cb_286 : cb0 Tryz.prog 286 = true := by kernel_rfl
theorem un_174 : (Tryz.prog.underlying 174).isSome = true := by kernel_rfl
theorem ti_46 : tyInt Tryz.prog 46 = some .i16 := by kernel_rfl
theorem cb_323 : cb0 Tryz.prog 323 = true := by kernel_rfl
theorem cb_293 : cb0 Tryz.prog 293 = true := by kernel_rfl
theorem un_124 : (Tryz.prog.underlying 124).isSome = true := by kernel_rfl
theorem ti_2 : tyInt Tryz.prog 2 = some .i64 := by kernel_rfl
theorem ts_55 : tySz Tryz.prog 55 = some (false, 1) := by kernel_rfl
theorem iy_22 : isBytesTy Tryz.prog 22 = true := by kernel_rfl
theorem is_9 : isStrTy Tryz.prog 9 = true := by kernel_rfl
theorem cb_212 : cb0 Tryz.prog 212 = true := by kernel_rfl
theorem un_21 : (Tryz.prog.underlying 21).isSome = true := by kernel_rfl
theorem ti_3 : tyInt Tryz.prog 3 = some .i64 := by kernel_rfl
theorem cb_218 : cb0 Tryz.prog 218 = true := by kernel_rfl
theorem un_46 : (Tryz.prog.underlying 46).isSome = true := by kernel_rfl
theorem cb_251 : cb0 Tryz.prog 251 = true := by kernel_rfl
theorem tz_9 : tyZero Tryz.prog 9 = some (.string .empty) := by kernel_rfl
theorem ts_9 : tySz Tryz.prog 9 = some (false, 1) := by kernel_rfl
theorem cb_295 : cb0 Tryz.prog 295 = true := by kernel_rfl
theorem cb_249 : cb0 Tryz.prog 249 = true := by kernel_rfl
theorem ti_114 : tyInt Tryz.prog 114 = some .i8 := by kernel_rfl
theorem fo_107_0 : fldOff Tryz.prog 107 0 = some 0 := by kernel_rfl
theorem ts_105 : tySz Tryz.prog 105 = some (false, 1) := by kernel_rfl
theorem im_105 : isMapTy Tryz.prog 105 = true := by kernel_rfl
theorem mt_105 : mapTy Tryz.prog 105 = some (64, 22) := by kernel_rfl
theorem tz_107 : tyZero Tryz.prog 107 = some (.agg #[.map none]) := by kernel_rfl
theorem ts_107 : tySz Tryz.prog 107 = some (true, 1) := by kernel_rfl
theorem cb_250 : cb0 Tryz.prog 250 = true := by kernel_rfl
theorem tz_143 : tyZero Tryz.prog 143 = some (.agg #[.int .u8 0, .int .u8 0, .int .u8 0, .int .u8 0, .int .u8 0, .int .u8 0, .int .u8 0, .int .u8 0, .int .u8 0, .int .u8 0, .int .u8 0, .int .u8 0, .int .u8 0, .int .u8 0, .int .u8 0, .int .u8 0]) := by kernel_rfl
theorem ts_143 : tySz Tryz.prog 143 = some (true, 16) := by kernel_rfl
theorem at_143 : tyArr Tryz.prog 143 = some (16, 5) := by kernel_rfl
theorem cz_5 : (Tryz.prog.info? 5).map (·.size) = some 1 := by kernel_rfl
theorem fo_199_2 : fldOff Tryz.prog 199 2 = some 2 := by kernel_rfl
theorem ts_21 : tySz Tryz.prog 21 = some (false, 1) := by kernel_rfl
theorem fo_199_3 : fldOff Tryz.prog 199 3 = some 3 := by kernel_rfl
theorem fo_208_2 : fldOff Tryz.prog 208 2 = some 2 := by kernel_rfl
theorem fo_208_5 : fldOff Tryz.prog 208 5 = some 5 := by kernel_rfl
theorem ts_2 : tySz Tryz.prog 2 = some (false, 1) := by kernel_rfl
theorem fo_224_5 : fldOff Tryz.prog 224 5 = some 5 := by kernel_rfl
theorem fo_272_2 : fldOff Tryz.prog 272 2 = some 2 := by kernel_rfl
theorem fo_277_2 : fldOff Tryz.prog 277 2 = some 2 := by kernel_rfl
theorem fo_277_3 : fldOff Tryz.prog 277 3 = some 3 := by kernel_rfl
theorem fo_221_5 : fldOff Tryz.prog 221 5 = some 20 := by kernel_rfl
theorem fo_221_6 : fldOff Tryz.prog 221 6 = some 21 := by kernel_rfl
theorem ts_46 : tySz Tryz.prog 46 = some (false, 1) := by kernel_rfl
theorem fo_281_3 : fldOff Tryz.prog 281 3 = some 3 := by kernel_rfl
theorem ts_114 : tySz Tryz.prog 114 = some (false, 1) := by kernel_rfl
theorem fo_285_2 : fldOff Tryz.prog 285 2 = some 2 := by kernel_rfl
theorem cb_142 : cb0 Tryz.prog 142 = true := by kernel_rfl
theorem cb_156 : cb0 Tryz.prog 156 = true := by kernel_rfl
theorem cb_160 : cb0 Tryz.prog 160 = true := by kernel_rfl
theorem cb_164 : cb0 Tryz.prog 164 = true := by kernel_rfl
theorem cb_169 : cb0 Tryz.prog 169 = true := by kernel_rfl
theorem cb_174 : cb0 Tryz.prog 174 = true := by kernel_rfl
theorem cb_180 : cb0 Tryz.prog 180 = true := by kernel_rfl
theorem cb_186 : cb0 Tryz.prog 186 = true := by kernel_rfl
theorem cb_191 : cb0 Tryz.prog 191 = true := by kernel_rfl
theorem cb_197 : cb0 Tryz.prog 197 = true := by kernel_rfl
theorem cb_202 : cb0 Tryz.prog 202 = true := by kernel_rfl
theorem cb_207 : cb0 Tryz.prog 207 = true := by kernel_rfl
theorem cb_213 : cb0 Tryz.prog 213 = true := by kernel_rfl
theorem cb_214 : cb0 Tryz.prog 214 = true := by kernel_rfl
theorem cb_215 : cb0 Tryz.prog 215 = true := by kernel_rfl
theorem cb_216 : cb0 Tryz.prog 216 = true := by kernel_rfl
theorem cb_217 : cb0 Tryz.prog 217 = true := by kernel_rfl
theorem cb_220 : cb0 Tryz.prog 220 = true := by kernel_rfl
theorem cb_222 : cb0 Tryz.prog 222 = true := by kernel_rfl
theorem cb_223 : cb0 Tryz.prog 223 = true := by kernel_rfl
theorem cb_226 : cb0 Tryz.prog 226 = true := by kernel_rfl
theorem cb_227 : cb0 Tryz.prog 227 = true := by kernel_rfl
theorem cb_228 : cb0 Tryz.prog 228 = true := by kernel_rfl
theorem cb_234 : cb0 Tryz.prog 234 = true := by kernel_rfl
theorem cb_235 : cb0 Tryz.prog 235 = true := by kernel_rfl
theorem cb_237 : cb0 Tryz.prog 237 = true := by kernel_rfl
theorem cb_238 : cb0 Tryz.prog 238 = true := by kernel_rfl
theorem cb_240 : cb0 Tryz.prog 240 = true := by kernel_rfl
theorem cb_241 : cb0 Tryz.prog 241 = true := by kernel_rfl
theorem cb_243 : cb0 Tryz.prog 243 = true := by kernel_rfl
theorem cb_244 : cb0 Tryz.prog 244 = true := by kernel_rfl
theorem cb_247 : cb0 Tryz.prog 247 = true := by kernel_rfl
theorem cb_248 : cb0 Tryz.prog 248 = true := by kernel_rfl
theorem cb_252 : cb0 Tryz.prog 252 = true := by kernel_rfl
theorem cb_253 : cb0 Tryz.prog 253 = true := by kernel_rfl
theorem cb_257 : cb0 Tryz.prog 257 = true := by kernel_rfl
theorem cb_258 : cb0 Tryz.prog 258 = true := by kernel_rfl
theorem cb_259 : cb0 Tryz.prog 259 = true := by kernel_rfl
theorem cb_263 : cb0 Tryz.prog 263 = true := by kernel_rfl
theorem cb_264 : cb0 Tryz.prog 264 = true := by kernel_rfl
theorem cb_268 : cb0 Tryz.prog 268 = true := by kernel_rfl
theorem cb_269 : cb0 Tryz.prog 269 = true := by kernel_rfl
theorem cb_270 : cb0 Tryz.prog 270 = true := by kernel_rfl
theorem cb_273 : cb0 Tryz.prog 273 = true := by kernel_rfl
theorem cb_274 : cb0 Tryz.prog 274 = true := by kernel_rfl
theorem cb_277 : cb0 Tryz.prog 277 = true := by kernel_rfl
theorem cb_278 : cb0 Tryz.prog 278 = true := by kernel_rfl
theorem cb_281 : cb0 Tryz.prog 281 = true := by kernel_rfl
theorem cb_282 : cb0 Tryz.prog 282 = true := by kernel_rfl
theorem fo_66_1 : fldOff Tryz.prog 66 1 = some 1 := by kernel_rfl
theorem te_24 : tyElem Tryz.prog 24 = some 66 := by kernel_rfl
theorem ts_66 : tySz Tryz.prog 66 = some (true, 2) := by kernel_rfl
theorem tz_66 : tyZero Tryz.prog 66 = some (.agg #[.int .u32 0, .slice none 0 0]) := by kernel_rfl
theorem cb_141 : cb0 Tryz.prog 141 = true := by kernel_rfl
theorem fo_26_1 : fldOff Tryz.prog 26 1 = some 1 := by kernel_rfl
theorem fo_26_3 : fldOff Tryz.prog 26 3 = some 3 := by kernel_rfl
theorem ts_23 : tySz Tryz.prog 23 = some (false, 1) := by kernel_rfl
theorem te_23 : tyElem Tryz.prog 23 = some 26 := by kernel_rfl
theorem fo_26_4 : fldOff Tryz.prog 26 4 = some 4 := by kernel_rfl
theorem ts_24 : tySz Tryz.prog 24 = some (false, 1) := by kernel_rfl
theorem cb_57 : cb0 Tryz.prog 57 = true := by kernel_rfl
theorem tz_26 : tyZero Tryz.prog 26 = some (.agg #[.int .i64 0, .slice none 0 0, .bool false, .slice none 0 0, .slice none 0 0]) := by kernel_rfl
theorem ts_26 : tySz Tryz.prog 26 = some (true, 5) := by kernel_rfl
theorem fok_26 : fldsOk Tryz.prog 26 = true := by kernel_rfl
theorem fo_51_1 : fldOff Tryz.prog 51 1 = some 1 := by kernel_rfl
theorem ts_3 : tySz Tryz.prog 3 = some (false, 1) := by kernel_rfl
theorem fo_51_2 : fldOff Tryz.prog 51 2 = some 2 := by kernel_rfl
theorem fo_26_2 : fldOff Tryz.prog 26 2 = some 2 := by kernel_rfl
theorem fo_51_3 : fldOff Tryz.prog 51 3 = some 3 := by kernel_rfl
theorem te_29 : tyElem Tryz.prog 29 = some 51 := by kernel_rfl
theorem ts_51 : tySz Tryz.prog 51 = some (true, 8) := by kernel_rfl
theorem tz_51 : tyZero Tryz.prog 51 = some (.agg #[.int .i64 0, .int .i64 0, .int .i64 0, .int .i64 0, .int .i64 0, .int .i64 0, .int .i64 0, .slice none 0 0]) := by kernel_rfl
theorem fo_51_4 : fldOff Tryz.prog 51 4 = some 4 := by kernel_rfl
theorem un_3 : (Tryz.prog.underlying 3).isSome = true := by kernel_rfl
theorem un_2 : (Tryz.prog.underlying 2).isSome = true := by kernel_rfl
theorem ti_5 : tyInt Tryz.prog 5 = some .u8 := by kernel_rfl
theorem rt_22 : rowTy Tryz.prog 22 = some (5, 1, 1) := by kernel_rfl
theorem tz_5 : tyZero Tryz.prog 5 = some (.int .u8 0) := by kernel_rfl
theorem cb_150 : cb0 Tryz.prog 150 = true := by kernel_rfl
theorem cb_151 : cb0 Tryz.prog 151 = true := by kernel_rfl
theorem cb_149 : cb0 Tryz.prog 149 = true := by kernel_rfl
theorem fo_66_0 : fldOff Tryz.prog 66 0 = some 0 := by kernel_rfl
theorem ts_64 : tySz Tryz.prog 64 = some (false, 1) := by kernel_rfl
theorem fok_66 : fldsOk Tryz.prog 66 = true := by kernel_rfl
theorem rt_24 : rowTy Tryz.prog 24 = some (66, 2, 32) := by kernel_rfl
theorem fo_26_0 : fldOff Tryz.prog 26 0 = some 0 := by kernel_rfl
theorem cb_72 : cb0 Tryz.prog 72 = true := by kernel_rfl
theorem cb_232 : cb0 Tryz.prog 232 = true := by kernel_rfl
theorem cb_64 : cb0 Tryz.prog 64 = true := by kernel_rfl
theorem cb_152 : cb0 Tryz.prog 152 = true := by kernel_rfl
theorem cb_153 : cb0 Tryz.prog 153 = true := by kernel_rfl
theorem fo_51_0 : fldOff Tryz.prog 51 0 = some 0 := by kernel_rfl
theorem cb_154 : cb0 Tryz.prog 154 = true := by kernel_rfl
theorem fo_51_6 : fldOff Tryz.prog 51 6 = some 6 := by kernel_rfl
theorem fo_51_7 : fldOff Tryz.prog 51 7 = some 7 := by kernel_rfl
theorem ts_29 : tySz Tryz.prog 29 = some (false, 1) := by kernel_rfl
theorem cb_233 : cb0 Tryz.prog 233 = true := by kernel_rfl
theorem cb_66 : cb0 Tryz.prog 66 = true := by kernel_rfl
theorem cb_65 : cb0 Tryz.prog 65 = true := by kernel_rfl
theorem cb_148 : cb0 Tryz.prog 148 = true := by kernel_rfl
theorem cb_70 : cb0 Tryz.prog 70 = true := by kernel_rfl
theorem fo_31_0 : fldOff Tryz.prog 31 0 = some 0 := by kernel_rfl
theorem fo_31_1 : fldOff Tryz.prog 31 1 = some 1 := by kernel_rfl
theorem un_114 : (Tryz.prog.underlying 114).isSome = true := by kernel_rfl
theorem fo_37_0 : fldOff Tryz.prog 37 0 = some 0 := by kernel_rfl
theorem fo_37_1 : fldOff Tryz.prog 37 1 = some 1 := by kernel_rfl
theorem fo_37_2 : fldOff Tryz.prog 37 2 = some 2 := by kernel_rfl
theorem fa_26_0 : fldAt Tryz.prog 26 0 = some (0, 1) := by kernel_rfl
theorem fa_26_1 : fldAt Tryz.prog 26 1 = some (1, 1) := by kernel_rfl
theorem fa_26_2 : fldAt Tryz.prog 26 2 = some (2, 1) := by kernel_rfl
theorem fo_37_3 : fldOff Tryz.prog 37 3 = some 3 := by kernel_rfl
theorem ts_34 : tySz Tryz.prog 34 = some (false, 1) := by kernel_rfl
theorem te_34 : tyElem Tryz.prog 34 = some 37 := by kernel_rfl
theorem ts_37 : tySz Tryz.prog 37 = some (true, 5) := by kernel_rfl
theorem tz_37 : tyZero Tryz.prog 37 = some (.agg #[.int .i64 0, .slice none 0 0, .bool false, .slice none 0 0, .slice none 0 0]) := by kernel_rfl
theorem cb_23 : cb0 Tryz.prog 23 = true := by kernel_rfl
theorem rt_23 : rowTy Tryz.prog 23 = some (26, 5, 88) := by kernel_rfl
theorem fo_37_4 : fldOff Tryz.prog 37 4 = some 4 := by kernel_rfl
theorem ts_35 : tySz Tryz.prog 35 = some (false, 1) := by kernel_rfl
theorem te_35 : tyElem Tryz.prog 35 = some 69 := by kernel_rfl
theorem ts_69 : tySz Tryz.prog 69 = some (true, 2) := by kernel_rfl
theorem tz_69 : tyZero Tryz.prog 69 = some (.agg #[.int .u32 0, .slice none 0 0]) := by kernel_rfl
theorem fo_69_0 : fldOff Tryz.prog 69 0 = some 0 := by kernel_rfl
theorem fo_69_1 : fldOff Tryz.prog 69 1 = some 1 := by kernel_rfl
theorem fa_66_0 : fldAt Tryz.prog 66 0 = some (0, 1) := by kernel_rfl
theorem fa_66_1 : fldAt Tryz.prog 66 1 = some (1, 1) := by kernel_rfl
theorem ib_4 : isBoolTy Tryz.prog 4 = true := by kernel_rfl
theorem cb_71 : cb0 Tryz.prog 71 = true := by kernel_rfl
theorem cb_69 : cb0 Tryz.prog 69 = true := by kernel_rfl
theorem fo_51_5 : fldOff Tryz.prog 51 5 = some 5 := by kernel_rfl
theorem cb_155 : cb0 Tryz.prog 155 = true := by kernel_rfl
theorem cb_21 : cb0 Tryz.prog 21 = true := by kernel_rfl
theorem cb_68 : cb0 Tryz.prog 68 = true := by kernel_rfl
theorem rt_29 : rowTy Tryz.prog 29 = some (51, 8, 80) := by kernel_rfl
theorem fa_26_3 : fldAt Tryz.prog 26 3 = some (3, 1) := by kernel_rfl
theorem fa_37_0 : fldAt Tryz.prog 37 0 = some (0, 1) := by kernel_rfl
theorem fok_37 : fldsOk Tryz.prog 37 = true := by kernel_rfl
theorem ip_113 : isPtrTy Tryz.prog 113 = true := by kernel_rfl
theorem fa_37_2 : fldAt Tryz.prog 37 2 = some (2, 1) := by kernel_rfl
theorem fa_37_1 : fldAt Tryz.prog 37 1 = some (1, 1) := by kernel_rfl
theorem fa_51_0 : fldAt Tryz.prog 51 0 = some (0, 1) := by kernel_rfl
theorem fa_51_2 : fldAt Tryz.prog 51 2 = some (2, 1) := by kernel_rfl
theorem fa_51_3 : fldAt Tryz.prog 51 3 = some (3, 1) := by kernel_rfl
theorem fa_51_4 : fldAt Tryz.prog 51 4 = some (4, 1) := by kernel_rfl
theorem fok_51 : fldsOk Tryz.prog 51 = true := by kernel_rfl
theorem tz_31 : tyZero Tryz.prog 31 = some (.agg #[.slice none 0 0, .int .i64 0]) := by kernel_rfl
theorem cb_60 : cb0 Tryz.prog 60 = true := by kernel_rfl
theorem fa_51_6 : fldAt Tryz.prog 51 6 = some (6, 1) := by kernel_rfl
theorem fa_51_7 : fldAt Tryz.prog 51 7 = some (7, 1) := by kernel_rfl
theorem fa_31_1 : fldAt Tryz.prog 31 1 = some (1, 1) := by kernel_rfl
theorem fa_31_0 : fldAt Tryz.prog 31 0 = some (0, 1) := by kernel_rfl
theorem fok_31 : fldsOk Tryz.prog 31 = true := by kernel_rfl
theorem ts_31 : tySz Tryz.prog 31 = some (true, 2) := by kernel_rfl
theorem cb_143 : cb0 Tryz.prog 143 = true := by kernel_rfl
theorem tz_109 : tyZero Tryz.prog 109 = some (.agg #[.int .i16 0, .int .i32 0, .slice none 0 0, .map none]) := by kernel_rfl
theorem cb_75 : cb0 Tryz.prog 75 = true := by kernel_rfl
theorem cb_157 : cb0 Tryz.prog 157 = true := by kernel_rfl
theorem tz_133 : tyZero Tryz.prog 133 = some (.agg #[.int .i16 0, .int .i32 0, .int .i16 0, .slice none 0 0, .slice none 0 0, .map none]) := by kernel_rfl
theorem cb_87 : cb0 Tryz.prog 87 = true := by kernel_rfl
theorem cb_165 : cb0 Tryz.prog 165 = true := by kernel_rfl
theorem tz_148 : tyZero Tryz.prog 148 = some (.agg #[.int .i16 0, .slice none 0 0, .bool false, .map none]) := by kernel_rfl
theorem cb_170 : cb0 Tryz.prog 170 = true := by kernel_rfl
theorem cb_93 : cb0 Tryz.prog 93 = true := by kernel_rfl
theorem cb_171 : cb0 Tryz.prog 171 = true := by kernel_rfl
theorem tz_157 : tyZero Tryz.prog 157 = some (.agg #[.int .i16 0, .int .i32 0, .slice none 0 0, .map none]) := by kernel_rfl
theorem cb_187 : cb0 Tryz.prog 187 = true := by kernel_rfl
theorem cb_113 : cb0 Tryz.prog 113 = true := by kernel_rfl
theorem cb_188 : cb0 Tryz.prog 188 = true := by kernel_rfl
theorem tz_191 : tyZero Tryz.prog 191 = some (.agg #[.int .i16 0, .slice none 0 0, .bool false, .map none]) := by kernel_rfl
theorem fa_51_1 : fldAt Tryz.prog 51 1 = some (1, 1) := by kernel_rfl
theorem fa_51_5 : fldAt Tryz.prog 51 5 = some (5, 1) := by kernel_rfl
theorem cb_198 : cb0 Tryz.prog 198 = true := by kernel_rfl
theorem cb_125 : cb0 Tryz.prog 125 = true := by kernel_rfl
theorem cb_199 : cb0 Tryz.prog 199 = true := by kernel_rfl
theorem tz_208 : tyZero Tryz.prog 208 = some (.agg #[.int .i16 0, .string .empty, .int .i32 0, .string .empty, .pointer none, .int .i64 0, .slice none 0 0, .map none]) := by kernel_rfl
theorem cb_208 : cb0 Tryz.prog 208 = true := by kernel_rfl
theorem cb_137 : cb0 Tryz.prog 137 = true := by kernel_rfl
theorem cb_209 : cb0 Tryz.prog 209 = true := by kernel_rfl
theorem tz_224 : tyZero Tryz.prog 224 = some (.agg #[.int .i16 0, .string .empty, .string .empty, .int .i64 0, .int .i16 0, .int .i32 0, .string .empty, .pointer none, .slice none 0 0, .map none]) := by kernel_rfl
theorem te_241 : tyElem Tryz.prog 241 = some 64 := by kernel_rfl
theorem ts_241 : tySz Tryz.prog 241 = some (false, 1) := by kernel_rfl
theorem tz_241 : tyZero Tryz.prog 241 = some (.slice none 0 0) := by kernel_rfl
theorem tz_64 : tyZero Tryz.prog 64 = some (.int .u32 0) := by kernel_rfl
theorem rt_241 : rowTy Tryz.prog 241 = some (64, 1, 4) := by kernel_rfl
theorem cb_231 : cb0 Tryz.prog 231 = true := by kernel_rfl
theorem cb_230 : cb0 Tryz.prog 230 = true := by kernel_rfl
theorem cb_145 : cb0 Tryz.prog 145 = true := by kernel_rfl
theorem fo_117_0 : fldOff Tryz.prog 117 0 = some 0 := by kernel_rfl
theorem fo_117_1 : fldOff Tryz.prog 117 1 = some 1 := by kernel_rfl
theorem ts_113 : tySz Tryz.prog 113 = some (false, 1) := by kernel_rfl
theorem cb_194 : cb0 Tryz.prog 194 = true := by kernel_rfl
theorem fo_117_2 : fldOff Tryz.prog 117 2 = some 2 := by kernel_rfl
theorem ts_115 : tySz Tryz.prog 115 = some (false, 1) := by kernel_rfl
theorem un_115 : (Tryz.prog.underlying 115).isSome = true := by kernel_rfl
theorem fo_117_3 : fldOff Tryz.prog 117 3 = some 3 := by kernel_rfl
theorem cb_147 : cb0 Tryz.prog 147 = true := by kernel_rfl
theorem cb_229 : cb0 Tryz.prog 229 = true := by kernel_rfl
theorem fo_117_4 : fldOff Tryz.prog 117 4 = some 4 := by kernel_rfl
theorem fo_109_1 : fldOff Tryz.prog 109 1 = some 1 := by kernel_rfl
theorem fo_109_2 : fldOff Tryz.prog 109 2 = some 2 := by kernel_rfl
theorem ts_104 : tySz Tryz.prog 104 = some (false, 1) := by kernel_rfl
theorem te_104 : tyElem Tryz.prog 104 = some 117 := by kernel_rfl
theorem tz_4 : tyZero Tryz.prog 4 = some (.bool false) := by kernel_rfl
theorem ts_117 : tySz Tryz.prog 117 = some (true, 5) := by kernel_rfl
theorem cb_144 : cb0 Tryz.prog 144 = true := by kernel_rfl
theorem cb_146 : cb0 Tryz.prog 146 = true := by kernel_rfl
theorem fo_109_3 : fldOff Tryz.prog 109 3 = some 3 := by kernel_rfl
theorem fo_109_0 : fldOff Tryz.prog 109 0 = some 0 := by kernel_rfl
theorem cb_58 : cb0 Tryz.prog 58 = true := by kernel_rfl
theorem cb_59 : cb0 Tryz.prog 59 = true := by kernel_rfl
theorem cb_61 : cb0 Tryz.prog 61 = true := by kernel_rfl
theorem cb_62 : cb0 Tryz.prog 62 = true := by kernel_rfl
theorem cb_63 : cb0 Tryz.prog 63 = true := by kernel_rfl
theorem cb_15 : cb0 Tryz.prog 15 = true := by kernel_rfl
theorem cb_16 : cb0 Tryz.prog 16 = true := by kernel_rfl
theorem cb_17 : cb0 Tryz.prog 17 = true := by kernel_rfl
theorem cb_18 : cb0 Tryz.prog 18 = true := by kernel_rfl
theorem cb_20 : cb0 Tryz.prog 20 = true := by kernel_rfl
theorem cb_19 : cb0 Tryz.prog 19 = true := by kernel_rfl
theorem cb_22 : cb0 Tryz.prog 22 = true := by kernel_rfl
theorem fo_137_0 : fldOff Tryz.prog 137 0 = some 0 := by kernel_rfl
theorem fo_137_1 : fldOff Tryz.prog 137 1 = some 1 := by kernel_rfl
theorem fo_137_2 : fldOff Tryz.prog 137 2 = some 2 := by kernel_rfl
theorem cb_236 : cb0 Tryz.prog 236 = true := by kernel_rfl
theorem fo_137_3 : fldOff Tryz.prog 137 3 = some 3 := by kernel_rfl
theorem fo_133_1 : fldOff Tryz.prog 133 1 = some 1 := by kernel_rfl
theorem fo_133_2 : fldOff Tryz.prog 133 2 = some 2 := by kernel_rfl
theorem fo_133_3 : fldOff Tryz.prog 133 3 = some 3 := by kernel_rfl
theorem ts_130 : tySz Tryz.prog 130 = some (false, 1) := by kernel_rfl
theorem te_130 : tyElem Tryz.prog 130 = some 9 := by kernel_rfl
theorem fo_133_4 : fldOff Tryz.prog 133 4 = some 4 := by kernel_rfl
theorem ts_131 : tySz Tryz.prog 131 = some (false, 1) := by kernel_rfl
theorem te_131 : tyElem Tryz.prog 131 = some 137 := by kernel_rfl
theorem ts_137 : tySz Tryz.prog 137 = some (true, 4) := by kernel_rfl
theorem cb_158 : cb0 Tryz.prog 158 = true := by kernel_rfl
theorem cb_159 : cb0 Tryz.prog 159 = true := by kernel_rfl
theorem fo_133_5 : fldOff Tryz.prog 133 5 = some 5 := by kernel_rfl
theorem fo_133_0 : fldOff Tryz.prog 133 0 = some 0 := by kernel_rfl
theorem cb_73 : cb0 Tryz.prog 73 = true := by kernel_rfl
theorem cb_74 : cb0 Tryz.prog 74 = true := by kernel_rfl
theorem cb_76 : cb0 Tryz.prog 76 = true := by kernel_rfl
theorem cb_77 : cb0 Tryz.prog 77 = true := by kernel_rfl
theorem cb_78 : cb0 Tryz.prog 78 = true := by kernel_rfl
theorem cb_24 : cb0 Tryz.prog 24 = true := by kernel_rfl
theorem cb_25 : cb0 Tryz.prog 25 = true := by kernel_rfl
theorem cb_26 : cb0 Tryz.prog 26 = true := by kernel_rfl
theorem fo_153_0 : fldOff Tryz.prog 153 0 = some 0 := by kernel_rfl
theorem fo_153_1 : fldOff Tryz.prog 153 1 = some 1 := by kernel_rfl
theorem ts_151 : tySz Tryz.prog 151 = some (false, 1) := by kernel_rfl
theorem un_151 : (Tryz.prog.underlying 151).isSome = true := by kernel_rfl
theorem fo_153_2 : fldOff Tryz.prog 153 2 = some 2 := by kernel_rfl
theorem cb_242 : cb0 Tryz.prog 242 = true := by kernel_rfl
theorem fo_153_3 : fldOff Tryz.prog 153 3 = some 3 := by kernel_rfl
theorem fo_148_1 : fldOff Tryz.prog 148 1 = some 1 := by kernel_rfl
theorem ts_146 : tySz Tryz.prog 146 = some (false, 1) := by kernel_rfl
theorem te_146 : tyElem Tryz.prog 146 = some 153 := by kernel_rfl
theorem ts_153 : tySz Tryz.prog 153 = some (true, 4) := by kernel_rfl
theorem cb_166 : cb0 Tryz.prog 166 = true := by kernel_rfl
theorem fo_148_2 : fldOff Tryz.prog 148 2 = some 2 := by kernel_rfl
theorem cb_167 : cb0 Tryz.prog 167 = true := by kernel_rfl
theorem cb_168 : cb0 Tryz.prog 168 = true := by kernel_rfl
theorem fo_148_3 : fldOff Tryz.prog 148 3 = some 3 := by kernel_rfl
theorem fo_148_0 : fldOff Tryz.prog 148 0 = some 0 := by kernel_rfl
theorem cb_85 : cb0 Tryz.prog 85 = true := by kernel_rfl
theorem cb_86 : cb0 Tryz.prog 86 = true := by kernel_rfl
theorem cb_88 : cb0 Tryz.prog 88 = true := by kernel_rfl
theorem cb_89 : cb0 Tryz.prog 89 = true := by kernel_rfl
theorem cb_90 : cb0 Tryz.prog 90 = true := by kernel_rfl
theorem cb_30 : cb0 Tryz.prog 30 = true := by kernel_rfl
theorem cb_31 : cb0 Tryz.prog 31 = true := by kernel_rfl
theorem cb_32 : cb0 Tryz.prog 32 = true := by kernel_rfl
theorem fo_252_0 : fldOff Tryz.prog 252 0 = some 0 := by kernel_rfl
theorem fo_252_1 : fldOff Tryz.prog 252 1 = some 1 := by kernel_rfl
theorem ts_250 : tySz Tryz.prog 250 = some (false, 1) := by kernel_rfl
theorem te_250 : tyElem Tryz.prog 250 = some 21 := by kernel_rfl
theorem cb_294 : cb0 Tryz.prog 294 = true := by kernel_rfl
theorem fo_252_2 : fldOff Tryz.prog 252 2 = some 2 := by kernel_rfl
theorem fo_162_0 : fldOff Tryz.prog 162 0 = some 0 := by kernel_rfl
theorem fo_162_1 : fldOff Tryz.prog 162 1 = some 1 := by kernel_rfl
theorem fo_162_2 : fldOff Tryz.prog 162 2 = some 2 := by kernel_rfl
theorem fo_162_3 : fldOff Tryz.prog 162 3 = some 3 := by kernel_rfl
theorem fo_162_4 : fldOff Tryz.prog 162 4 = some 4 := by kernel_rfl
theorem fo_162_5 : fldOff Tryz.prog 162 5 = some 5 := by kernel_rfl
theorem fo_162_6 : fldOff Tryz.prog 162 6 = some 6 := by kernel_rfl
theorem fo_162_7 : fldOff Tryz.prog 162 7 = some 7 := by kernel_rfl
theorem ts_160 : tySz Tryz.prog 160 = some (false, 1) := by kernel_rfl
theorem te_160 : tyElem Tryz.prog 160 = some 252 := by kernel_rfl
theorem ts_252 : tySz Tryz.prog 252 = some (true, 3) := by kernel_rfl
theorem cb_245 : cb0 Tryz.prog 245 = true := by kernel_rfl
theorem cb_246 : cb0 Tryz.prog 246 = true := by kernel_rfl
theorem fo_162_8 : fldOff Tryz.prog 162 8 = some 8 := by kernel_rfl
theorem fo_157_1 : fldOff Tryz.prog 157 1 = some 1 := by kernel_rfl
theorem fo_157_2 : fldOff Tryz.prog 157 2 = some 2 := by kernel_rfl
theorem ts_155 : tySz Tryz.prog 155 = some (false, 1) := by kernel_rfl
theorem te_155 : tyElem Tryz.prog 155 = some 162 := by kernel_rfl
theorem ts_162 : tySz Tryz.prog 162 = some (true, 9) := by kernel_rfl
theorem cb_172 : cb0 Tryz.prog 172 = true := by kernel_rfl
theorem cb_173 : cb0 Tryz.prog 173 = true := by kernel_rfl
theorem fo_157_3 : fldOff Tryz.prog 157 3 = some 3 := by kernel_rfl
theorem fo_157_0 : fldOff Tryz.prog 157 0 = some 0 := by kernel_rfl
theorem cb_91 : cb0 Tryz.prog 91 = true := by kernel_rfl
theorem cb_92 : cb0 Tryz.prog 92 = true := by kernel_rfl
theorem cb_94 : cb0 Tryz.prog 94 = true := by kernel_rfl
theorem cb_95 : cb0 Tryz.prog 95 = true := by kernel_rfl
theorem cb_96 : cb0 Tryz.prog 96 = true := by kernel_rfl
theorem cb_33 : cb0 Tryz.prog 33 = true := by kernel_rfl
theorem cb_34 : cb0 Tryz.prog 34 = true := by kernel_rfl
theorem cb_35 : cb0 Tryz.prog 35 = true := by kernel_rfl
theorem fo_266_0 : fldOff Tryz.prog 266 0 = some 0 := by kernel_rfl
theorem fo_266_1 : fldOff Tryz.prog 266 1 = some 1 := by kernel_rfl
theorem cb_298 : cb0 Tryz.prog 298 = true := by kernel_rfl
theorem fo_266_2 : fldOff Tryz.prog 266 2 = some 2 := by kernel_rfl
theorem fo_196_0 : fldOff Tryz.prog 196 0 = some 0 := by kernel_rfl
theorem fo_196_1 : fldOff Tryz.prog 196 1 = some 1 := by kernel_rfl
theorem fo_196_2 : fldOff Tryz.prog 196 2 = some 2 := by kernel_rfl
theorem ts_194 : tySz Tryz.prog 194 = some (false, 1) := by kernel_rfl
theorem te_194 : tyElem Tryz.prog 194 = some 266 := by kernel_rfl
theorem ts_266 : tySz Tryz.prog 266 = some (true, 3) := by kernel_rfl
theorem cb_265 : cb0 Tryz.prog 265 = true := by kernel_rfl
theorem cb_266 : cb0 Tryz.prog 266 = true := by kernel_rfl
theorem fo_196_3 : fldOff Tryz.prog 196 3 = some 3 := by kernel_rfl
theorem fo_191_1 : fldOff Tryz.prog 191 1 = some 1 := by kernel_rfl
theorem ts_189 : tySz Tryz.prog 189 = some (false, 1) := by kernel_rfl
theorem te_189 : tyElem Tryz.prog 189 = some 196 := by kernel_rfl
theorem ts_196 : tySz Tryz.prog 196 = some (true, 4) := by kernel_rfl
theorem cb_189 : cb0 Tryz.prog 189 = true := by kernel_rfl
theorem fo_191_2 : fldOff Tryz.prog 191 2 = some 2 := by kernel_rfl
theorem cb_190 : cb0 Tryz.prog 190 = true := by kernel_rfl
theorem fo_191_3 : fldOff Tryz.prog 191 3 = some 3 := by kernel_rfl
theorem fo_191_0 : fldOff Tryz.prog 191 0 = some 0 := by kernel_rfl
theorem cb_111 : cb0 Tryz.prog 111 = true := by kernel_rfl
theorem cb_112 : cb0 Tryz.prog 112 = true := by kernel_rfl
theorem cb_114 : cb0 Tryz.prog 114 = true := by kernel_rfl
theorem cb_115 : cb0 Tryz.prog 115 = true := by kernel_rfl
theorem cb_116 : cb0 Tryz.prog 116 = true := by kernel_rfl
theorem cb_42 : cb0 Tryz.prog 42 = true := by kernel_rfl
theorem cb_43 : cb0 Tryz.prog 43 = true := by kernel_rfl
theorem cb_44 : cb0 Tryz.prog 44 = true := by kernel_rfl
theorem fo_277_0 : fldOff Tryz.prog 277 0 = some 0 := by kernel_rfl
theorem fo_277_1 : fldOff Tryz.prog 277 1 = some 1 := by kernel_rfl
theorem fo_277_4 : fldOff Tryz.prog 277 4 = some 4 := by kernel_rfl
theorem cb_301 : cb0 Tryz.prog 301 = true := by kernel_rfl
theorem fo_277_5 : fldOff Tryz.prog 277 5 = some 5 := by kernel_rfl
theorem fo_213_0 : fldOff Tryz.prog 213 0 = some 0 := by kernel_rfl
theorem fo_213_1 : fldOff Tryz.prog 213 1 = some 1 := by kernel_rfl
theorem ar_143 : tyArr Tryz.prog 143 = some (16, 5) := by kernel_rfl
theorem fo_213_2 : fldOff Tryz.prog 213 2 = some 17 := by kernel_rfl
theorem ts_211 : tySz Tryz.prog 211 = some (false, 1) := by kernel_rfl
theorem te_211 : tyElem Tryz.prog 211 = some 277 := by kernel_rfl
theorem ts_277 : tySz Tryz.prog 277 = some (true, 6) := by kernel_rfl
theorem cb_275 : cb0 Tryz.prog 275 = true := by kernel_rfl
theorem cb_276 : cb0 Tryz.prog 276 = true := by kernel_rfl
theorem fo_213_3 : fldOff Tryz.prog 213 3 = some 18 := by kernel_rfl
theorem fo_208_1 : fldOff Tryz.prog 208 1 = some 1 := by kernel_rfl
theorem fo_208_3 : fldOff Tryz.prog 208 3 = some 3 := by kernel_rfl
theorem fo_208_4 : fldOff Tryz.prog 208 4 = some 4 := by kernel_rfl
theorem fo_208_6 : fldOff Tryz.prog 208 6 = some 6 := by kernel_rfl
theorem ts_206 : tySz Tryz.prog 206 = some (false, 1) := by kernel_rfl
theorem te_206 : tyElem Tryz.prog 206 = some 213 := by kernel_rfl
theorem ts_213 : tySz Tryz.prog 213 = some (true, 19) := by kernel_rfl
theorem cb_200 : cb0 Tryz.prog 200 = true := by kernel_rfl
theorem cb_201 : cb0 Tryz.prog 201 = true := by kernel_rfl
theorem fo_208_7 : fldOff Tryz.prog 208 7 = some 7 := by kernel_rfl
theorem fo_208_0 : fldOff Tryz.prog 208 0 = some 0 := by kernel_rfl
theorem cb_123 : cb0 Tryz.prog 123 = true := by kernel_rfl
theorem cb_124 : cb0 Tryz.prog 124 = true := by kernel_rfl
theorem cb_126 : cb0 Tryz.prog 126 = true := by kernel_rfl
theorem cb_127 : cb0 Tryz.prog 127 = true := by kernel_rfl
theorem cb_128 : cb0 Tryz.prog 128 = true := by kernel_rfl
theorem cb_48 : cb0 Tryz.prog 48 = true := by kernel_rfl
theorem cb_49 : cb0 Tryz.prog 49 = true := by kernel_rfl
theorem cb_50 : cb0 Tryz.prog 50 = true := by kernel_rfl
theorem fo_285_0 : fldOff Tryz.prog 285 0 = some 0 := by kernel_rfl
theorem fo_285_1 : fldOff Tryz.prog 285 1 = some 1 := by kernel_rfl
theorem fo_285_3 : fldOff Tryz.prog 285 3 = some 3 := by kernel_rfl
theorem cb_303 : cb0 Tryz.prog 303 = true := by kernel_rfl
theorem fo_285_4 : fldOff Tryz.prog 285 4 = some 4 := by kernel_rfl
theorem fo_229_0 : fldOff Tryz.prog 229 0 = some 0 := by kernel_rfl
theorem fo_229_1 : fldOff Tryz.prog 229 1 = some 1 := by kernel_rfl
theorem fo_229_2 : fldOff Tryz.prog 229 2 = some 17 := by kernel_rfl
theorem ts_227 : tySz Tryz.prog 227 = some (false, 1) := by kernel_rfl
theorem te_227 : tyElem Tryz.prog 227 = some 285 := by kernel_rfl
theorem ts_285 : tySz Tryz.prog 285 = some (true, 5) := by kernel_rfl
theorem cb_283 : cb0 Tryz.prog 283 = true := by kernel_rfl
theorem cb_284 : cb0 Tryz.prog 284 = true := by kernel_rfl
theorem fo_229_3 : fldOff Tryz.prog 229 3 = some 18 := by kernel_rfl
theorem fo_224_1 : fldOff Tryz.prog 224 1 = some 1 := by kernel_rfl
theorem fo_224_2 : fldOff Tryz.prog 224 2 = some 2 := by kernel_rfl
theorem fo_224_3 : fldOff Tryz.prog 224 3 = some 3 := by kernel_rfl
theorem fo_224_4 : fldOff Tryz.prog 224 4 = some 4 := by kernel_rfl
theorem fo_224_6 : fldOff Tryz.prog 224 6 = some 6 := by kernel_rfl
theorem fo_224_7 : fldOff Tryz.prog 224 7 = some 7 := by kernel_rfl
theorem fo_224_8 : fldOff Tryz.prog 224 8 = some 8 := by kernel_rfl
theorem ts_222 : tySz Tryz.prog 222 = some (false, 1) := by kernel_rfl
theorem te_222 : tyElem Tryz.prog 222 = some 229 := by kernel_rfl
theorem ts_229 : tySz Tryz.prog 229 = some (true, 19) := by kernel_rfl
theorem cb_210 : cb0 Tryz.prog 210 = true := by kernel_rfl
theorem cb_211 : cb0 Tryz.prog 211 = true := by kernel_rfl
theorem fo_224_9 : fldOff Tryz.prog 224 9 = some 9 := by kernel_rfl
theorem fo_224_0 : fldOff Tryz.prog 224 0 = some 0 := by kernel_rfl
theorem cb_135 : cb0 Tryz.prog 135 = true := by kernel_rfl
theorem cb_136 : cb0 Tryz.prog 136 = true := by kernel_rfl
theorem cb_138 : cb0 Tryz.prog 138 = true := by kernel_rfl
theorem cb_139 : cb0 Tryz.prog 139 = true := by kernel_rfl
theorem cb_140 : cb0 Tryz.prog 140 = true := by kernel_rfl
theorem cb_54 : cb0 Tryz.prog 54 = true := by kernel_rfl
theorem cb_55 : cb0 Tryz.prog 55 = true := by kernel_rfl
theorem cb_56 : cb0 Tryz.prog 56 = true := by kernel_rfl
end Go.Proofs.YtnoklacheaplkaaGreatDoor
