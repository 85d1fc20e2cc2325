/- Facts of the program by computation. No statement of the seat stands here. -/
import Derived.Test.YtoopklfabccmnaaGreatDoorL3
import Derived.Test.YtoopklfabccmnaaGreatDoorRows
import Derived.KernelRfl
namespace Go.Proofs.YtoopklfabccmnaaGreatDoor
open Go Go.Mk
theorem mixed:Tryz.prog.follows .mixedOrders = true:=Tryz.checked.mixed
theorem te_22:tyElem Tryz.prog 22 = some 5:=by kernel_rfl
theorem ts_5:tySz Tryz.prog 5 = some (false,1):=by kernel_rfl
theorem un_5:(Tryz.prog.underlying 5).isSome = true:=by kernel_rfl
theorem ti_145:tyInt Tryz.prog 145 = some .u16:=by kernel_rfl
theorem ti_64:tyInt Tryz.prog 64 = some .u32:=by kernel_rfl
theorem ti_113:tyInt Tryz.prog 113 = some .u64:=by kernel_rfl
theorem fo_190_0:fldOff Tryz.prog 190 0 = some 0:=by kernel_rfl
theorem ts_22:tySz Tryz.prog 22 = some (false,1):=by kernel_rfl
theorem fo_190_1:fldOff Tryz.prog 190 1 = some 1:=by kernel_rfl
theorem ts_4:tySz Tryz.prog 4 = some (false,1):=by kernel_rfl
theorem ts_252:tySz Tryz.prog 252 = some (true,0):=by kernel_rfl
theorem cb_228:cb0 Tryz.prog 228 = true:=by kernel_rfl
theorem un_64:(Tryz.prog.underlying 64).isSome = true:=by kernel_rfl
theorem ti_21:tyInt Tryz.prog 21 = some .i32:=by kernel_rfl
theorem cb_236:cb0 Tryz.prog 236 = true:=by kernel_rfl
theorem un_145:(Tryz.prog.underlying 145).isSome = true:=by kernel_rfl
theorem ti_46:tyInt Tryz.prog 46 = some .i16:=by kernel_rfl
theorem cb_249:cb0 Tryz.prog 249 = true:=by kernel_rfl
theorem cb_229:cb0 Tryz.prog 229 = true:=by kernel_rfl
theorem un_113:(Tryz.prog.underlying 113).isSome = true:=by kernel_rfl
theorem ti_2:tyInt Tryz.prog 2 = some .i64:=by kernel_rfl
theorem ts_55:tySz Tryz.prog 55 = some (false,1):=by kernel_rfl
theorem iy_22:isBytesTy Tryz.prog 22 = true:=by kernel_rfl
theorem is_9:isStrTy Tryz.prog 9 = true:=by kernel_rfl
theorem cb_160:cb0 Tryz.prog 160 = true:=by kernel_rfl
theorem un_21:(Tryz.prog.underlying 21).isSome = true:=by kernel_rfl
theorem ti_3:tyInt Tryz.prog 3 = some .i64:=by kernel_rfl
theorem cb_180:cb0 Tryz.prog 180 = true:=by kernel_rfl
theorem un_46:(Tryz.prog.underlying 46).isSome = true:=by kernel_rfl
theorem cb_191:cb0 Tryz.prog 191 = true:=by kernel_rfl
theorem tz_9:tyZero Tryz.prog 9 = some (.string .empty):=by kernel_rfl
theorem ts_9:tySz Tryz.prog 9 = some (false,1):=by kernel_rfl
theorem cb_238:cb0 Tryz.prog 238 = true:=by kernel_rfl
theorem cb_189:cb0 Tryz.prog 189 = true:=by kernel_rfl
theorem ti_211:tyInt Tryz.prog 211 = some .i8:=by kernel_rfl
theorem fo_96_0:fldOff Tryz.prog 96 0 = some 0:=by kernel_rfl
theorem ts_94:tySz Tryz.prog 94 = some (false,1):=by kernel_rfl
theorem im_94:isMapTy Tryz.prog 94 = true:=by kernel_rfl
theorem mt_94:mapTy Tryz.prog 94 = some (64,22):=by kernel_rfl
theorem tz_96:tyZero Tryz.prog 96 = some (.agg #[.map none]):=by kernel_rfl
theorem ts_96:tySz Tryz.prog 96 = some (true,1):=by kernel_rfl
theorem cb_190:cb0 Tryz.prog 190 = true:=by kernel_rfl
theorem tz_103:tyZero Tryz.prog 103 = some (.agg #[.int .u8 0,.int .u8 0,.int .u8 0,.int .u8 0,.int .u8 0,.int .u8 0,.int .u8 0,.int .u8 0,.int .u8 0,.int .u8 0,.int .u8 0,.int .u8 0,.int .u8 0,.int .u8 0,.int .u8 0,.int .u8 0]):=by kernel_rfl
theorem ts_103:tySz Tryz.prog 103 = some (true,16):=by kernel_rfl
theorem at_103:tyArr Tryz.prog 103 = some (16,5):=by kernel_rfl
theorem cz_5:(Tryz.prog.info? 5).map (·.size) = some 1:=by kernel_rfl
theorem fo_66_1:fldOff Tryz.prog 66 1 = some 1:=by kernel_rfl
theorem te_24:tyElem Tryz.prog 24 = some 66:=by kernel_rfl
theorem ts_66:tySz Tryz.prog 66 = some (true,2):=by kernel_rfl
theorem tz_66:tyZero Tryz.prog 66 = some (.agg #[.int .u32 0,.slice none 0 0]):=by kernel_rfl
theorem cb_102:cb0 Tryz.prog 102 = true:=by kernel_rfl
theorem fo_26_1:fldOff Tryz.prog 26 1 = some 1:=by kernel_rfl
theorem fo_26_3:fldOff Tryz.prog 26 3 = some 3:=by kernel_rfl
theorem ts_23:tySz Tryz.prog 23 = some (false,1):=by kernel_rfl
theorem te_23:tyElem Tryz.prog 23 = some 26:=by kernel_rfl
theorem fo_26_4:fldOff Tryz.prog 26 4 = some 4:=by kernel_rfl
theorem ts_24:tySz Tryz.prog 24 = some (false,1):=by kernel_rfl
theorem cb_41:cb0 Tryz.prog 41 = true:=by kernel_rfl
theorem tz_26:tyZero Tryz.prog 26 = some (.agg #[.int .i64 0,.slice none 0 0,.bool false,.slice none 0 0,.slice none 0 0]):=by kernel_rfl
theorem ts_26:tySz Tryz.prog 26 = some (true,5):=by kernel_rfl
theorem fok_26:fldsOk Tryz.prog 26 = true:=by kernel_rfl
theorem fo_51_1:fldOff Tryz.prog 51 1 = some 1:=by kernel_rfl
theorem ts_3:tySz Tryz.prog 3 = some (false,1):=by kernel_rfl
theorem fo_51_2:fldOff Tryz.prog 51 2 = some 2:=by kernel_rfl
theorem fo_26_2:fldOff Tryz.prog 26 2 = some 2:=by kernel_rfl
theorem fo_51_3:fldOff Tryz.prog 51 3 = some 3:=by kernel_rfl
theorem te_29:tyElem Tryz.prog 29 = some 51:=by kernel_rfl
theorem ts_51:tySz Tryz.prog 51 = some (true,8):=by kernel_rfl
theorem tz_51:tyZero Tryz.prog 51 = some (.agg #[.int .i64 0,.int .i64 0,.int .i64 0,.int .i64 0,.int .i64 0,.int .i64 0,.int .i64 0,.slice none 0 0]):=by kernel_rfl
theorem fo_51_4:fldOff Tryz.prog 51 4 = some 4:=by kernel_rfl
theorem un_3:(Tryz.prog.underlying 3).isSome = true:=by kernel_rfl
theorem un_2:(Tryz.prog.underlying 2).isSome = true:=by kernel_rfl
theorem ti_5:tyInt Tryz.prog 5 = some .u8:=by kernel_rfl
theorem rt_22:rowTy Tryz.prog 22 = some (5,1,1):=by kernel_rfl
theorem tz_5:tyZero Tryz.prog 5 = some (.int .u8 0):=by kernel_rfl
theorem cb_113:cb0 Tryz.prog 113 = true:=by kernel_rfl
theorem cb_114:cb0 Tryz.prog 114 = true:=by kernel_rfl
theorem cb_112:cb0 Tryz.prog 112 = true:=by kernel_rfl
theorem fo_66_0:fldOff Tryz.prog 66 0 = some 0:=by kernel_rfl
theorem ts_64:tySz Tryz.prog 64 = some (false,1):=by kernel_rfl
theorem fok_66:fldsOk Tryz.prog 66 = true:=by kernel_rfl
theorem rt_24:rowTy Tryz.prog 24 = some (66,2,32):=by kernel_rfl
theorem fo_26_0:fldOff Tryz.prog 26 0 = some 0:=by kernel_rfl
theorem ts_2:tySz Tryz.prog 2 = some (false,1):=by kernel_rfl
theorem cb_56:cb0 Tryz.prog 56 = true:=by kernel_rfl
theorem cb_178:cb0 Tryz.prog 178 = true:=by kernel_rfl
theorem cb_48:cb0 Tryz.prog 48 = true:=by kernel_rfl
theorem cb_115:cb0 Tryz.prog 115 = true:=by kernel_rfl
theorem cb_116:cb0 Tryz.prog 116 = true:=by kernel_rfl
theorem fo_51_0:fldOff Tryz.prog 51 0 = some 0:=by kernel_rfl
theorem cb_117:cb0 Tryz.prog 117 = true:=by kernel_rfl
theorem fo_51_6:fldOff Tryz.prog 51 6 = some 6:=by kernel_rfl
theorem fo_51_7:fldOff Tryz.prog 51 7 = some 7:=by kernel_rfl
theorem ts_29:tySz Tryz.prog 29 = some (false,1):=by kernel_rfl
theorem cb_179:cb0 Tryz.prog 179 = true:=by kernel_rfl
theorem cb_50:cb0 Tryz.prog 50 = true:=by kernel_rfl
theorem cb_49:cb0 Tryz.prog 49 = true:=by kernel_rfl
theorem cb_111:cb0 Tryz.prog 111 = true:=by kernel_rfl
theorem cb_54:cb0 Tryz.prog 54 = true:=by kernel_rfl
theorem fo_31_0:fldOff Tryz.prog 31 0 = some 0:=by kernel_rfl
theorem fo_31_1:fldOff Tryz.prog 31 1 = some 1:=by kernel_rfl
theorem un_211:(Tryz.prog.underlying 211).isSome = true:=by kernel_rfl
theorem fo_37_0:fldOff Tryz.prog 37 0 = some 0:=by kernel_rfl
theorem fo_37_1:fldOff Tryz.prog 37 1 = some 1:=by kernel_rfl
theorem fo_37_2:fldOff Tryz.prog 37 2 = some 2:=by kernel_rfl
theorem fa_26_0:fldAt Tryz.prog 26 0 = some (0,1):=by kernel_rfl
theorem fa_26_1:fldAt Tryz.prog 26 1 = some (1,1):=by kernel_rfl
theorem fa_26_2:fldAt Tryz.prog 26 2 = some (2,1):=by kernel_rfl
theorem fo_37_3:fldOff Tryz.prog 37 3 = some 3:=by kernel_rfl
theorem ts_34:tySz Tryz.prog 34 = some (false,1):=by kernel_rfl
theorem te_34:tyElem Tryz.prog 34 = some 37:=by kernel_rfl
theorem ts_37:tySz Tryz.prog 37 = some (true,5):=by kernel_rfl
theorem tz_37:tyZero Tryz.prog 37 = some (.agg #[.int .i64 0,.slice none 0 0,.bool false,.slice none 0 0,.slice none 0 0]):=by kernel_rfl
theorem cb_19:cb0 Tryz.prog 19 = true:=by kernel_rfl
theorem rt_23:rowTy Tryz.prog 23 = some (26,5,88):=by kernel_rfl
theorem fo_37_4:fldOff Tryz.prog 37 4 = some 4:=by kernel_rfl
theorem ts_35:tySz Tryz.prog 35 = some (false,1):=by kernel_rfl
theorem te_35:tyElem Tryz.prog 35 = some 69:=by kernel_rfl
theorem ts_69:tySz Tryz.prog 69 = some (true,2):=by kernel_rfl
theorem tz_69:tyZero Tryz.prog 69 = some (.agg #[.int .u32 0,.slice none 0 0]):=by kernel_rfl
theorem fo_69_0:fldOff Tryz.prog 69 0 = some 0:=by kernel_rfl
theorem fo_69_1:fldOff Tryz.prog 69 1 = some 1:=by kernel_rfl
theorem fa_66_0:fldAt Tryz.prog 66 0 = some (0,1):=by kernel_rfl
theorem fa_66_1:fldAt Tryz.prog 66 1 = some (1,1):=by kernel_rfl
theorem ib_4:isBoolTy Tryz.prog 4 = true:=by kernel_rfl
theorem cb_55:cb0 Tryz.prog 55 = true:=by kernel_rfl
theorem cb_53:cb0 Tryz.prog 53 = true:=by kernel_rfl
theorem fo_51_5:fldOff Tryz.prog 51 5 = some 5:=by kernel_rfl
theorem cb_118:cb0 Tryz.prog 118 = true:=by kernel_rfl
theorem cb_17:cb0 Tryz.prog 17 = true:=by kernel_rfl
theorem cb_52:cb0 Tryz.prog 52 = true:=by kernel_rfl
theorem rt_29:rowTy Tryz.prog 29 = some (51,8,80):=by kernel_rfl
theorem fa_26_3:fldAt Tryz.prog 26 3 = some (3,1):=by kernel_rfl
theorem fa_37_0:fldAt Tryz.prog 37 0 = some (0,1):=by kernel_rfl
theorem fok_37:fldsOk Tryz.prog 37 = true:=by kernel_rfl
theorem ip_92:isPtrTy Tryz.prog 92 = true:=by kernel_rfl
theorem fa_37_2:fldAt Tryz.prog 37 2 = some (2,1):=by kernel_rfl
theorem fa_37_1:fldAt Tryz.prog 37 1 = some (1,1):=by kernel_rfl
theorem fa_51_0:fldAt Tryz.prog 51 0 = some (0,1):=by kernel_rfl
theorem fa_51_2:fldAt Tryz.prog 51 2 = some (2,1):=by kernel_rfl
theorem fa_51_3:fldAt Tryz.prog 51 3 = some (3,1):=by kernel_rfl
theorem fa_51_4:fldAt Tryz.prog 51 4 = some (4,1):=by kernel_rfl
theorem fok_51:fldsOk Tryz.prog 51 = true:=by kernel_rfl
theorem cb_215:cb0 Tryz.prog 215 = true:=by kernel_rfl
theorem fa_51_7:fldAt Tryz.prog 51 7 = some (7,1):=by kernel_rfl
theorem cb_216:cb0 Tryz.prog 216 = true:=by kernel_rfl
theorem fa_51_6:fldAt Tryz.prog 51 6 = some (6,1):=by kernel_rfl
theorem cb_151:cb0 Tryz.prog 151 = true:=by kernel_rfl
theorem tz_31:tyZero Tryz.prog 31 = some (.agg #[.slice none 0 0,.int .i64 0]):=by kernel_rfl
theorem fa_51_1:fldAt Tryz.prog 51 1 = some (1,1):=by kernel_rfl
theorem cb_97:cb0 Tryz.prog 97 = true:=by kernel_rfl
theorem cb_98:cb0 Tryz.prog 98 = true:=by kernel_rfl
theorem fa_31_1:fldAt Tryz.prog 31 1 = some (1,1):=by kernel_rfl
theorem fa_31_0:fldAt Tryz.prog 31 0 = some (0,1):=by kernel_rfl
theorem fok_31:fldsOk Tryz.prog 31 = true:=by kernel_rfl
theorem ts_31:tySz Tryz.prog 31 = some (true,2):=by kernel_rfl
theorem fo_243_5:fldOff Tryz.prog 243 5 = some 5:=by kernel_rfl
theorem cb_150:cb0 Tryz.prog 150 = true:=by kernel_rfl
theorem cb_158:cb0 Tryz.prog 158 = true:=by kernel_rfl
theorem cb_159:cb0 Tryz.prog 159 = true:=by kernel_rfl
theorem cb_162:cb0 Tryz.prog 162 = true:=by kernel_rfl
theorem cb_164:cb0 Tryz.prog 164 = true:=by kernel_rfl
theorem cb_165:cb0 Tryz.prog 165 = true:=by kernel_rfl
theorem cb_166:cb0 Tryz.prog 166 = true:=by kernel_rfl
theorem cb_167:cb0 Tryz.prog 167 = true:=by kernel_rfl
theorem cb_168:cb0 Tryz.prog 168 = true:=by kernel_rfl
theorem cb_169:cb0 Tryz.prog 169 = true:=by kernel_rfl
theorem cb_171:cb0 Tryz.prog 171 = true:=by kernel_rfl
theorem cb_173:cb0 Tryz.prog 173 = true:=by kernel_rfl
theorem cb_193:cb0 Tryz.prog 193 = true:=by kernel_rfl
theorem cb_211:cb0 Tryz.prog 211 = true:=by kernel_rfl
theorem cb_212:cb0 Tryz.prog 212 = true:=by kernel_rfl
theorem cb_217:cb0 Tryz.prog 217 = true:=by kernel_rfl
theorem cb_218:cb0 Tryz.prog 218 = true:=by kernel_rfl
theorem cb_219:cb0 Tryz.prog 219 = true:=by kernel_rfl
theorem cb_220:cb0 Tryz.prog 220 = true:=by kernel_rfl
theorem cb_221:cb0 Tryz.prog 221 = true:=by kernel_rfl
theorem cb_222:cb0 Tryz.prog 222 = true:=by kernel_rfl
theorem cb_223:cb0 Tryz.prog 223 = true:=by kernel_rfl
theorem cb_152:cb0 Tryz.prog 152 = true:=by kernel_rfl
theorem tz_179:tyZero Tryz.prog 179 = some (.agg #[.int .i16 0,.int .i32 0,.int .i16 0,.pointer none,.int .i32 0,.slice none 0 0,.slice none 0 0,.map none]):=by kernel_rfl
theorem te_205:tyElem Tryz.prog 205 = some 64:=by kernel_rfl
theorem ts_205:tySz Tryz.prog 205 = some (false,1):=by kernel_rfl
theorem tz_205:tyZero Tryz.prog 205 = some (.slice none 0 0):=by kernel_rfl
theorem tz_64:tyZero Tryz.prog 64 = some (.int .u32 0):=by kernel_rfl
theorem rt_205:rowTy Tryz.prog 205 = some (64,1,4):=by kernel_rfl
theorem cb_177:cb0 Tryz.prog 177 = true:=by kernel_rfl
theorem cb_176:cb0 Tryz.prog 176 = true:=by kernel_rfl
theorem cb_108:cb0 Tryz.prog 108 = true:=by kernel_rfl
theorem fo_240_0:fldOff Tryz.prog 240 0 = some 0:=by kernel_rfl
theorem ts_21:tySz Tryz.prog 21 = some (false,1):=by kernel_rfl
theorem fo_240_1:fldOff Tryz.prog 240 1 = some 1:=by kernel_rfl
theorem cb_110:cb0 Tryz.prog 110 = true:=by kernel_rfl
theorem cb_270:cb0 Tryz.prog 270 = true:=by kernel_rfl
theorem fo_240_2:fldOff Tryz.prog 240 2 = some 2:=by kernel_rfl
theorem fo_248_0:fldOff Tryz.prog 248 0 = some 0:=by kernel_rfl
theorem fo_248_1:fldOff Tryz.prog 248 1 = some 1:=by kernel_rfl
theorem fo_248_2:fldOff Tryz.prog 248 2 = some 2:=by kernel_rfl
theorem ts_46:tySz Tryz.prog 46 = some (false,1):=by kernel_rfl
theorem cb_271:cb0 Tryz.prog 271 = true:=by kernel_rfl
theorem fo_248_3:fldOff Tryz.prog 248 3 = some 3:=by kernel_rfl
theorem fo_243_0:fldOff Tryz.prog 243 0 = some 0:=by kernel_rfl
theorem fo_243_1:fldOff Tryz.prog 243 1 = some 1:=by kernel_rfl
theorem fo_243_2:fldOff Tryz.prog 243 2 = some 2:=by kernel_rfl
theorem ts_92:tySz Tryz.prog 92 = some (false,1):=by kernel_rfl
theorem cb_106:cb0 Tryz.prog 106 = true:=by kernel_rfl
theorem fo_243_3:fldOff Tryz.prog 243 3 = some 3:=by kernel_rfl
theorem fo_243_4:fldOff Tryz.prog 243 4 = some 4:=by kernel_rfl
theorem cb_245:cb0 Tryz.prog 245 = true:=by kernel_rfl
theorem fo_243_6:fldOff Tryz.prog 243 6 = some 8:=by kernel_rfl
theorem cb_246:cb0 Tryz.prog 246 = true:=by kernel_rfl
theorem fo_243_7:fldOff Tryz.prog 243 7 = some 9:=by kernel_rfl
theorem ts_241:tySz Tryz.prog 241 = some (false,1):=by kernel_rfl
theorem te_241:tyElem Tryz.prog 241 = some 248:=by kernel_rfl
theorem tz_4:tyZero Tryz.prog 4 = some (.bool false):=by kernel_rfl
theorem ts_248:tySz Tryz.prog 248 = some (true,4):=by kernel_rfl
theorem cb_247:cb0 Tryz.prog 247 = true:=by kernel_rfl
theorem cb_248:cb0 Tryz.prog 248 = true:=by kernel_rfl
theorem fo_243_8:fldOff Tryz.prog 243 8 = some 10:=by kernel_rfl
theorem fo_184_0:fldOff Tryz.prog 184 0 = some 0:=by kernel_rfl
theorem ar_103:tyArr Tryz.prog 103 = some (16,5):=by kernel_rfl
theorem fo_184_1:fldOff Tryz.prog 184 1 = some 16:=by kernel_rfl
theorem ts_182:tySz Tryz.prog 182 = some (false,1):=by kernel_rfl
theorem te_182:tyElem Tryz.prog 182 = some 243:=by kernel_rfl
theorem ts_243:tySz Tryz.prog 243 = some (true,11):=by kernel_rfl
theorem cb_224:cb0 Tryz.prog 224 = true:=by kernel_rfl
theorem cb_225:cb0 Tryz.prog 225 = true:=by kernel_rfl
theorem fo_184_2:fldOff Tryz.prog 184 2 = some 17:=by kernel_rfl
theorem fo_188_0:fldOff Tryz.prog 188 0 = some 0:=by kernel_rfl
theorem fo_188_1:fldOff Tryz.prog 188 1 = some 1:=by kernel_rfl
theorem fo_188_2:fldOff Tryz.prog 188 2 = some 2:=by kernel_rfl
theorem fo_188_3:fldOff Tryz.prog 188 3 = some 3:=by kernel_rfl
theorem cb_226:cb0 Tryz.prog 226 = true:=by kernel_rfl
theorem fo_188_4:fldOff Tryz.prog 188 4 = some 4:=by kernel_rfl
theorem fo_179_1:fldOff Tryz.prog 179 1 = some 1:=by kernel_rfl
theorem fo_179_2:fldOff Tryz.prog 179 2 = some 2:=by kernel_rfl
theorem fo_179_3:fldOff Tryz.prog 179 3 = some 3:=by kernel_rfl
theorem fo_179_4:fldOff Tryz.prog 179 4 = some 4:=by kernel_rfl
theorem fo_179_5:fldOff Tryz.prog 179 5 = some 5:=by kernel_rfl
theorem ts_176:tySz Tryz.prog 176 = some (false,1):=by kernel_rfl
theorem te_176:tyElem Tryz.prog 176 = some 184:=by kernel_rfl
theorem ts_184:tySz Tryz.prog 184 = some (true,18):=by kernel_rfl
theorem cb_153:cb0 Tryz.prog 153 = true:=by kernel_rfl
theorem fo_179_6:fldOff Tryz.prog 179 6 = some 6:=by kernel_rfl
theorem ts_177:tySz Tryz.prog 177 = some (false,1):=by kernel_rfl
theorem te_177:tyElem Tryz.prog 177 = some 188:=by kernel_rfl
theorem ts_188:tySz Tryz.prog 188 = some (true,5):=by kernel_rfl
theorem cb_154:cb0 Tryz.prog 154 = true:=by kernel_rfl
theorem cb_155:cb0 Tryz.prog 155 = true:=by kernel_rfl
theorem fo_179_7:fldOff Tryz.prog 179 7 = some 7:=by kernel_rfl
theorem fo_179_0:fldOff Tryz.prog 179 0 = some 0:=by kernel_rfl
theorem cb_95:cb0 Tryz.prog 95 = true:=by kernel_rfl
theorem cb_96:cb0 Tryz.prog 96 = true:=by kernel_rfl
theorem cb_99:cb0 Tryz.prog 99 = true:=by kernel_rfl
theorem cb_100:cb0 Tryz.prog 100 = true:=by kernel_rfl
theorem cb_101:cb0 Tryz.prog 101 = true:=by kernel_rfl
theorem cb_11:cb0 Tryz.prog 11 = true:=by kernel_rfl
theorem cb_38:cb0 Tryz.prog 38 = true:=by kernel_rfl
theorem cb_39:cb0 Tryz.prog 39 = true:=by kernel_rfl
theorem cb_14:cb0 Tryz.prog 14 = true:=by kernel_rfl
theorem cb_16:cb0 Tryz.prog 16 = true:=by kernel_rfl
theorem cb_40:cb0 Tryz.prog 40 = true:=by kernel_rfl
theorem cb_18:cb0 Tryz.prog 18 = true:=by kernel_rfl
end Go.Proofs.YtoopklfabccmnaaGreatDoor
