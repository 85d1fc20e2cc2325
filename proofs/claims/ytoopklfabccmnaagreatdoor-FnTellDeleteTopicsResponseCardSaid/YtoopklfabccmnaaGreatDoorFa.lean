/- Facts of the program by computation. No statement of the seat stands here. -/
import Derived.Test.YtoopklfabccmnaaGreatDoorL3
import Derived.Test.YtoopklfabccmnaaGreatDoorRows
import Derived.KernelRfl
namespace Go.Proofs.YtoopklfabccmnaaGreatDoor
open Go Go.Mk
theorem mixed : Tryz.prog.follows .mixedOrders = true := Tryz.checked.mixed
theorem te_22 : tyElem Tryz.prog 22 = some 5 := by kernel_rfl
theorem ts_5 : tySz Tryz.prog 5 = some (false, 1) := by kernel_rfl
theorem un_5 : (Tryz.prog.underlying 5).isSome = true := by kernel_rfl
theorem ti_145 : tyInt Tryz.prog 145 = some .u16 := by kernel_rfl
theorem ti_64 : tyInt Tryz.prog 64 = some .u32 := by kernel_rfl
theorem ti_113 : tyInt Tryz.prog 113 = some .u64 := by kernel_rfl
theorem fo_190_0 : fldOff Tryz.prog 190 0 = some 0 := by kernel_rfl
theorem ts_22 : tySz Tryz.prog 22 = some (false, 1) := by kernel_rfl
theorem fo_190_1 : fldOff Tryz.prog 190 1 = some 1 := by kernel_rfl
theorem ts_4 : tySz Tryz.prog 4 = some (false, 1) := by kernel_rfl
theorem ts_252 : tySz Tryz.prog 252 = some (true, 0) := by kernel_rfl
theorem cb_228 : cb0 Tryz.prog 228 = true := by kernel_rfl
theorem un_64 : (Tryz.prog.underlying 64).isSome = true := by kernel_rfl
theorem ti_21 : tyInt Tryz.prog 21 = some .i32 := by kernel_rfl
theorem cb_236 : cb0 Tryz.prog 236 = true := by kernel_rfl
theorem un_145 : (Tryz.prog.underlying 145).isSome = true := by kernel_rfl
theorem ti_46 : tyInt Tryz.prog 46 = some .i16 := by kernel_rfl
theorem cb_249 : cb0 Tryz.prog 249 = true := by kernel_rfl
theorem cb_229 : cb0 Tryz.prog 229 = true := by kernel_rfl
theorem un_113 : (Tryz.prog.underlying 113).isSome = true := by kernel_rfl
theorem ti_2 : tyInt Tryz.prog 2 = some .i64 := by kernel_rfl
theorem ts_55 : tySz Tryz.prog 55 = some (false, 1) := by kernel_rfl
theorem iy_22 : isBytesTy Tryz.prog 22 = true := by kernel_rfl
theorem is_9 : isStrTy Tryz.prog 9 = true := by kernel_rfl
theorem cb_160 : cb0 Tryz.prog 160 = true := by kernel_rfl
theorem un_21 : (Tryz.prog.underlying 21).isSome = true := by kernel_rfl
theorem ti_3 : tyInt Tryz.prog 3 = some .i64 := by kernel_rfl
theorem cb_180 : cb0 Tryz.prog 180 = true := by kernel_rfl
theorem un_46 : (Tryz.prog.underlying 46).isSome = true := by kernel_rfl
theorem cb_191 : cb0 Tryz.prog 191 = true := by kernel_rfl
theorem tz_9 : tyZero Tryz.prog 9 = some (.string .empty) := by kernel_rfl
theorem ts_9 : tySz Tryz.prog 9 = some (false, 1) := by kernel_rfl
theorem cb_238 : cb0 Tryz.prog 238 = true := by kernel_rfl
theorem cb_189 : cb0 Tryz.prog 189 = true := by kernel_rfl
theorem ti_211 : tyInt Tryz.prog 211 = some .i8 := by kernel_rfl
theorem fo_96_0 : fldOff Tryz.prog 96 0 = some 0 := by kernel_rfl
theorem ts_94 : tySz Tryz.prog 94 = some (false, 1) := by kernel_rfl
theorem im_94 : isMapTy Tryz.prog 94 = true := by kernel_rfl
theorem mt_94 : mapTy Tryz.prog 94 = some (64, 22) := by kernel_rfl
theorem tz_96 : tyZero Tryz.prog 96 = some (.agg #[.map none]) := by kernel_rfl
theorem ts_96 : tySz Tryz.prog 96 = some (true, 1) := by kernel_rfl
theorem cb_190 : cb0 Tryz.prog 190 = true := by kernel_rfl
theorem tz_103 : tyZero Tryz.prog 103 = some (.agg #[.int .u8 0, .int .u8 0, .int .u8 0, .int .u8 0, .int .u8 0, .int .u8 0, .int .u8 0, .int .u8 0, .int .u8 0, .int .u8 0, .int .u8 0, .int .u8 0, .int .u8 0, .int .u8 0, .int .u8 0, .int .u8 0]) := by kernel_rfl
theorem ts_103 : tySz Tryz.prog 103 = some (true, 16) := by kernel_rfl
theorem at_103 : tyArr Tryz.prog 103 = some (16, 5) := by kernel_rfl
theorem cz_5 : (Tryz.prog.info? 5).map (·.size) = some 1 := by kernel_rfl
theorem fo_66_1 : fldOff Tryz.prog 66 1 = some 1 := by kernel_rfl
theorem te_24 : tyElem Tryz.prog 24 = some 66 := by kernel_rfl
theorem ts_66 : tySz Tryz.prog 66 = some (true, 2) := by kernel_rfl
theorem tz_66 : tyZero Tryz.prog 66 = some (.agg #[.int .u32 0, .slice none 0 0]) := by kernel_rfl
theorem cb_102 : cb0 Tryz.prog 102 = true := by kernel_rfl
theorem fo_26_1 : fldOff Tryz.prog 26 1 = some 1 := by kernel_rfl
theorem fo_26_3 : fldOff Tryz.prog 26 3 = some 3 := by kernel_rfl
theorem ts_23 : tySz Tryz.prog 23 = some (false, 1) := by kernel_rfl
theorem te_23 : tyElem Tryz.prog 23 = some 26 := by kernel_rfl
theorem fo_26_4 : fldOff Tryz.prog 26 4 = some 4 := by kernel_rfl
theorem ts_24 : tySz Tryz.prog 24 = some (false, 1) := by kernel_rfl
theorem cb_41 : cb0 Tryz.prog 41 = true := by kernel_rfl
theorem tz_26 : tyZero Tryz.prog 26 = some (.agg #[.int .i64 0, .slice none 0 0, .bool false, .slice none 0 0, .slice none 0 0]) := by kernel_rfl
theorem ts_26 : tySz Tryz.prog 26 = some (true, 5) := by kernel_rfl
theorem fok_26 : fldsOk Tryz.prog 26 = true := by kernel_rfl
theorem fo_51_1 : fldOff Tryz.prog 51 1 = some 1 := by kernel_rfl
theorem ts_3 : tySz Tryz.prog 3 = some (false, 1) := by kernel_rfl
theorem fo_51_2 : fldOff Tryz.prog 51 2 = some 2 := by kernel_rfl
theorem fo_26_2 : fldOff Tryz.prog 26 2 = some 2 := by kernel_rfl
theorem fo_51_3 : fldOff Tryz.prog 51 3 = some 3 := by kernel_rfl
theorem te_29 : tyElem Tryz.prog 29 = some 51 := by kernel_rfl
theorem ts_51 : tySz Tryz.prog 51 = some (true, 8) := by kernel_rfl
theorem tz_51 : tyZero Tryz.prog 51 = some (.agg #[.int .i64 0, .int .i64 0, .int .i64 0, .int .i64 0, .int .i64 0, .int .i64 0, .int .i64 0, .slice none 0 0]) := by kernel_rfl
theorem fo_51_4 : fldOff Tryz.prog 51 4 = some 4 := by kernel_rfl
theorem un_3 : (Tryz.prog.underlying 3).isSome = true := by kernel_rfl
theorem un_2 : (Tryz.prog.underlying 2).isSome = true := by kernel_rfl
theorem ti_5 : tyInt Tryz.prog 5 = some .u8 := by kernel_rfl
theorem rt_22 : rowTy Tryz.prog 22 = some (5, 1, 1) := by kernel_rfl
theorem tz_5 : tyZero Tryz.prog 5 = some (.int .u8 0) := by kernel_rfl
theorem cb_113 : cb0 Tryz.prog 113 = true := by kernel_rfl
theorem cb_114 : cb0 Tryz.prog 114 = true := by kernel_rfl
theorem cb_112 : cb0 Tryz.prog 112 = true := by kernel_rfl
theorem fo_66_0 : fldOff Tryz.prog 66 0 = some 0 := by kernel_rfl
theorem ts_64 : tySz Tryz.prog 64 = some (false, 1) := by kernel_rfl
theorem fok_66 : fldsOk Tryz.prog 66 = true := by kernel_rfl
theorem rt_24 : rowTy Tryz.prog 24 = some (66, 2, 32) := by kernel_rfl
theorem fo_26_0 : fldOff Tryz.prog 26 0 = some 0 := by kernel_rfl
theorem ts_2 : tySz Tryz.prog 2 = some (false, 1) := by kernel_rfl
theorem cb_56 : cb0 Tryz.prog 56 = true := by kernel_rfl
theorem cb_178 : cb0 Tryz.prog 178 = true := by kernel_rfl
theorem cb_48 : cb0 Tryz.prog 48 = true := by kernel_rfl
theorem cb_115 : cb0 Tryz.prog 115 = true := by kernel_rfl
theorem cb_116 : cb0 Tryz.prog 116 = true := by kernel_rfl
theorem fo_51_0 : fldOff Tryz.prog 51 0 = some 0 := by kernel_rfl
theorem cb_117 : cb0 Tryz.prog 117 = true := by kernel_rfl
theorem fo_51_6 : fldOff Tryz.prog 51 6 = some 6 := by kernel_rfl
theorem fo_51_7 : fldOff Tryz.prog 51 7 = some 7 := by kernel_rfl
theorem ts_29 : tySz Tryz.prog 29 = some (false, 1) := by kernel_rfl
theorem cb_179 : cb0 Tryz.prog 179 = true := by kernel_rfl
theorem cb_50 : cb0 Tryz.prog 50 = true := by kernel_rfl
theorem cb_49 : cb0 Tryz.prog 49 = true := by kernel_rfl
theorem cb_111 : cb0 Tryz.prog 111 = true := by kernel_rfl
theorem cb_54 : cb0 Tryz.prog 54 = true := by kernel_rfl
theorem fo_31_0 : fldOff Tryz.prog 31 0 = some 0 := by kernel_rfl
theorem fo_31_1 : fldOff Tryz.prog 31 1 = some 1 := by kernel_rfl
theorem un_211 : (Tryz.prog.underlying 211).isSome = true := by kernel_rfl
theorem fo_37_0 : fldOff Tryz.prog 37 0 = some 0 := by kernel_rfl
theorem fo_37_1 : fldOff Tryz.prog 37 1 = some 1 := by kernel_rfl
theorem fo_37_2 : fldOff Tryz.prog 37 2 = some 2 := by kernel_rfl
theorem fa_26_0 : fldAt Tryz.prog 26 0 = some (0, 1) := by kernel_rfl
theorem fa_26_1 : fldAt Tryz.prog 26 1 = some (1, 1) := by kernel_rfl
theorem fa_26_2 : fldAt Tryz.prog 26 2 = some (2, 1) := by kernel_rfl
theorem fo_37_3 : fldOff Tryz.prog 37 3 = some 3 := by kernel_rfl
theorem ts_34 : tySz Tryz.prog 34 = some (false, 1) := by kernel_rfl
theorem te_34 : tyElem Tryz.prog 34 = some 37 := by kernel_rfl
theorem ts_37 : tySz Tryz.prog 37 = some (true, 5) := by kernel_rfl
theorem tz_37 : tyZero Tryz.prog 37 = some (.agg #[.int .i64 0, .slice none 0 0, .bool false, .slice none 0 0, .slice none 0 0]) := by kernel_rfl
theorem cb_19 : cb0 Tryz.prog 19 = true := by kernel_rfl
theorem rt_23 : rowTy Tryz.prog 23 = some (26, 5, 88) := by kernel_rfl
theorem fo_37_4 : fldOff Tryz.prog 37 4 = some 4 := by kernel_rfl
theorem ts_35 : tySz Tryz.prog 35 = some (false, 1) := by kernel_rfl
theorem te_35 : tyElem Tryz.prog 35 = some 69 := by kernel_rfl
theorem ts_69 : tySz Tryz.prog 69 = some (true, 2) := by kernel_rfl
theorem tz_69 : tyZero Tryz.prog 69 = some (.agg #[.int .u32 0, .slice none 0 0]) := by kernel_rfl
theorem fo_69_0 : fldOff Tryz.prog 69 0 = some 0 := by kernel_rfl
theorem fo_69_1 : fldOff Tryz.prog 69 1 = some 1 := by kernel_rfl
theorem fa_66_0 : fldAt Tryz.prog 66 0 = some (0, 1) := by kernel_rfl
theorem fa_66_1 : fldAt Tryz.prog 66 1 = some (1, 1) := by kernel_rfl
theorem ib_4 : isBoolTy Tryz.prog 4 = true := by kernel_rfl
theorem cb_55 : cb0 Tryz.prog 55 = true := by kernel_rfl
theorem cb_53 : cb0 Tryz.prog 53 = true := by kernel_rfl
theorem fo_51_5 : fldOff Tryz.prog 51 5 = some 5 := by kernel_rfl
theorem cb_118 : cb0 Tryz.prog 118 = true := by kernel_rfl
theorem cb_17 : cb0 Tryz.prog 17 = true := by kernel_rfl
theorem cb_52 : cb0 Tryz.prog 52 = true := by kernel_rfl
theorem rt_29 : rowTy Tryz.prog 29 = some (51, 8, 80) := by kernel_rfl
theorem fa_26_3 : fldAt Tryz.prog 26 3 = some (3, 1) := by kernel_rfl
theorem fa_37_0 : fldAt Tryz.prog 37 0 = some (0, 1) := by kernel_rfl
theorem fok_37 : fldsOk Tryz.prog 37 = true := by kernel_rfl
theorem ip_92 : isPtrTy Tryz.prog 92 = true := by kernel_rfl
theorem fa_37_2 : fldAt Tryz.prog 37 2 = some (2, 1) := by kernel_rfl
theorem fa_37_1 : fldAt Tryz.prog 37 1 = some (1, 1) := by kernel_rfl
theorem fa_51_0 : fldAt Tryz.prog 51 0 = some (0, 1) := by kernel_rfl
theorem fa_51_2 : fldAt Tryz.prog 51 2 = some (2, 1) := by kernel_rfl
theorem fa_51_3 : fldAt Tryz.prog 51 3 = some (3, 1) := by kernel_rfl
theorem fa_51_4 : fldAt Tryz.prog 51 4 = some (4, 1) := by kernel_rfl
theorem fok_51 : fldsOk Tryz.prog 51 = true := by kernel_rfl
theorem fa_51_1 : fldAt Tryz.prog 51 1 = some (1, 1) := by kernel_rfl
theorem fa_51_5 : fldAt Tryz.prog 51 5 = some (5, 1) := by kernel_rfl
theorem cb_104 : cb0 Tryz.prog 104 = true := by kernel_rfl
theorem fa_51_6 : fldAt Tryz.prog 51 6 = some (6, 1) := by kernel_rfl
theorem fa_51_7 : fldAt Tryz.prog 51 7 = some (7, 1) := by kernel_rfl
theorem tz_31 : tyZero Tryz.prog 31 = some (.agg #[.slice none 0 0, .int .i64 0]) := by kernel_rfl
theorem cb_44 : cb0 Tryz.prog 44 = true := by kernel_rfl
theorem fa_31_1 : fldAt Tryz.prog 31 1 = some (1, 1) := by kernel_rfl
theorem fa_31_0 : fldAt Tryz.prog 31 0 = some (0, 1) := by kernel_rfl
theorem fok_31 : fldsOk Tryz.prog 31 = true := by kernel_rfl
theorem ts_31 : tySz Tryz.prog 31 = some (true, 2) := by kernel_rfl
theorem fo_98_2 : fldOff Tryz.prog 98 2 = some 2 := by kernel_rfl
theorem ts_21 : tySz Tryz.prog 21 = some (false, 1) := by kernel_rfl
theorem fo_98_5 : fldOff Tryz.prog 98 5 = some 5 := by kernel_rfl
theorem fo_200_2 : fldOff Tryz.prog 200 2 = some 2 := by kernel_rfl
theorem fo_200_3 : fldOff Tryz.prog 200 3 = some 3 := by kernel_rfl
theorem cb_103 : cb0 Tryz.prog 103 = true := by kernel_rfl
theorem cb_158 : cb0 Tryz.prog 158 = true := by kernel_rfl
theorem cb_159 : cb0 Tryz.prog 159 = true := by kernel_rfl
theorem cb_162 : cb0 Tryz.prog 162 = true := by kernel_rfl
theorem cb_164 : cb0 Tryz.prog 164 = true := by kernel_rfl
theorem cb_165 : cb0 Tryz.prog 165 = true := by kernel_rfl
theorem cb_166 : cb0 Tryz.prog 166 = true := by kernel_rfl
theorem cb_167 : cb0 Tryz.prog 167 = true := by kernel_rfl
theorem cb_168 : cb0 Tryz.prog 168 = true := by kernel_rfl
theorem cb_169 : cb0 Tryz.prog 169 = true := by kernel_rfl
theorem cb_170 : cb0 Tryz.prog 170 = true := by kernel_rfl
theorem cb_171 : cb0 Tryz.prog 171 = true := by kernel_rfl
theorem cb_172 : cb0 Tryz.prog 172 = true := by kernel_rfl
theorem cb_173 : cb0 Tryz.prog 173 = true := by kernel_rfl
theorem cb_193 : cb0 Tryz.prog 193 = true := by kernel_rfl
theorem cb_211 : cb0 Tryz.prog 211 = true := by kernel_rfl
theorem cb_212 : cb0 Tryz.prog 212 = true := by kernel_rfl
theorem cb_220 : cb0 Tryz.prog 220 = true := by kernel_rfl
theorem cb_221 : cb0 Tryz.prog 221 = true := by kernel_rfl
theorem cb_105 : cb0 Tryz.prog 105 = true := by kernel_rfl
theorem tz_98 : tyZero Tryz.prog 98 = some (.agg #[.int .i16 0, .string .empty, .int .i32 0, .string .empty, .pointer none, .int .i64 0, .slice none 0 0, .map none]) := by kernel_rfl
theorem cb_120 : cb0 Tryz.prog 120 = true := by kernel_rfl
theorem cb_59 : cb0 Tryz.prog 59 = true := by kernel_rfl
theorem fo_121_5 : fldOff Tryz.prog 121 5 = some 5 := by kernel_rfl
theorem fo_214_2 : fldOff Tryz.prog 214 2 = some 2 := by kernel_rfl
theorem cb_119 : cb0 Tryz.prog 119 = true := by kernel_rfl
theorem cb_181 : cb0 Tryz.prog 181 = true := by kernel_rfl
theorem cb_182 : cb0 Tryz.prog 182 = true := by kernel_rfl
theorem cb_121 : cb0 Tryz.prog 121 = true := by kernel_rfl
theorem tz_121 : tyZero Tryz.prog 121 = some (.agg #[.int .i16 0, .string .empty, .string .empty, .int .i64 0, .int .i16 0, .int .i32 0, .string .empty, .pointer none, .slice none 0 0, .map none]) := by kernel_rfl
theorem te_205 : tyElem Tryz.prog 205 = some 64 := by kernel_rfl
theorem ts_205 : tySz Tryz.prog 205 = some (false, 1) := by kernel_rfl
theorem tz_205 : tyZero Tryz.prog 205 = some (.slice none 0 0) := by kernel_rfl
theorem tz_64 : tyZero Tryz.prog 64 = some (.int .u32 0) := by kernel_rfl
theorem rt_205 : rowTy Tryz.prog 205 = some (64, 1, 4) := by kernel_rfl
theorem cb_177 : cb0 Tryz.prog 177 = true := by kernel_rfl
theorem cb_176 : cb0 Tryz.prog 176 = true := by kernel_rfl
theorem cb_108 : cb0 Tryz.prog 108 = true := by kernel_rfl
theorem fo_200_0 : fldOff Tryz.prog 200 0 = some 0 := by kernel_rfl
theorem fo_200_1 : fldOff Tryz.prog 200 1 = some 1 := by kernel_rfl
theorem fo_200_4 : fldOff Tryz.prog 200 4 = some 4 := by kernel_rfl
theorem ts_92 : tySz Tryz.prog 92 = some (false, 1) := by kernel_rfl
theorem cb_106 : cb0 Tryz.prog 106 = true := by kernel_rfl
theorem cb_110 : cb0 Tryz.prog 110 = true := by kernel_rfl
theorem cb_230 : cb0 Tryz.prog 230 = true := by kernel_rfl
theorem fo_200_5 : fldOff Tryz.prog 200 5 = some 5 := by kernel_rfl
theorem fo_106_0 : fldOff Tryz.prog 106 0 = some 0 := by kernel_rfl
theorem fo_106_1 : fldOff Tryz.prog 106 1 = some 1 := by kernel_rfl
theorem ar_103 : tyArr Tryz.prog 103 = some (16, 5) := by kernel_rfl
theorem fo_106_2 : fldOff Tryz.prog 106 2 = some 17 := by kernel_rfl
theorem ts_104 : tySz Tryz.prog 104 = some (false, 1) := by kernel_rfl
theorem te_104 : tyElem Tryz.prog 104 = some 200 := by kernel_rfl
theorem tz_4 : tyZero Tryz.prog 4 = some (.bool false) := by kernel_rfl
theorem ts_200 : tySz Tryz.prog 200 = some (true, 6) := by kernel_rfl
theorem cb_174 : cb0 Tryz.prog 174 = true := by kernel_rfl
theorem cb_175 : cb0 Tryz.prog 175 = true := by kernel_rfl
theorem fo_106_3 : fldOff Tryz.prog 106 3 = some 18 := by kernel_rfl
theorem fo_98_1 : fldOff Tryz.prog 98 1 = some 1 := by kernel_rfl
theorem fo_98_3 : fldOff Tryz.prog 98 3 = some 3 := by kernel_rfl
theorem fo_98_4 : fldOff Tryz.prog 98 4 = some 4 := by kernel_rfl
theorem fo_98_6 : fldOff Tryz.prog 98 6 = some 6 := by kernel_rfl
theorem ts_93 : tySz Tryz.prog 93 = some (false, 1) := by kernel_rfl
theorem te_93 : tyElem Tryz.prog 93 = some 106 := by kernel_rfl
theorem ts_106 : tySz Tryz.prog 106 = some (true, 19) := by kernel_rfl
theorem cb_107 : cb0 Tryz.prog 107 = true := by kernel_rfl
theorem cb_109 : cb0 Tryz.prog 109 = true := by kernel_rfl
theorem fo_98_7 : fldOff Tryz.prog 98 7 = some 7 := by kernel_rfl
theorem fo_98_0 : fldOff Tryz.prog 98 0 = some 0 := by kernel_rfl
theorem ts_46 : tySz Tryz.prog 46 = some (false, 1) := by kernel_rfl
theorem cb_42 : cb0 Tryz.prog 42 = true := by kernel_rfl
theorem cb_43 : cb0 Tryz.prog 43 = true := by kernel_rfl
theorem cb_45 : cb0 Tryz.prog 45 = true := by kernel_rfl
theorem cb_46 : cb0 Tryz.prog 46 = true := by kernel_rfl
theorem cb_47 : cb0 Tryz.prog 47 = true := by kernel_rfl
theorem cb_11 : cb0 Tryz.prog 11 = true := by kernel_rfl
theorem cb_12 : cb0 Tryz.prog 12 = true := by kernel_rfl
theorem cb_13 : cb0 Tryz.prog 13 = true := by kernel_rfl
theorem cb_14 : cb0 Tryz.prog 14 = true := by kernel_rfl
theorem cb_16 : cb0 Tryz.prog 16 = true := by kernel_rfl
theorem cb_15 : cb0 Tryz.prog 15 = true := by kernel_rfl
theorem cb_18 : cb0 Tryz.prog 18 = true := by kernel_rfl
theorem fo_214_0 : fldOff Tryz.prog 214 0 = some 0 := by kernel_rfl
theorem fo_214_1 : fldOff Tryz.prog 214 1 = some 1 := by kernel_rfl
theorem fo_214_3 : fldOff Tryz.prog 214 3 = some 3 := by kernel_rfl
theorem cb_237 : cb0 Tryz.prog 237 = true := by kernel_rfl
theorem fo_214_4 : fldOff Tryz.prog 214 4 = some 4 := by kernel_rfl
theorem fo_126_0 : fldOff Tryz.prog 126 0 = some 0 := by kernel_rfl
theorem fo_126_1 : fldOff Tryz.prog 126 1 = some 1 := by kernel_rfl
theorem fo_126_2 : fldOff Tryz.prog 126 2 = some 17 := by kernel_rfl
theorem ts_124 : tySz Tryz.prog 124 = some (false, 1) := by kernel_rfl
theorem te_124 : tyElem Tryz.prog 124 = some 214 := by kernel_rfl
theorem ts_214 : tySz Tryz.prog 214 = some (true, 5) := by kernel_rfl
theorem cb_183 : cb0 Tryz.prog 183 = true := by kernel_rfl
theorem cb_184 : cb0 Tryz.prog 184 = true := by kernel_rfl
theorem fo_126_3 : fldOff Tryz.prog 126 3 = some 18 := by kernel_rfl
theorem fo_121_1 : fldOff Tryz.prog 121 1 = some 1 := by kernel_rfl
theorem fo_121_2 : fldOff Tryz.prog 121 2 = some 2 := by kernel_rfl
theorem fo_121_3 : fldOff Tryz.prog 121 3 = some 3 := by kernel_rfl
theorem fo_121_4 : fldOff Tryz.prog 121 4 = some 4 := by kernel_rfl
theorem fo_121_6 : fldOff Tryz.prog 121 6 = some 6 := by kernel_rfl
theorem fo_121_7 : fldOff Tryz.prog 121 7 = some 7 := by kernel_rfl
theorem fo_121_8 : fldOff Tryz.prog 121 8 = some 8 := by kernel_rfl
theorem ts_119 : tySz Tryz.prog 119 = some (false, 1) := by kernel_rfl
theorem te_119 : tyElem Tryz.prog 119 = some 126 := by kernel_rfl
theorem ts_126 : tySz Tryz.prog 126 = some (true, 19) := by kernel_rfl
theorem cb_122 : cb0 Tryz.prog 122 = true := by kernel_rfl
theorem cb_123 : cb0 Tryz.prog 123 = true := by kernel_rfl
theorem fo_121_9 : fldOff Tryz.prog 121 9 = some 9 := by kernel_rfl
theorem fo_121_0 : fldOff Tryz.prog 121 0 = some 0 := by kernel_rfl
theorem cb_57 : cb0 Tryz.prog 57 = true := by kernel_rfl
theorem cb_58 : cb0 Tryz.prog 58 = true := by kernel_rfl
theorem cb_60 : cb0 Tryz.prog 60 = true := by kernel_rfl
theorem cb_61 : cb0 Tryz.prog 61 = true := by kernel_rfl
theorem cb_62 : cb0 Tryz.prog 62 = true := by kernel_rfl
theorem cb_20 : cb0 Tryz.prog 20 = true := by kernel_rfl
theorem cb_21 : cb0 Tryz.prog 21 = true := by kernel_rfl
theorem cb_22 : cb0 Tryz.prog 22 = true := by kernel_rfl
theorem cb_65 : cb0 Tryz.prog 65 = true := by kernel_rfl
theorem cb_124 : cb0 Tryz.prog 124 = true := by kernel_rfl
theorem cb_185 : cb0 Tryz.prog 185 = true := by kernel_rfl
theorem cb_125 : cb0 Tryz.prog 125 = true := by kernel_rfl
theorem tz_129 : tyZero Tryz.prog 129 = some (.agg #[.int .i16 0, .int .i32 0, .slice none 0 0, .map none]) := by kernel_rfl
theorem fo_133_0 : fldOff Tryz.prog 133 0 = some 0 := by kernel_rfl
theorem fo_133_1 : fldOff Tryz.prog 133 1 = some 1 := by kernel_rfl
theorem fo_133_2 : fldOff Tryz.prog 133 2 = some 17 := by kernel_rfl
theorem fo_133_3 : fldOff Tryz.prog 133 3 = some 18 := by kernel_rfl
theorem cb_186 : cb0 Tryz.prog 186 = true := by kernel_rfl
theorem fo_133_4 : fldOff Tryz.prog 133 4 = some 19 := by kernel_rfl
theorem fo_129_1 : fldOff Tryz.prog 129 1 = some 1 := by kernel_rfl
theorem fo_129_2 : fldOff Tryz.prog 129 2 = some 2 := by kernel_rfl
theorem ts_127 : tySz Tryz.prog 127 = some (false, 1) := by kernel_rfl
theorem te_127 : tyElem Tryz.prog 127 = some 133 := by kernel_rfl
theorem ts_133 : tySz Tryz.prog 133 = some (true, 20) := by kernel_rfl
theorem cb_126 : cb0 Tryz.prog 126 = true := by kernel_rfl
theorem cb_127 : cb0 Tryz.prog 127 = true := by kernel_rfl
theorem fo_129_3 : fldOff Tryz.prog 129 3 = some 3 := by kernel_rfl
theorem fo_129_0 : fldOff Tryz.prog 129 0 = some 0 := by kernel_rfl
theorem cb_63 : cb0 Tryz.prog 63 = true := by kernel_rfl
theorem cb_64 : cb0 Tryz.prog 64 = true := by kernel_rfl
theorem cb_66 : cb0 Tryz.prog 66 = true := by kernel_rfl
theorem cb_67 : cb0 Tryz.prog 67 = true := by kernel_rfl
theorem cb_68 : cb0 Tryz.prog 68 = true := by kernel_rfl
theorem cb_23 : cb0 Tryz.prog 23 = true := by kernel_rfl
theorem cb_24 : cb0 Tryz.prog 24 = true := by kernel_rfl
theorem cb_25 : cb0 Tryz.prog 25 = true := by kernel_rfl
end Go.Proofs.YtoopklfabccmnaaGreatDoor
