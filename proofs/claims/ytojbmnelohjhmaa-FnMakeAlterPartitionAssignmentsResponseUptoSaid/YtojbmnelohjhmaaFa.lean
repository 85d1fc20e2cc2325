/- Facts of the program by computation. No statement of the seat stands here. -/
import Derived.Test.YtojbmnelohjhmaaL3
import Derived.Test.YtojbmnelohjhmaaRows
import Derived.KernelRfl
namespace Go.Proofs.Ytojbmnelohjhmaa
open Go Go.Mk
theorem mixed : Try.prog.follows .mixedOrders = true := Try.checked.mixed
theorem fo_61_1 : fldOff Try.prog 61 1 = some 1 := by kernel_rfl
theorem ts_22 : tySz Try.prog 22 = some (false, 1) := by kernel_rfl
theorem te_22 : tyElem Try.prog 22 = some 5 := by kernel_rfl
theorem te_24 : tyElem Try.prog 24 = some 61 := by kernel_rfl
theorem ts_61 : tySz Try.prog 61 = some (true, 2) := by kernel_rfl
theorem tz_61 : tyZero Try.prog 61 = some (.agg #[.int .u32 0, .slice none 0 0]) := by kernel_rfl
theorem cb_131 : callable Try.prog 131 = true := by kernel_rfl
theorem fo_26_1 : fldOff Try.prog 26 1 = some 1 := by kernel_rfl
theorem fo_26_3 : fldOff Try.prog 26 3 = some 3 := by kernel_rfl
theorem ts_23 : tySz Try.prog 23 = some (false, 1) := by kernel_rfl
theorem te_23 : tyElem Try.prog 23 = some 26 := by kernel_rfl
theorem fo_26_4 : fldOff Try.prog 26 4 = some 4 := by kernel_rfl
theorem ts_24 : tySz Try.prog 24 = some (false, 1) := by kernel_rfl
theorem cb_57 : callable Try.prog 57 = true := by kernel_rfl
theorem tz_26 : tyZero Try.prog 26 = some (.agg #[.int .i64 0, .slice none 0 0, .bool false, .slice none 0 0, .slice none 0 0]) := by kernel_rfl
theorem ts_26 : tySz Try.prog 26 = some (true, 5) := by kernel_rfl
theorem fok_26 : fldsOk Try.prog 26 = true := by kernel_rfl
theorem un_5 : (Try.prog.underlying 5).isSome = true := by kernel_rfl
theorem ti_3 : tyInt Try.prog 3 = some .i64 := by kernel_rfl
theorem fo_50_1 : fldOff Try.prog 50 1 = some 1 := by kernel_rfl
theorem ts_3 : tySz Try.prog 3 = some (false, 1) := by kernel_rfl
theorem fo_50_2 : fldOff Try.prog 50 2 = some 2 := by kernel_rfl
theorem fo_26_2 : fldOff Try.prog 26 2 = some 2 := by kernel_rfl
theorem ts_4 : tySz Try.prog 4 = some (false, 1) := by kernel_rfl
theorem fo_50_3 : fldOff Try.prog 50 3 = some 3 := by kernel_rfl
theorem ts_5 : tySz Try.prog 5 = some (false, 1) := by kernel_rfl
theorem te_29 : tyElem Try.prog 29 = some 50 := by kernel_rfl
theorem ts_50 : tySz Try.prog 50 = some (true, 8) := by kernel_rfl
theorem tz_50 : tyZero Try.prog 50 = some (.agg #[.int .i64 0, .int .i64 0, .int .i64 0, .int .i64 0, .int .i64 0, .int .i64 0, .int .i64 0, .slice none 0 0]) := by kernel_rfl
theorem fo_50_4 : fldOff Try.prog 50 4 = some 4 := by kernel_rfl
theorem un_3 : (Try.prog.underlying 3).isSome = true := by kernel_rfl
theorem ti_59 : tyInt Try.prog 59 = some .u32 := by kernel_rfl
theorem un_2 : (Try.prog.underlying 2).isSome = true := by kernel_rfl
theorem ti_5 : tyInt Try.prog 5 = some .u8 := by kernel_rfl
theorem rt_22 : rowTy Try.prog 22 = some (5, 1, 1) := by kernel_rfl
theorem tz_5 : tyZero Try.prog 5 = some (.int .u8 0) := by kernel_rfl
theorem un_146 : (Try.prog.underlying 146).isSome = true := by kernel_rfl
theorem ti_146 : tyInt Try.prog 146 = some .u64 := by kernel_rfl
theorem cb_147 : callable Try.prog 147 = true := by kernel_rfl
theorem cb_192 : callable Try.prog 192 = true := by kernel_rfl
theorem tz_39 : tyZero Try.prog 39 = some (.agg #[.int .i64 0, .slice none 0 0, .bool false, .slice none 0 0, .slice none 0 0]) := by kernel_rfl
theorem fo_26_0 : fldOff Try.prog 26 0 = some 0 := by kernel_rfl
theorem ts_2 : tySz Try.prog 2 = some (false, 1) := by kernel_rfl
theorem fa_39_0 : fldAt Try.prog 39 0 = some (0, 1) := by kernel_rfl
theorem fa_39_1 : fldAt Try.prog 39 1 = some (1, 1) := by kernel_rfl
theorem fa_39_2 : fldAt Try.prog 39 2 = some (2, 1) := by kernel_rfl
theorem fok_39 : fldsOk Try.prog 39 = true := by kernel_rfl
theorem ts_39 : tySz Try.prog 39 = some (true, 5) := by kernel_rfl
theorem fo_39_3 : fldOff Try.prog 39 3 = some 3 := by kernel_rfl
theorem ts_36 : tySz Try.prog 36 = some (false, 1) := by kernel_rfl
theorem cb_21 : callable Try.prog 21 = true := by kernel_rfl
theorem rt_36 : rowTy Try.prog 36 = some (39, 5, 88) := by kernel_rfl
theorem te_36 : tyElem Try.prog 36 = some 39 := by kernel_rfl
theorem fo_39_4 : fldOff Try.prog 39 4 = some 4 := by kernel_rfl
theorem ts_37 : tySz Try.prog 37 = some (false, 1) := by kernel_rfl
theorem fo_61_0 : fldOff Try.prog 61 0 = some 0 := by kernel_rfl
theorem ts_59 : tySz Try.prog 59 = some (false, 1) := by kernel_rfl
theorem fa_62_0 : fldAt Try.prog 62 0 = some (0, 1) := by kernel_rfl
theorem fa_62_1 : fldAt Try.prog 62 1 = some (1, 1) := by kernel_rfl
theorem tz_62 : tyZero Try.prog 62 = some (.agg #[.int .u32 0, .slice none 0 0]) := by kernel_rfl
theorem fok_62 : fldsOk Try.prog 62 = true := by kernel_rfl
theorem rt_37 : rowTy Try.prog 37 = some (62, 2, 32) := by kernel_rfl
theorem te_37 : tyElem Try.prog 37 = some 62 := by kernel_rfl
theorem cb_143 : callable Try.prog 143 = true := by kernel_rfl
theorem fok_61 : fldsOk Try.prog 61 = true := by kernel_rfl
theorem rt_24 : rowTy Try.prog 24 = some (61, 2, 32) := by kernel_rfl
theorem cz_5 : (Try.prog.info? 5).map (·.size) = some 1 := by kernel_rfl
theorem cb_66 : callable Try.prog 66 = true := by kernel_rfl
theorem cb_190 : callable Try.prog 190 = true := by kernel_rfl
theorem cb_67 : callable Try.prog 67 = true := by kernel_rfl
theorem cb_193 : callable Try.prog 193 = true := by kernel_rfl
theorem cb_141 : callable Try.prog 141 = true := by kernel_rfl
theorem fo_50_0 : fldOff Try.prog 50 0 = some 0 := by kernel_rfl
theorem cb_142 : callable Try.prog 142 = true := by kernel_rfl
theorem fo_50_6 : fldOff Try.prog 50 6 = some 6 := by kernel_rfl
theorem fo_50_7 : fldOff Try.prog 50 7 = some 7 := by kernel_rfl
theorem ts_29 : tySz Try.prog 29 = some (false, 1) := by kernel_rfl
theorem cb_191 : callable Try.prog 191 = true := by kernel_rfl
theorem cb_144 : callable Try.prog 144 = true := by kernel_rfl
theorem cb_64 : callable Try.prog 64 = true := by kernel_rfl
theorem cb_145 : callable Try.prog 145 = true := by kernel_rfl
theorem un_59 : (Try.prog.underlying 59).isSome = true := by kernel_rfl
theorem cb_65 : callable Try.prog 65 = true := by kernel_rfl
theorem cb_63 : callable Try.prog 63 = true := by kernel_rfl
theorem rt_23 : rowTy Try.prog 23 = some (26, 5, 88) := by kernel_rfl
theorem fa_61_0 : fldAt Try.prog 61 0 = some (0, 1) := by kernel_rfl
theorem fa_61_1 : fldAt Try.prog 61 1 = some (1, 1) := by kernel_rfl
theorem fa_26_1 : fldAt Try.prog 26 1 = some (1, 1) := by kernel_rfl
theorem fa_26_2 : fldAt Try.prog 26 2 = some (2, 1) := by kernel_rfl
theorem cb_22 : callable Try.prog 22 = true := by kernel_rfl
theorem fa_26_0 : fldAt Try.prog 26 0 = some (0, 1) := by kernel_rfl
theorem fo_31_0 : fldOff Try.prog 31 0 = some 0 := by kernel_rfl
theorem fo_31_1 : fldOff Try.prog 31 1 = some 1 := by kernel_rfl
theorem fo_53_0 : fldOff Try.prog 53 0 = some 0 := by kernel_rfl
theorem ts_51 : tySz Try.prog 51 = some (false, 1) := by kernel_rfl
theorem im_51 : isMapTy Try.prog 51 = true := by kernel_rfl
theorem mt_51 : mapTy Try.prog 51 = some (59, 22) := by kernel_rfl
theorem fo_39_2 : fldOff Try.prog 39 2 = some 2 := by kernel_rfl
theorem fo_39_1 : fldOff Try.prog 39 1 = some 1 := by kernel_rfl
theorem iy_22 : isBytesTy Try.prog 22 = true := by kernel_rfl
theorem is_9 : isStrTy Try.prog 9 = true := by kernel_rfl
theorem tz_9 : tyZero Try.prog 9 = some (.string .empty) := by kernel_rfl
theorem ts_9 : tySz Try.prog 9 = some (false, 1) := by kernel_rfl
theorem tz_155 : tyZero Try.prog 155 = some (.agg #[.int .u8 0, .int .u8 0, .int .u8 0, .int .u8 0, .int .u8 0, .int .u8 0, .int .u8 0, .int .u8 0, .int .u8 0, .int .u8 0, .int .u8 0, .int .u8 0, .int .u8 0, .int .u8 0, .int .u8 0, .int .u8 0]) := by kernel_rfl
theorem at_155 : tyArr Try.prog 155 = some (16, 5) := by kernel_rfl
theorem ts_155 : tySz Try.prog 155 = some (true, 16) := by kernel_rfl
theorem un_210 : (Try.prog.underlying 210).isSome = true := by kernel_rfl
theorem un_45 : (Try.prog.underlying 45).isSome = true := by kernel_rfl
theorem ti_210 : tyInt Try.prog 210 = some .u16 := by kernel_rfl
theorem cb_185 : callable Try.prog 185 = true := by kernel_rfl
theorem un_21 : (Try.prog.underlying 21).isSome = true := by kernel_rfl
theorem cb_184 : callable Try.prog 184 = true := by kernel_rfl
theorem cb_186 : callable Try.prog 186 = true := by kernel_rfl
theorem ti_21 : tyInt Try.prog 21 = some .i32 := by kernel_rfl
theorem cb_135 : callable Try.prog 135 = true := by kernel_rfl
theorem ti_45 : tyInt Try.prog 45 = some .i16 := by kernel_rfl
theorem cb_136 : callable Try.prog 136 = true := by kernel_rfl
theorem cb_200 : callable Try.prog 200 = true := by kernel_rfl
theorem cb_187 : callable Try.prog 187 = true := by kernel_rfl
theorem un_121 : (Try.prog.underlying 121).isSome = true := by kernel_rfl
theorem cb_138 : callable Try.prog 138 = true := by kernel_rfl
theorem ip_69 : isPtrTy Try.prog 69 = true := by kernel_rfl
theorem cb_155 : callable Try.prog 155 = true := by kernel_rfl
theorem cb_154 : callable Try.prog 154 = true := by kernel_rfl
theorem te_225 : tyElem Try.prog 225 = some 59 := by kernel_rfl
theorem ts_225 : tySz Try.prog 225 = some (false, 1) := by kernel_rfl
theorem tz_225 : tyZero Try.prog 225 = some (.slice none 0 0) := by kernel_rfl
theorem tz_59 : tyZero Try.prog 59 = some (.int .u32 0) := by kernel_rfl
theorem rt_225 : rowTy Try.prog 225 = some (59, 1, 4) := by kernel_rfl
theorem cb_202 : callable Try.prog 202 = true := by kernel_rfl
theorem cb_201 : callable Try.prog 201 = true := by kernel_rfl
theorem cb_189 : callable Try.prog 189 = true := by kernel_rfl
theorem cb_188 : callable Try.prog 188 = true := by kernel_rfl
theorem cb_137 : callable Try.prog 137 = true := by kernel_rfl
theorem cb_139 : callable Try.prog 139 = true := by kernel_rfl
theorem cb_140 : callable Try.prog 140 = true := by kernel_rfl
theorem cb_150 : callable Try.prog 150 = true := by kernel_rfl
theorem cb_151 : callable Try.prog 151 = true := by kernel_rfl
theorem cb_158 : callable Try.prog 158 = true := by kernel_rfl
theorem cb_159 : callable Try.prog 159 = true := by kernel_rfl
theorem cb_163 : callable Try.prog 163 = true := by kernel_rfl
theorem cb_164 : callable Try.prog 164 = true := by kernel_rfl
theorem cb_165 : callable Try.prog 165 = true := by kernel_rfl
theorem cb_177 : callable Try.prog 177 = true := by kernel_rfl
theorem cb_180 : callable Try.prog 180 = true := by kernel_rfl
theorem tz_31 : tyZero Try.prog 31 = some (.agg #[.slice none 0 0, .int .i64 0]) := by kernel_rfl
theorem fa_50_0 : fldAt Try.prog 50 0 = some (0, 1) := by kernel_rfl
theorem fa_50_2 : fldAt Try.prog 50 2 = some (2, 1) := by kernel_rfl
theorem fa_50_3 : fldAt Try.prog 50 3 = some (3, 1) := by kernel_rfl
theorem fa_50_4 : fldAt Try.prog 50 4 = some (4, 1) := by kernel_rfl
theorem fok_50 : fldsOk Try.prog 50 = true := by kernel_rfl
theorem rt_29 : rowTy Try.prog 29 = some (50, 8, 80) := by kernel_rfl
theorem fa_31_1 : fldAt Try.prog 31 1 = some (1, 1) := by kernel_rfl
theorem fa_31_0 : fldAt Try.prog 31 0 = some (0, 1) := by kernel_rfl
theorem fok_31 : fldsOk Try.prog 31 = true := by kernel_rfl
theorem ts_31 : tySz Try.prog 31 = some (true, 2) := by kernel_rfl
theorem cb_133 : callable Try.prog 133 = true := by kernel_rfl
theorem ff_39_0 : fld1 Try.prog 39 0 = some 0 := by kernel_rfl
theorem fo_55_1 : fldOff Try.prog 55 1 = some 1 := by kernel_rfl
theorem ts_21 : tySz Try.prog 21 = some (false, 1) := by kernel_rfl
theorem fo_55_2 : fldOff Try.prog 55 2 = some 2 := by kernel_rfl
theorem ts_45 : tySz Try.prog 45 = some (false, 1) := by kernel_rfl
theorem fo_55_3 : fldOff Try.prog 55 3 = some 3 := by kernel_rfl
theorem fo_55_4 : fldOff Try.prog 55 4 = some 4 := by kernel_rfl
theorem ts_62 : tySz Try.prog 62 = some (true, 2) := by kernel_rfl
theorem fo_55_5 : fldOff Try.prog 55 5 = some 5 := by kernel_rfl
theorem fo_62_0 : fldOff Try.prog 62 0 = some 0 := by kernel_rfl
theorem fo_62_1 : fldOff Try.prog 62 1 = some 1 := by kernel_rfl
theorem cb_134 : callable Try.prog 134 = true := by kernel_rfl
theorem fo_55_0 : fldOff Try.prog 55 0 = some 0 := by kernel_rfl
theorem tz_55 : tyZero Try.prog 55 = some (.agg #[.int .i16 0, .int .i32 0, .int .i16 0, .int .i64 0, .int .i32 0, .map none]) := by kernel_rfl
theorem cb_132 : callable Try.prog 132 = true := by kernel_rfl
theorem cb_58 : callable Try.prog 58 = true := by kernel_rfl
theorem cb_59 : callable Try.prog 59 = true := by kernel_rfl
theorem fok_55 : fldsOk Try.prog 55 = true := by kernel_rfl
theorem cb_60 : callable Try.prog 60 = true := by kernel_rfl
theorem cb_61 : callable Try.prog 61 = true := by kernel_rfl
theorem cb_62 : callable Try.prog 62 = true := by kernel_rfl
theorem cb_15 : callable Try.prog 15 = true := by kernel_rfl
theorem cb_16 : callable Try.prog 16 = true := by kernel_rfl
theorem cb_17 : callable Try.prog 17 = true := by kernel_rfl
theorem cb_18 : callable Try.prog 18 = true := by kernel_rfl
theorem cb_20 : callable Try.prog 20 = true := by kernel_rfl
theorem cb_23 : callable Try.prog 23 = true := by kernel_rfl
theorem cb_19 : callable Try.prog 19 = true := by kernel_rfl
theorem fo_71_1 : fldOff Try.prog 71 1 = some 1 := by kernel_rfl
theorem fo_71_2 : fldOff Try.prog 71 2 = some 2 := by kernel_rfl
theorem cb_149 : callable Try.prog 149 = true := by kernel_rfl
theorem fo_71_3 : fldOff Try.prog 71 3 = some 3 := by kernel_rfl
theorem ts_69 : tySz Try.prog 69 = some (false, 1) := by kernel_rfl
theorem fo_71_4 : fldOff Try.prog 71 4 = some 4 := by kernel_rfl
theorem fo_71_0 : fldOff Try.prog 71 0 = some 0 := by kernel_rfl
theorem tz_71 : tyZero Try.prog 71 = some (.agg #[.int .i16 0, .int .i32 0, .int .i16 0, .pointer none, .map none]) := by kernel_rfl
theorem cb_148 : callable Try.prog 148 = true := by kernel_rfl
theorem cb_68 : callable Try.prog 68 = true := by kernel_rfl
theorem cb_69 : callable Try.prog 69 = true := by kernel_rfl
theorem fok_71 : fldsOk Try.prog 71 = true := by kernel_rfl
theorem cb_70 : callable Try.prog 70 = true := by kernel_rfl
theorem cb_71 : callable Try.prog 71 = true := by kernel_rfl
theorem cb_72 : callable Try.prog 72 = true := by kernel_rfl
theorem cb_24 : callable Try.prog 24 = true := by kernel_rfl
theorem cb_25 : callable Try.prog 25 = true := by kernel_rfl
theorem cb_26 : callable Try.prog 26 = true := by kernel_rfl
theorem fo_75_1 : fldOff Try.prog 75 1 = some 1 := by kernel_rfl
theorem fo_75_2 : fldOff Try.prog 75 2 = some 2 := by kernel_rfl
theorem fo_75_3 : fldOff Try.prog 75 3 = some 3 := by kernel_rfl
theorem fo_75_4 : fldOff Try.prog 75 4 = some 4 := by kernel_rfl
theorem fo_75_0 : fldOff Try.prog 75 0 = some 0 := by kernel_rfl
theorem tz_75 : tyZero Try.prog 75 = some (.agg #[.int .i16 0, .int .i32 0, .int .i16 0, .pointer none, .map none]) := by kernel_rfl
theorem cb_152 : callable Try.prog 152 = true := by kernel_rfl
theorem cb_73 : callable Try.prog 73 = true := by kernel_rfl
theorem cb_74 : callable Try.prog 74 = true := by kernel_rfl
theorem fok_75 : fldsOk Try.prog 75 = true := by kernel_rfl
theorem cb_75 : callable Try.prog 75 = true := by kernel_rfl
theorem cb_76 : callable Try.prog 76 = true := by kernel_rfl
theorem cb_77 : callable Try.prog 77 = true := by kernel_rfl
theorem cb_27 : callable Try.prog 27 = true := by kernel_rfl
theorem cb_28 : callable Try.prog 28 = true := by kernel_rfl
theorem cb_29 : callable Try.prog 29 = true := by kernel_rfl
theorem fa_50_1 : fldAt Try.prog 50 1 = some (1, 1) := by kernel_rfl
theorem fa_50_5 : fldAt Try.prog 50 5 = some (5, 1) := by kernel_rfl
theorem ff_39_1 : fld1 Try.prog 39 1 = some 1 := by kernel_rfl
theorem fo_80_1 : fldOff Try.prog 80 1 = some 1 := by kernel_rfl
theorem fo_80_2 : fldOff Try.prog 80 2 = some 2 := by kernel_rfl
theorem fo_80_3 : fldOff Try.prog 80 3 = some 3 := by kernel_rfl
theorem fo_80_4 : fldOff Try.prog 80 4 = some 4 := by kernel_rfl
theorem fo_80_5 : fldOff Try.prog 80 5 = some 5 := by kernel_rfl
theorem fo_80_0 : fldOff Try.prog 80 0 = some 0 := by kernel_rfl
theorem tz_80 : tyZero Try.prog 80 = some (.agg #[.int .i16 0, .string .empty, .string .empty, .pointer none, .int .i32 0, .map none]) := by kernel_rfl
theorem cb_153 : callable Try.prog 153 = true := by kernel_rfl
theorem cb_78 : callable Try.prog 78 = true := by kernel_rfl
theorem cb_79 : callable Try.prog 79 = true := by kernel_rfl
theorem fok_80 : fldsOk Try.prog 80 = true := by kernel_rfl
theorem cb_80 : callable Try.prog 80 = true := by kernel_rfl
theorem cb_81 : callable Try.prog 81 = true := by kernel_rfl
theorem cb_82 : callable Try.prog 82 = true := by kernel_rfl
theorem cb_30 : callable Try.prog 30 = true := by kernel_rfl
theorem cb_31 : callable Try.prog 31 = true := by kernel_rfl
theorem cb_32 : callable Try.prog 32 = true := by kernel_rfl
theorem cb_85 : callable Try.prog 85 = true := by kernel_rfl
theorem fa_50_6 : fldAt Try.prog 50 6 = some (6, 1) := by kernel_rfl
theorem fa_50_7 : fldAt Try.prog 50 7 = some (7, 1) := by kernel_rfl
theorem tz_151 : tyZero Try.prog 151 = some (.agg #[.string .empty, .string .empty, .map none]) := by kernel_rfl
theorem fo_151_0 : fldOff Try.prog 151 0 = some 0 := by kernel_rfl
theorem fo_151_1 : fldOff Try.prog 151 1 = some 1 := by kernel_rfl
theorem fo_151_2 : fldOff Try.prog 151 2 = some 2 := by kernel_rfl
theorem ts_151 : tySz Try.prog 151 = some (true, 3) := by kernel_rfl
theorem ff_39_2 : fld1 Try.prog 39 2 = some 2 := by kernel_rfl
theorem ff_39_3 : fld1 Try.prog 39 3 = some 3 := by kernel_rfl
theorem rt_85 : rowTy Try.prog 85 = some (151, 3, 40) := by kernel_rfl
theorem fo_87_1 : fldOff Try.prog 87 1 = some 1 := by kernel_rfl
theorem ts_85 : tySz Try.prog 85 = some (false, 1) := by kernel_rfl
theorem cb_157 : callable Try.prog 157 = true := by kernel_rfl
theorem te_85 : tyElem Try.prog 85 = some 151 := by kernel_rfl
theorem fo_87_2 : fldOff Try.prog 87 2 = some 2 := by kernel_rfl
theorem fo_87_0 : fldOff Try.prog 87 0 = some 0 := by kernel_rfl
theorem tz_87 : tyZero Try.prog 87 = some (.agg #[.int .i16 0, .slice none 0 0, .map none]) := by kernel_rfl
theorem cb_156 : callable Try.prog 156 = true := by kernel_rfl
theorem cb_83 : callable Try.prog 83 = true := by kernel_rfl
theorem cb_84 : callable Try.prog 84 = true := by kernel_rfl
theorem fok_87 : fldsOk Try.prog 87 = true := by kernel_rfl
theorem cb_86 : callable Try.prog 86 = true := by kernel_rfl
theorem cb_87 : callable Try.prog 87 = true := by kernel_rfl
theorem cb_88 : callable Try.prog 88 = true := by kernel_rfl
theorem cb_33 : callable Try.prog 33 = true := by kernel_rfl
theorem cb_34 : callable Try.prog 34 = true := by kernel_rfl
theorem cb_35 : callable Try.prog 35 = true := by kernel_rfl
theorem cb_161 : callable Try.prog 161 = true := by kernel_rfl
theorem cb_91 : callable Try.prog 91 = true := by kernel_rfl
theorem tz_165 : tyZero Try.prog 165 = some (.agg #[.int .i32 0, .int .i32 0, .map none]) := by kernel_rfl
theorem fo_165_0 : fldOff Try.prog 165 0 = some 0 := by kernel_rfl
theorem fo_165_1 : fldOff Try.prog 165 1 = some 1 := by kernel_rfl
theorem fo_165_2 : fldOff Try.prog 165 2 = some 2 := by kernel_rfl
theorem ts_165 : tySz Try.prog 165 = some (true, 3) := by kernel_rfl
theorem tz_158 : tyZero Try.prog 158 = some (.agg #[.int .u8 0, .int .u8 0, .int .u8 0, .int .u8 0, .int .u8 0, .int .u8 0, .int .u8 0, .int .u8 0, .int .u8 0, .int .u8 0, .int .u8 0, .int .u8 0, .int .u8 0, .int .u8 0, .int .u8 0, .int .u8 0, .slice none 0 0, .map none]) := by kernel_rfl
theorem cb_194 : callable Try.prog 194 = true := by kernel_rfl
theorem fo_158_0 : fldOff Try.prog 158 0 = some 0 := by kernel_rfl
theorem rt_156 : rowTy Try.prog 156 = some (165, 3, 16) := by kernel_rfl
theorem fo_158_1 : fldOff Try.prog 158 1 = some 16 := by kernel_rfl
theorem ts_156 : tySz Try.prog 156 = some (false, 1) := by kernel_rfl
theorem cb_195 : callable Try.prog 195 = true := by kernel_rfl
theorem te_156 : tyElem Try.prog 156 = some 165 := by kernel_rfl
theorem fo_158_2 : fldOff Try.prog 158 2 = some 17 := by kernel_rfl
theorem ts_158 : tySz Try.prog 158 = some (true, 18) := by kernel_rfl
theorem fo_93_1 : fldOff Try.prog 93 1 = some 1 := by kernel_rfl
theorem rt_91 : rowTy Try.prog 91 = some (158, 18, 48) := by kernel_rfl
theorem fo_93_2 : fldOff Try.prog 93 2 = some 2 := by kernel_rfl
theorem ts_91 : tySz Try.prog 91 = some (false, 1) := by kernel_rfl
theorem cb_162 : callable Try.prog 162 = true := by kernel_rfl
theorem te_91 : tyElem Try.prog 91 = some 158 := by kernel_rfl
theorem fo_93_3 : fldOff Try.prog 93 3 = some 3 := by kernel_rfl
theorem fo_93_0 : fldOff Try.prog 93 0 = some 0 := by kernel_rfl
theorem tz_93 : tyZero Try.prog 93 = some (.agg #[.int .i16 0, .string .empty, .slice none 0 0, .map none]) := by kernel_rfl
theorem cb_160 : callable Try.prog 160 = true := by kernel_rfl
theorem cb_89 : callable Try.prog 89 = true := by kernel_rfl
theorem cb_90 : callable Try.prog 90 = true := by kernel_rfl
theorem fok_93 : fldsOk Try.prog 93 = true := by kernel_rfl
theorem cb_92 : callable Try.prog 92 = true := by kernel_rfl
theorem cb_93 : callable Try.prog 93 = true := by kernel_rfl
theorem cb_94 : callable Try.prog 94 = true := by kernel_rfl
theorem cb_36 : callable Try.prog 36 = true := by kernel_rfl
theorem cb_37 : callable Try.prog 37 = true := by kernel_rfl
theorem cb_38 : callable Try.prog 38 = true := by kernel_rfl
theorem cb_167 : callable Try.prog 167 = true := by kernel_rfl
theorem cb_97 : callable Try.prog 97 = true := by kernel_rfl
theorem tz_173 : tyZero Try.prog 173 = some (.agg #[.int .i32 0, .int .i32 0, .int .i64 0, .map none]) := by kernel_rfl
theorem fo_173_0 : fldOff Try.prog 173 0 = some 0 := by kernel_rfl
theorem fo_173_1 : fldOff Try.prog 173 1 = some 1 := by kernel_rfl
theorem fo_173_2 : fldOff Try.prog 173 2 = some 2 := by kernel_rfl
theorem fo_173_3 : fldOff Try.prog 173 3 = some 3 := by kernel_rfl
theorem ts_173 : tySz Try.prog 173 = some (true, 4) := by kernel_rfl
theorem tz_168 : tyZero Try.prog 168 = some (.agg #[.int .u8 0, .int .u8 0, .int .u8 0, .int .u8 0, .int .u8 0, .int .u8 0, .int .u8 0, .int .u8 0, .int .u8 0, .int .u8 0, .int .u8 0, .int .u8 0, .int .u8 0, .int .u8 0, .int .u8 0, .int .u8 0, .slice none 0 0, .map none]) := by kernel_rfl
theorem fo_168_0 : fldOff Try.prog 168 0 = some 0 := by kernel_rfl
theorem rt_166 : rowTy Try.prog 166 = some (173, 4, 24) := by kernel_rfl
theorem fo_168_1 : fldOff Try.prog 168 1 = some 16 := by kernel_rfl
theorem ts_166 : tySz Try.prog 166 = some (false, 1) := by kernel_rfl
theorem cb_196 : callable Try.prog 196 = true := by kernel_rfl
theorem te_166 : tyElem Try.prog 166 = some 173 := by kernel_rfl
theorem fo_168_2 : fldOff Try.prog 168 2 = some 17 := by kernel_rfl
theorem ts_168 : tySz Try.prog 168 = some (true, 18) := by kernel_rfl
theorem fo_99_1 : fldOff Try.prog 99 1 = some 1 := by kernel_rfl
theorem rt_97 : rowTy Try.prog 97 = some (168, 18, 48) := by kernel_rfl
theorem fo_99_2 : fldOff Try.prog 99 2 = some 2 := by kernel_rfl
theorem ts_97 : tySz Try.prog 97 = some (false, 1) := by kernel_rfl
theorem cb_168 : callable Try.prog 168 = true := by kernel_rfl
theorem te_97 : tyElem Try.prog 97 = some 168 := by kernel_rfl
theorem fo_99_3 : fldOff Try.prog 99 3 = some 3 := by kernel_rfl
theorem fo_99_0 : fldOff Try.prog 99 0 = some 0 := by kernel_rfl
theorem tz_99 : tyZero Try.prog 99 = some (.agg #[.int .i16 0, .string .empty, .slice none 0 0, .map none]) := by kernel_rfl
theorem cb_166 : callable Try.prog 166 = true := by kernel_rfl
theorem cb_95 : callable Try.prog 95 = true := by kernel_rfl
theorem cb_96 : callable Try.prog 96 = true := by kernel_rfl
theorem fok_99 : fldsOk Try.prog 99 = true := by kernel_rfl
theorem cb_98 : callable Try.prog 98 = true := by kernel_rfl
theorem cb_99 : callable Try.prog 99 = true := by kernel_rfl
theorem cb_100 : callable Try.prog 100 = true := by kernel_rfl
theorem cb_39 : callable Try.prog 39 = true := by kernel_rfl
theorem cb_40 : callable Try.prog 40 = true := by kernel_rfl
theorem cb_41 : callable Try.prog 41 = true := by kernel_rfl
theorem cb_103 : callable Try.prog 103 = true := by kernel_rfl
theorem tz_175 : tyZero Try.prog 175 = some (.agg #[.string .empty, .int .i32 0, .string .empty, .int .i32 0, .int .i16 0, .pointer none, .map none]) := by kernel_rfl
theorem fo_175_0 : fldOff Try.prog 175 0 = some 0 := by kernel_rfl
theorem fo_175_1 : fldOff Try.prog 175 1 = some 1 := by kernel_rfl
theorem fo_175_2 : fldOff Try.prog 175 2 = some 2 := by kernel_rfl
theorem fo_175_3 : fldOff Try.prog 175 3 = some 3 := by kernel_rfl
theorem fo_175_4 : fldOff Try.prog 175 4 = some 4 := by kernel_rfl
theorem fo_175_5 : fldOff Try.prog 175 5 = some 5 := by kernel_rfl
theorem fo_175_6 : fldOff Try.prog 175 6 = some 6 := by kernel_rfl
theorem ts_175 : tySz Try.prog 175 = some (true, 7) := by kernel_rfl
theorem fo_105_1 : fldOff Try.prog 105 1 = some 1 := by kernel_rfl
theorem fo_105_2 : fldOff Try.prog 105 2 = some 2 := by kernel_rfl
theorem fo_105_3 : fldOff Try.prog 105 3 = some 3 := by kernel_rfl
theorem fo_105_4 : fldOff Try.prog 105 4 = some 4 := by kernel_rfl
theorem fo_105_5 : fldOff Try.prog 105 5 = some 5 := by kernel_rfl
theorem fo_105_6 : fldOff Try.prog 105 6 = some 6 := by kernel_rfl
theorem rt_103 : rowTy Try.prog 103 = some (175, 7, 64) := by kernel_rfl
theorem fo_105_7 : fldOff Try.prog 105 7 = some 7 := by kernel_rfl
theorem ts_103 : tySz Try.prog 103 = some (false, 1) := by kernel_rfl
theorem cb_170 : callable Try.prog 170 = true := by kernel_rfl
theorem te_103 : tyElem Try.prog 103 = some 175 := by kernel_rfl
theorem fo_105_8 : fldOff Try.prog 105 8 = some 8 := by kernel_rfl
theorem fo_105_0 : fldOff Try.prog 105 0 = some 0 := by kernel_rfl
theorem tz_105 : tyZero Try.prog 105 = some (.agg #[.int .i16 0, .int .i32 0, .int .i16 0, .pointer none, .int .i32 0, .string .empty, .int .i32 0, .slice none 0 0, .map none]) := by kernel_rfl
theorem cb_169 : callable Try.prog 169 = true := by kernel_rfl
theorem cb_101 : callable Try.prog 101 = true := by kernel_rfl
theorem cb_102 : callable Try.prog 102 = true := by kernel_rfl
theorem fok_105 : fldsOk Try.prog 105 = true := by kernel_rfl
theorem cb_104 : callable Try.prog 104 = true := by kernel_rfl
theorem cb_105 : callable Try.prog 105 = true := by kernel_rfl
theorem cb_106 : callable Try.prog 106 = true := by kernel_rfl
theorem cb_42 : callable Try.prog 42 = true := by kernel_rfl
theorem cb_43 : callable Try.prog 43 = true := by kernel_rfl
theorem cb_44 : callable Try.prog 44 = true := by kernel_rfl
theorem cb_172 : callable Try.prog 172 = true := by kernel_rfl
theorem cb_109 : callable Try.prog 109 = true := by kernel_rfl
theorem tz_185 : tyZero Try.prog 185 = some (.agg #[.int .i32 0, .int .i16 0, .pointer none, .int .i32 0, .int .i32 0, .int .i64 0, .int .i32 0, .map none]) := by kernel_rfl
theorem fo_185_0 : fldOff Try.prog 185 0 = some 0 := by kernel_rfl
theorem fo_185_1 : fldOff Try.prog 185 1 = some 1 := by kernel_rfl
theorem fo_185_2 : fldOff Try.prog 185 2 = some 2 := by kernel_rfl
theorem fo_185_3 : fldOff Try.prog 185 3 = some 3 := by kernel_rfl
theorem fo_185_4 : fldOff Try.prog 185 4 = some 4 := by kernel_rfl
theorem fo_185_5 : fldOff Try.prog 185 5 = some 5 := by kernel_rfl
theorem fo_185_6 : fldOff Try.prog 185 6 = some 6 := by kernel_rfl
theorem fo_185_7 : fldOff Try.prog 185 7 = some 7 := by kernel_rfl
theorem ts_185 : tySz Try.prog 185 = some (true, 8) := by kernel_rfl
theorem tz_180 : tyZero Try.prog 180 = some (.agg #[.int .u8 0, .int .u8 0, .int .u8 0, .int .u8 0, .int .u8 0, .int .u8 0, .int .u8 0, .int .u8 0, .int .u8 0, .int .u8 0, .int .u8 0, .int .u8 0, .int .u8 0, .int .u8 0, .int .u8 0, .int .u8 0, .slice none 0 0, .map none]) := by kernel_rfl
theorem fo_180_0 : fldOff Try.prog 180 0 = some 0 := by kernel_rfl
theorem rt_178 : rowTy Try.prog 178 = some (185, 8, 48) := by kernel_rfl
theorem fo_180_1 : fldOff Try.prog 180 1 = some 16 := by kernel_rfl
theorem ts_178 : tySz Try.prog 178 = some (false, 1) := by kernel_rfl
theorem cb_197 : callable Try.prog 197 = true := by kernel_rfl
theorem te_178 : tyElem Try.prog 178 = some 185 := by kernel_rfl
theorem fo_180_2 : fldOff Try.prog 180 2 = some 17 := by kernel_rfl
theorem ts_180 : tySz Try.prog 180 = some (true, 18) := by kernel_rfl
theorem rt_109 : rowTy Try.prog 109 = some (180, 18, 48) := by kernel_rfl
theorem fo_111_1 : fldOff Try.prog 111 1 = some 1 := by kernel_rfl
theorem ts_109 : tySz Try.prog 109 = some (false, 1) := by kernel_rfl
theorem cb_173 : callable Try.prog 173 = true := by kernel_rfl
theorem te_109 : tyElem Try.prog 109 = some 180 := by kernel_rfl
theorem fo_111_2 : fldOff Try.prog 111 2 = some 2 := by kernel_rfl
theorem fo_111_0 : fldOff Try.prog 111 0 = some 0 := by kernel_rfl
theorem tz_111 : tyZero Try.prog 111 = some (.agg #[.int .i16 0, .slice none 0 0, .map none]) := by kernel_rfl
theorem cb_171 : callable Try.prog 171 = true := by kernel_rfl
theorem cb_107 : callable Try.prog 107 = true := by kernel_rfl
theorem cb_108 : callable Try.prog 108 = true := by kernel_rfl
theorem fok_111 : fldsOk Try.prog 111 = true := by kernel_rfl
theorem cb_110 : callable Try.prog 110 = true := by kernel_rfl
theorem cb_111 : callable Try.prog 111 = true := by kernel_rfl
theorem cb_112 : callable Try.prog 112 = true := by kernel_rfl
theorem cb_45 : callable Try.prog 45 = true := by kernel_rfl
theorem cb_46 : callable Try.prog 46 = true := by kernel_rfl
theorem cb_47 : callable Try.prog 47 = true := by kernel_rfl
theorem cb_175 : callable Try.prog 175 = true := by kernel_rfl
theorem cb_115 : callable Try.prog 115 = true := by kernel_rfl
theorem tz_194 : tyZero Try.prog 194 = some (.agg #[.int .i32 0, .int .i16 0, .pointer none, .map none]) := by kernel_rfl
theorem fo_194_0 : fldOff Try.prog 194 0 = some 0 := by kernel_rfl
theorem fo_194_1 : fldOff Try.prog 194 1 = some 1 := by kernel_rfl
theorem fo_194_2 : fldOff Try.prog 194 2 = some 2 := by kernel_rfl
theorem fo_194_3 : fldOff Try.prog 194 3 = some 3 := by kernel_rfl
theorem ts_194 : tySz Try.prog 194 = some (true, 4) := by kernel_rfl
theorem tz_188 : tyZero Try.prog 188 = some (.agg #[.string .empty, .slice none 0 0, .map none]) := by kernel_rfl
theorem fo_188_0 : fldOff Try.prog 188 0 = some 0 := by kernel_rfl
theorem rt_186 : rowTy Try.prog 186 = some (194, 4, 24) := by kernel_rfl
theorem fo_188_1 : fldOff Try.prog 188 1 = some 1 := by kernel_rfl
theorem ts_186 : tySz Try.prog 186 = some (false, 1) := by kernel_rfl
theorem cb_198 : callable Try.prog 198 = true := by kernel_rfl
theorem te_186 : tyElem Try.prog 186 = some 194 := by kernel_rfl
theorem fo_188_2 : fldOff Try.prog 188 2 = some 2 := by kernel_rfl
theorem ts_188 : tySz Try.prog 188 = some (true, 3) := by kernel_rfl
theorem fo_117_1 : fldOff Try.prog 117 1 = some 1 := by kernel_rfl
theorem fo_117_2 : fldOff Try.prog 117 2 = some 2 := by kernel_rfl
theorem fo_117_3 : fldOff Try.prog 117 3 = some 3 := by kernel_rfl
theorem fo_117_4 : fldOff Try.prog 117 4 = some 4 := by kernel_rfl
theorem rt_115 : rowTy Try.prog 115 = some (188, 3, 48) := by kernel_rfl
theorem fo_117_5 : fldOff Try.prog 117 5 = some 5 := by kernel_rfl
theorem ts_115 : tySz Try.prog 115 = some (false, 1) := by kernel_rfl
theorem cb_176 : callable Try.prog 176 = true := by kernel_rfl
theorem te_115 : tyElem Try.prog 115 = some 188 := by kernel_rfl
theorem fo_117_6 : fldOff Try.prog 117 6 = some 6 := by kernel_rfl
theorem fo_117_0 : fldOff Try.prog 117 0 = some 0 := by kernel_rfl
theorem tz_117 : tyZero Try.prog 117 = some (.agg #[.int .i16 0, .int .i32 0, .bool false, .int .i16 0, .pointer none, .slice none 0 0, .map none]) := by kernel_rfl
theorem cb_174 : callable Try.prog 174 = true := by kernel_rfl
theorem cb_113 : callable Try.prog 113 = true := by kernel_rfl
theorem cb_114 : callable Try.prog 114 = true := by kernel_rfl
theorem fok_117 : fldsOk Try.prog 117 = true := by kernel_rfl
theorem cb_116 : callable Try.prog 116 = true := by kernel_rfl
theorem cb_117 : callable Try.prog 117 = true := by kernel_rfl
theorem cb_118 : callable Try.prog 118 = true := by kernel_rfl
theorem cb_48 : callable Try.prog 48 = true := by kernel_rfl
theorem cb_49 : callable Try.prog 49 = true := by kernel_rfl
theorem cb_50 : callable Try.prog 50 = true := by kernel_rfl
theorem cb_121 : callable Try.prog 121 = true := by kernel_rfl
theorem tz_196 : tyZero Try.prog 196 = some (.agg #[.int .i32 0, .string .empty, .int .i32 0, .pointer none, .bool false, .map none]) := by kernel_rfl
theorem fo_196_0 : fldOff Try.prog 196 0 = some 0 := by kernel_rfl
theorem fo_196_1 : fldOff Try.prog 196 1 = some 1 := by kernel_rfl
theorem fo_196_2 : fldOff Try.prog 196 2 = some 2 := by kernel_rfl
theorem fo_196_3 : fldOff Try.prog 196 3 = some 3 := by kernel_rfl
theorem fo_196_4 : fldOff Try.prog 196 4 = some 4 := by kernel_rfl
theorem fo_196_5 : fldOff Try.prog 196 5 = some 5 := by kernel_rfl
theorem ts_196 : tySz Try.prog 196 = some (true, 6) := by kernel_rfl
theorem fo_124_1 : fldOff Try.prog 124 1 = some 1 := by kernel_rfl
theorem fo_124_2 : fldOff Try.prog 124 2 = some 2 := by kernel_rfl
theorem fo_124_3 : fldOff Try.prog 124 3 = some 3 := by kernel_rfl
theorem ti_121 : tyInt Try.prog 121 = some .i8 := by kernel_rfl
theorem fo_124_4 : fldOff Try.prog 124 4 = some 4 := by kernel_rfl
theorem ts_121 : tySz Try.prog 121 = some (false, 1) := by kernel_rfl
theorem fo_124_5 : fldOff Try.prog 124 5 = some 5 := by kernel_rfl
theorem fo_124_6 : fldOff Try.prog 124 6 = some 6 := by kernel_rfl
theorem rt_122 : rowTy Try.prog 122 = some (196, 6, 56) := by kernel_rfl
theorem fo_124_7 : fldOff Try.prog 124 7 = some 7 := by kernel_rfl
theorem ts_122 : tySz Try.prog 122 = some (false, 1) := by kernel_rfl
theorem cb_179 : callable Try.prog 179 = true := by kernel_rfl
theorem te_122 : tyElem Try.prog 122 = some 196 := by kernel_rfl
theorem fo_124_8 : fldOff Try.prog 124 8 = some 8 := by kernel_rfl
theorem fo_124_9 : fldOff Try.prog 124 9 = some 9 := by kernel_rfl
theorem fo_124_0 : fldOff Try.prog 124 0 = some 0 := by kernel_rfl
theorem tz_124 : tyZero Try.prog 124 = some (.agg #[.int .i16 0, .int .i32 0, .int .i16 0, .pointer none, .int .i8 0, .string .empty, .int .i32 0, .slice none 0 0, .int .i32 0, .map none]) := by kernel_rfl
theorem cb_178 : callable Try.prog 178 = true := by kernel_rfl
theorem cb_119 : callable Try.prog 119 = true := by kernel_rfl
theorem cb_120 : callable Try.prog 120 = true := by kernel_rfl
theorem fok_124 : fldsOk Try.prog 124 = true := by kernel_rfl
theorem cb_122 : callable Try.prog 122 = true := by kernel_rfl
theorem cb_123 : callable Try.prog 123 = true := by kernel_rfl
theorem cb_124 : callable Try.prog 124 = true := by kernel_rfl
theorem cb_51 : callable Try.prog 51 = true := by kernel_rfl
theorem cb_52 : callable Try.prog 52 = true := by kernel_rfl
theorem cb_53 : callable Try.prog 53 = true := by kernel_rfl
theorem cb_182 : callable Try.prog 182 = true := by kernel_rfl
theorem cb_127 : callable Try.prog 127 = true := by kernel_rfl
theorem tz_207 : tyZero Try.prog 207 = some (.agg #[.int .i32 0, .int .i32 0, .int .i32 0, .int .u8 0, .int .u8 0, .int .u8 0, .int .u8 0, .int .u8 0, .int .u8 0, .int .u8 0, .int .u8 0, .int .u8 0, .int .u8 0, .int .u8 0, .int .u8 0, .int .u8 0, .int .u8 0, .int .u8 0, .int .u8 0, .int .u8 0, .int .u8 0, .int .u8 0, .int .u8 0, .int .u8 0, .int .u8 0, .int .u8 0, .int .u8 0, .int .u8 0, .int .u8 0, .int .u8 0, .int .u8 0, .int .u8 0, .int .u8 0, .int .u8 0, .int .u8 0, .int .i32 0, .int .i64 0, .bool false, .map none]) := by kernel_rfl
theorem fo_207_0 : fldOff Try.prog 207 0 = some 0 := by kernel_rfl
theorem fo_207_1 : fldOff Try.prog 207 1 = some 1 := by kernel_rfl
theorem fo_207_2 : fldOff Try.prog 207 2 = some 2 := by kernel_rfl
theorem fo_207_3 : fldOff Try.prog 207 3 = some 3 := by kernel_rfl
theorem fo_207_4 : fldOff Try.prog 207 4 = some 19 := by kernel_rfl
theorem fo_207_5 : fldOff Try.prog 207 5 = some 35 := by kernel_rfl
theorem fo_207_6 : fldOff Try.prog 207 6 = some 36 := by kernel_rfl
theorem fo_207_7 : fldOff Try.prog 207 7 = some 37 := by kernel_rfl
theorem fo_207_8 : fldOff Try.prog 207 8 = some 38 := by kernel_rfl
theorem ts_207 : tySz Try.prog 207 = some (true, 39) := by kernel_rfl
theorem tz_202 : tyZero Try.prog 202 = some (.agg #[.string .empty, .slice none 0 0, .map none]) := by kernel_rfl
theorem fo_202_0 : fldOff Try.prog 202 0 = some 0 := by kernel_rfl
theorem rt_200 : rowTy Try.prog 200 = some (207, 39, 72) := by kernel_rfl
theorem fo_202_1 : fldOff Try.prog 202 1 = some 1 := by kernel_rfl
theorem ts_200 : tySz Try.prog 200 = some (false, 1) := by kernel_rfl
theorem cb_199 : callable Try.prog 199 = true := by kernel_rfl
theorem te_200 : tyElem Try.prog 200 = some 207 := by kernel_rfl
theorem fo_202_2 : fldOff Try.prog 202 2 = some 2 := by kernel_rfl
theorem ts_202 : tySz Try.prog 202 = some (true, 3) := by kernel_rfl
theorem fo_130_1 : fldOff Try.prog 130 1 = some 1 := by kernel_rfl
theorem fo_130_2 : fldOff Try.prog 130 2 = some 2 := by kernel_rfl
theorem rt_128 : rowTy Try.prog 128 = some (202, 3, 48) := by kernel_rfl
theorem fo_130_3 : fldOff Try.prog 130 3 = some 3 := by kernel_rfl
theorem ts_128 : tySz Try.prog 128 = some (false, 1) := by kernel_rfl
theorem cb_183 : callable Try.prog 183 = true := by kernel_rfl
theorem te_128 : tyElem Try.prog 128 = some 202 := by kernel_rfl
theorem fo_130_4 : fldOff Try.prog 130 4 = some 4 := by kernel_rfl
theorem fo_130_0 : fldOff Try.prog 130 0 = some 0 := by kernel_rfl
theorem tz_130 : tyZero Try.prog 130 = some (.agg #[.int .i16 0, .pointer none, .int .i32 0, .slice none 0 0, .map none]) := by kernel_rfl
theorem cb_181 : callable Try.prog 181 = true := by kernel_rfl
theorem cb_125 : callable Try.prog 125 = true := by kernel_rfl
theorem cb_126 : callable Try.prog 126 = true := by kernel_rfl
theorem fok_130 : fldsOk Try.prog 130 = true := by kernel_rfl
theorem cb_128 : callable Try.prog 128 = true := by kernel_rfl
theorem cb_129 : callable Try.prog 129 = true := by kernel_rfl
theorem cb_130 : callable Try.prog 130 = true := by kernel_rfl
theorem cb_54 : callable Try.prog 54 = true := by kernel_rfl
theorem cb_55 : callable Try.prog 55 = true := by kernel_rfl
theorem cb_56 : callable Try.prog 56 = true := by kernel_rfl
end Go.Proofs.Ytojbmnelohjhmaa
