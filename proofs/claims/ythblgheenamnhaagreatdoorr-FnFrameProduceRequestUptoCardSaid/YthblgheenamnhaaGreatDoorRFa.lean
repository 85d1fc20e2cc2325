/- Facts of the program by computation. No statement of the seat stands here. -/
import Derived.Test.YthblgheenamnhaaGreatDoorRL4
import Derived.Test.YthblgheenamnhaaGreatDoorRRows
import Derived.KernelRfl
namespace Go.Proofs.YthblgheenamnhaaGreatDoorR
open Go Go.Mk
theorem mixed:Tryz.prog.follows .mixedOrders = true:=Tryz.checked.mixed
theorem te_24:tyElem Tryz.prog 24 = some 5:=by kernel_rfl
theorem ts_5:tySz Tryz.prog 5 = some (false,1):=by kernel_rfl
theorem un_5:(Tryz.prog.underlying 5).isSome = true:=by kernel_rfl
theorem ti_167:tyInt Tryz.prog 167 = some .u16:=by kernel_rfl
theorem ti_65:tyInt Tryz.prog 65 = some .u32:=by kernel_rfl
theorem ti_80:tyInt Tryz.prog 80 = some .u64:=by kernel_rfl
theorem fo_109_0:fldOff Tryz.prog 109 0 = some 0:=by kernel_rfl
theorem ts_24:tySz Tryz.prog 24 = some (false,1):=by kernel_rfl
theorem fo_109_1:fldOff Tryz.prog 109 1 = some 1:=by kernel_rfl
theorem ts_4:tySz Tryz.prog 4 = some (false,1):=by kernel_rfl
theorem ts_164:tySz Tryz.prog 164 = some (true,0):=by kernel_rfl
theorem cb_116:cb0 Tryz.prog 116 = true:=by kernel_rfl
theorem un_65:(Tryz.prog.underlying 65).isSome = true:=by kernel_rfl
theorem ti_21:tyInt Tryz.prog 21 = some .i32:=by kernel_rfl
theorem cb_118:cb0 Tryz.prog 118 = true:=by kernel_rfl
theorem un_167:(Tryz.prog.underlying 167).isSome = true:=by kernel_rfl
theorem ti_45:tyInt Tryz.prog 45 = some .i16:=by kernel_rfl
theorem cb_124:cb0 Tryz.prog 124 = true:=by kernel_rfl
theorem cb_117:cb0 Tryz.prog 117 = true:=by kernel_rfl
theorem un_80:(Tryz.prog.underlying 80).isSome = true:=by kernel_rfl
theorem ti_2:tyInt Tryz.prog 2 = some .i64:=by kernel_rfl
theorem ts_55:tySz Tryz.prog 55 = some (false,1):=by kernel_rfl
theorem iy_24:isBytesTy Tryz.prog 24 = true:=by kernel_rfl
theorem cb_90:cb0 Tryz.prog 90 = true:=by kernel_rfl
theorem un_21:(Tryz.prog.underlying 21).isSome = true:=by kernel_rfl
theorem ti_3:tyInt Tryz.prog 3 = some .i64:=by kernel_rfl
theorem cb_94:cb0 Tryz.prog 94 = true:=by kernel_rfl
theorem un_45:(Tryz.prog.underlying 45).isSome = true:=by kernel_rfl
theorem cb_115:cb0 Tryz.prog 115 = true:=by kernel_rfl
theorem tz_9:tyZero Tryz.prog 9 = some (.string .empty):=by kernel_rfl
theorem ts_9:tySz Tryz.prog 9 = some (false,1):=by kernel_rfl
theorem cb_123:cb0 Tryz.prog 123 = true:=by kernel_rfl
theorem cb_113:cb0 Tryz.prog 113 = true:=by kernel_rfl
theorem ti_126:tyInt Tryz.prog 126 = some .i8:=by kernel_rfl
theorem fo_72_0:fldOff Tryz.prog 72 0 = some 0:=by kernel_rfl
theorem ts_70:tySz Tryz.prog 70 = some (false,1):=by kernel_rfl
theorem im_70:isMapTy Tryz.prog 70 = true:=by kernel_rfl
theorem mt_70:mapTy Tryz.prog 70 = some (65,24):=by kernel_rfl
theorem tz_72:tyZero Tryz.prog 72 = some (.agg #[.map none]):=by kernel_rfl
theorem ts_72:tySz Tryz.prog 72 = some (true,1):=by kernel_rfl
theorem cb_119:cb0 Tryz.prog 119 = true:=by kernel_rfl
theorem tz_115:tyZero Tryz.prog 115 = some (.agg #[.int .u8 0,.int .u8 0,.int .u8 0,.int .u8 0,.int .u8 0,.int .u8 0,.int .u8 0,.int .u8 0,.int .u8 0,.int .u8 0,.int .u8 0,.int .u8 0,.int .u8 0,.int .u8 0,.int .u8 0,.int .u8 0]):=by kernel_rfl
theorem ts_115:tySz Tryz.prog 115 = some (true,16):=by kernel_rfl
theorem at_115:tyArr Tryz.prog 115 = some (16,5):=by kernel_rfl
theorem cz_5:(Tryz.prog.info? 5).map (·.size) = some 1:=by kernel_rfl
theorem fo_95_3:fldOff Tryz.prog 95 3 = some 3:=by kernel_rfl
theorem ts_21:tySz Tryz.prog 21 = some (false,1):=by kernel_rfl
theorem fo_101_3:fldOff Tryz.prog 101 3 = some 3:=by kernel_rfl
theorem fo_123_4:fldOff Tryz.prog 123 4 = some 4:=by kernel_rfl
theorem cb_51:cb0 Tryz.prog 51 = true:=by kernel_rfl
theorem cb_65:cb0 Tryz.prog 65 = true:=by kernel_rfl
theorem cb_67:cb0 Tryz.prog 67 = true:=by kernel_rfl
theorem cb_70:cb0 Tryz.prog 70 = true:=by kernel_rfl
theorem cb_81:cb0 Tryz.prog 81 = true:=by kernel_rfl
theorem cb_82:cb0 Tryz.prog 82 = true:=by kernel_rfl
theorem cb_83:cb0 Tryz.prog 83 = true:=by kernel_rfl
theorem cb_84:cb0 Tryz.prog 84 = true:=by kernel_rfl
theorem cb_85:cb0 Tryz.prog 85 = true:=by kernel_rfl
theorem cb_86:cb0 Tryz.prog 86 = true:=by kernel_rfl
theorem cb_87:cb0 Tryz.prog 87 = true:=by kernel_rfl
theorem cb_88:cb0 Tryz.prog 88 = true:=by kernel_rfl
theorem cb_89:cb0 Tryz.prog 89 = true:=by kernel_rfl
theorem cb_91:cb0 Tryz.prog 91 = true:=by kernel_rfl
theorem cb_92:cb0 Tryz.prog 92 = true:=by kernel_rfl
theorem cb_93:cb0 Tryz.prog 93 = true:=by kernel_rfl
theorem cb_95:cb0 Tryz.prog 95 = true:=by kernel_rfl
theorem cb_101:cb0 Tryz.prog 101 = true:=by kernel_rfl
theorem cb_103:cb0 Tryz.prog 103 = true:=by kernel_rfl
theorem cb_104:cb0 Tryz.prog 104 = true:=by kernel_rfl
theorem cb_105:cb0 Tryz.prog 105 = true:=by kernel_rfl
theorem cb_106:cb0 Tryz.prog 106 = true:=by kernel_rfl
theorem cb_107:cb0 Tryz.prog 107 = true:=by kernel_rfl
theorem cb_108:cb0 Tryz.prog 108 = true:=by kernel_rfl
theorem cb_109:cb0 Tryz.prog 109 = true:=by kernel_rfl
theorem cb_110:cb0 Tryz.prog 110 = true:=by kernel_rfl
theorem cb_111:cb0 Tryz.prog 111 = true:=by kernel_rfl
theorem cb_112:cb0 Tryz.prog 112 = true:=by kernel_rfl
theorem fo_67_1:fldOff Tryz.prog 67 1 = some 1:=by kernel_rfl
theorem te_26:tyElem Tryz.prog 26 = some 67:=by kernel_rfl
theorem ts_67:tySz Tryz.prog 67 = some (true,2):=by kernel_rfl
theorem tz_67:tyZero Tryz.prog 67 = some (.agg #[.int .u32 0,.slice none 0 0]):=by kernel_rfl
theorem cb_50:cb0 Tryz.prog 50 = true:=by kernel_rfl
theorem fo_28_1:fldOff Tryz.prog 28 1 = some 1:=by kernel_rfl
theorem fo_28_3:fldOff Tryz.prog 28 3 = some 3:=by kernel_rfl
theorem ts_25:tySz Tryz.prog 25 = some (false,1):=by kernel_rfl
theorem te_25:tyElem Tryz.prog 25 = some 28:=by kernel_rfl
theorem fo_28_4:fldOff Tryz.prog 28 4 = some 4:=by kernel_rfl
theorem ts_26:tySz Tryz.prog 26 = some (false,1):=by kernel_rfl
theorem cb_26:cb0 Tryz.prog 26 = true:=by kernel_rfl
theorem tz_28:tyZero Tryz.prog 28 = some (.agg #[.int .i64 0,.slice none 0 0,.bool false,.slice none 0 0,.slice none 0 0]):=by kernel_rfl
theorem ts_28:tySz Tryz.prog 28 = some (true,5):=by kernel_rfl
theorem fok_28:fldsOk Tryz.prog 28 = true:=by kernel_rfl
theorem fo_50_1:fldOff Tryz.prog 50 1 = some 1:=by kernel_rfl
theorem ts_3:tySz Tryz.prog 3 = some (false,1):=by kernel_rfl
theorem fo_50_2:fldOff Tryz.prog 50 2 = some 2:=by kernel_rfl
theorem fo_28_2:fldOff Tryz.prog 28 2 = some 2:=by kernel_rfl
theorem fo_50_3:fldOff Tryz.prog 50 3 = some 3:=by kernel_rfl
theorem te_32:tyElem Tryz.prog 32 = some 50:=by kernel_rfl
theorem ts_50:tySz Tryz.prog 50 = some (true,8):=by kernel_rfl
theorem tz_50:tyZero Tryz.prog 50 = some (.agg #[.int .i64 0,.int .i64 0,.int .i64 0,.int .i64 0,.int .i64 0,.int .i64 0,.int .i64 0,.slice none 0 0]):=by kernel_rfl
theorem fo_50_4:fldOff Tryz.prog 50 4 = some 4:=by kernel_rfl
theorem un_3:(Tryz.prog.underlying 3).isSome = true:=by kernel_rfl
theorem un_2:(Tryz.prog.underlying 2).isSome = true:=by kernel_rfl
theorem ti_5:tyInt Tryz.prog 5 = some .u8:=by kernel_rfl
theorem rt_24:rowTy Tryz.prog 24 = some (5,1,1):=by kernel_rfl
theorem tz_5:tyZero Tryz.prog 5 = some (.int .u8 0):=by kernel_rfl
theorem cb_58:cb0 Tryz.prog 58 = true:=by kernel_rfl
theorem cb_34:cb0 Tryz.prog 34 = true:=by kernel_rfl
theorem cb_56:cb0 Tryz.prog 56 = true:=by kernel_rfl
theorem fo_67_0:fldOff Tryz.prog 67 0 = some 0:=by kernel_rfl
theorem ts_65:tySz Tryz.prog 65 = some (false,1):=by kernel_rfl
theorem fok_67:fldsOk Tryz.prog 67 = true:=by kernel_rfl
theorem rt_26:rowTy Tryz.prog 26 = some (67,2,32):=by kernel_rfl
theorem fo_28_0:fldOff Tryz.prog 28 0 = some 0:=by kernel_rfl
theorem ts_2:tySz Tryz.prog 2 = some (false,1):=by kernel_rfl
theorem cb_60:cb0 Tryz.prog 60 = true:=by kernel_rfl
theorem cb_76:cb0 Tryz.prog 76 = true:=by kernel_rfl
theorem cb_30:cb0 Tryz.prog 30 = true:=by kernel_rfl
theorem cb_78:cb0 Tryz.prog 78 = true:=by kernel_rfl
theorem cb_74:cb0 Tryz.prog 74 = true:=by kernel_rfl
theorem fo_50_0:fldOff Tryz.prog 50 0 = some 0:=by kernel_rfl
theorem cb_75:cb0 Tryz.prog 75 = true:=by kernel_rfl
theorem fo_50_6:fldOff Tryz.prog 50 6 = some 6:=by kernel_rfl
theorem fo_50_7:fldOff Tryz.prog 50 7 = some 7:=by kernel_rfl
theorem ts_32:tySz Tryz.prog 32 = some (false,1):=by kernel_rfl
theorem cb_77:cb0 Tryz.prog 77 = true:=by kernel_rfl
theorem cb_53:cb0 Tryz.prog 53 = true:=by kernel_rfl
theorem cb_55:cb0 Tryz.prog 55 = true:=by kernel_rfl
theorem cb_54:cb0 Tryz.prog 54 = true:=by kernel_rfl
theorem cb_59:cb0 Tryz.prog 59 = true:=by kernel_rfl
theorem fo_34_0:fldOff Tryz.prog 34 0 = some 0:=by kernel_rfl
theorem fo_34_1:fldOff Tryz.prog 34 1 = some 1:=by kernel_rfl
theorem cb_120:cb0 Tryz.prog 120 = true:=by kernel_rfl
theorem cb_121:cb0 Tryz.prog 121 = true:=by kernel_rfl
theorem cb_154:cb0 Tryz.prog 154 = true:=by kernel_rfl
theorem cb_98:cb0 Tryz.prog 98 = true:=by kernel_rfl
theorem cb_97:cb0 Tryz.prog 97 = true:=by kernel_rfl
theorem cb_158:cb0 Tryz.prog 158 = true:=by kernel_rfl
theorem cb_155:cb0 Tryz.prog 155 = true:=by kernel_rfl
theorem un_126:(Tryz.prog.underlying 126).isSome = true:=by kernel_rfl
theorem cb_151:cb0 Tryz.prog 151 = true:=by kernel_rfl
theorem ip_92:isPtrTy Tryz.prog 92 = true:=by kernel_rfl
theorem cb_122:cb0 Tryz.prog 122 = true:=by kernel_rfl
theorem cb_145:cb0 Tryz.prog 145 = true:=by kernel_rfl
theorem te_199:tyElem Tryz.prog 199 = some 65:=by kernel_rfl
theorem ts_199:tySz Tryz.prog 199 = some (false,1):=by kernel_rfl
theorem tz_199:tyZero Tryz.prog 199 = some (.slice none 0 0):=by kernel_rfl
theorem tz_65:tyZero Tryz.prog 65 = some (.int .u32 0):=by kernel_rfl
theorem rt_199:rowTy Tryz.prog 199 = some (65,1,4):=by kernel_rfl
theorem cb_160:cb0 Tryz.prog 160 = true:=by kernel_rfl
theorem cb_159:cb0 Tryz.prog 159 = true:=by kernel_rfl
theorem cb_157:cb0 Tryz.prog 157 = true:=by kernel_rfl
theorem cb_156:cb0 Tryz.prog 156 = true:=by kernel_rfl
theorem cb_99:cb0 Tryz.prog 99 = true:=by kernel_rfl
theorem cb_146:cb0 Tryz.prog 146 = true:=by kernel_rfl
theorem cb_147:cb0 Tryz.prog 147 = true:=by kernel_rfl
theorem cb_148:cb0 Tryz.prog 148 = true:=by kernel_rfl
theorem cb_149:cb0 Tryz.prog 149 = true:=by kernel_rfl
theorem cb_150:cb0 Tryz.prog 150 = true:=by kernel_rfl
theorem cb_152:cb0 Tryz.prog 152 = true:=by kernel_rfl
theorem cb_153:cb0 Tryz.prog 153 = true:=by kernel_rfl
theorem cb_194:cb0 Tryz.prog 194 = true:=by kernel_rfl
theorem cb_195:cb0 Tryz.prog 195 = true:=by kernel_rfl
theorem cb_196:cb0 Tryz.prog 196 = true:=by kernel_rfl
theorem cb_205:cb0 Tryz.prog 205 = true:=by kernel_rfl
theorem cb_206:cb0 Tryz.prog 206 = true:=by kernel_rfl
theorem fa_50_0:fldAt Tryz.prog 50 0 = some (0,1):=by kernel_rfl
theorem fa_50_2:fldAt Tryz.prog 50 2 = some (2,1):=by kernel_rfl
theorem fa_50_3:fldAt Tryz.prog 50 3 = some (3,1):=by kernel_rfl
theorem fa_50_4:fldAt Tryz.prog 50 4 = some (4,1):=by kernel_rfl
theorem fok_50:fldsOk Tryz.prog 50 = true:=by kernel_rfl
theorem rt_32:rowTy Tryz.prog 32 = some (50,8,80):=by kernel_rfl
theorem fa_50_1:fldAt Tryz.prog 50 1 = some (1,1):=by kernel_rfl
theorem fa_50_5:fldAt Tryz.prog 50 5 = some (5,1):=by kernel_rfl
theorem cb_73:cb0 Tryz.prog 73 = true:=by kernel_rfl
theorem fa_50_6:fldAt Tryz.prog 50 6 = some (6,1):=by kernel_rfl
theorem fa_50_7:fldAt Tryz.prog 50 7 = some (7,1):=by kernel_rfl
theorem cb_52:cb0 Tryz.prog 52 = true:=by kernel_rfl
theorem tz_34:tyZero Tryz.prog 34 = some (.agg #[.slice none 0 0,.int .i64 0]):=by kernel_rfl
theorem cb_29:cb0 Tryz.prog 29 = true:=by kernel_rfl
theorem fa_34_1:fldAt Tryz.prog 34 1 = some (1,1):=by kernel_rfl
theorem fa_34_0:fldAt Tryz.prog 34 0 = some (0,1):=by kernel_rfl
theorem fok_34:fldsOk Tryz.prog 34 = true:=by kernel_rfl
theorem ts_34:tySz Tryz.prog 34 = some (true,2):=by kernel_rfl
theorem cb_61:cb0 Tryz.prog 61 = true:=by kernel_rfl
theorem tz_74:tyZero Tryz.prog 74 = some (.agg #[.int .i16 0,.string .empty,.slice none 0 0,.map none]):=by kernel_rfl
theorem cb_37:cb0 Tryz.prog 37 = true:=by kernel_rfl
theorem cb_66:cb0 Tryz.prog 66 = true:=by kernel_rfl
theorem tz_95:tyZero Tryz.prog 95 = some (.agg #[.int .i16 0,.string .empty,.int .i32 0,.int .i32 0,.string .empty,.pointer none,.string .empty,.slice none 0 0,.pointer none,.map none]):=by kernel_rfl
theorem cb_68:cb0 Tryz.prog 68 = true:=by kernel_rfl
theorem cb_42:cb0 Tryz.prog 42 = true:=by kernel_rfl
theorem cb_69:cb0 Tryz.prog 69 = true:=by kernel_rfl
theorem tz_98:tyZero Tryz.prog 98 = some (.agg #[.int .i16 0,.string .empty,.slice none 0 0,.map none]):=by kernel_rfl
theorem cb_71:cb0 Tryz.prog 71 = true:=by kernel_rfl
theorem cb_47:cb0 Tryz.prog 47 = true:=by kernel_rfl
theorem cb_72:cb0 Tryz.prog 72 = true:=by kernel_rfl
theorem tz_101:tyZero Tryz.prog 101 = some (.agg #[.int .i16 0,.pointer none,.int .i16 0,.int .i32 0,.slice none 0 0,.map none]):=by kernel_rfl
theorem tz_134:tyZero Tryz.prog 134 = some (.agg #[.pointer none]):=by kernel_rfl
theorem tz_137:tyZero Tryz.prog 137 = some (.agg #[.nilFunc]):=by kernel_rfl
theorem fok_137:fldsOk Tryz.prog 137 = true:=by kernel_rfl
theorem fa_137_0:fldAt Tryz.prog 137 0 = some (0,1):=by kernel_rfl
theorem fo_134_0:fldOff Tryz.prog 134 0 = some 0:=by kernel_rfl
theorem fo_137_0:fldOff Tryz.prog 137 0 = some 0:=by kernel_rfl
theorem ts_92:tySz Tryz.prog 92 = some (false,1):=by kernel_rfl
theorem ts_135:tySz Tryz.prog 135 = some (false,1):=by kernel_rfl
theorem te_132:tyElem Tryz.prog 132 = some 89:=by kernel_rfl
theorem ts_89:tySz Tryz.prog 89 = some (false,1):=by kernel_rfl
theorem cb_96:cb0 Tryz.prog 96 = true:=by kernel_rfl
theorem cb_208:cb0 Tryz.prog 208 = true:=by kernel_rfl
theorem is_9:isStrTy Tryz.prog 9 = true:=by kernel_rfl
theorem fo_95_0:fldOff Tryz.prog 95 0 = some 0:=by kernel_rfl
theorem ts_45:tySz Tryz.prog 45 = some (false,1):=by kernel_rfl
theorem cb_193:cb0 Tryz.prog 193 = true:=by kernel_rfl
theorem cb_191:cb0 Tryz.prog 191 = true:=by kernel_rfl
theorem cb_192:cb0 Tryz.prog 192 = true:=by kernel_rfl
theorem cb_190:cb0 Tryz.prog 190 = true:=by kernel_rfl
theorem cb_35:cb0 Tryz.prog 35 = true:=by kernel_rfl
theorem cb_36:cb0 Tryz.prog 36 = true:=by kernel_rfl
theorem fo_23_0:fldOff Tryz.prog 23 0 = some 0:=by kernel_rfl
theorem fo_23_1:fldOff Tryz.prog 23 1 = some 1:=by kernel_rfl
theorem cb_62:cb0 Tryz.prog 62 = true:=by kernel_rfl
theorem cb_63:cb0 Tryz.prog 63 = true:=by kernel_rfl
theorem cb_64:cb0 Tryz.prog 64 = true:=by kernel_rfl
theorem rt_132:rowTy Tryz.prog 132 = some (89,1,16):=by kernel_rfl
theorem tz_89:tyZero Tryz.prog 89 = some (.nilIface):=by kernel_rfl
theorem cb_38:cb0 Tryz.prog 38 = true:=by kernel_rfl
theorem cb_39:cb0 Tryz.prog 39 = true:=by kernel_rfl
theorem ts_23:tySz Tryz.prog 23 = some (true,2):=by kernel_rfl
theorem cb_33:cb0 Tryz.prog 33 = true:=by kernel_rfl
theorem cb_7:cb0 Tryz.prog 7 = true:=by kernel_rfl
theorem cb_8:cb0 Tryz.prog 8 = true:=by kernel_rfl
theorem cb_17:cb0 Tryz.prog 17 = true:=by kernel_rfl
theorem cb_18:cb0 Tryz.prog 18 = true:=by kernel_rfl
theorem cb_11:cb0 Tryz.prog 11 = true:=by kernel_rfl
theorem cb_12:cb0 Tryz.prog 12 = true:=by kernel_rfl
theorem cb_19:cb0 Tryz.prog 19 = true:=by kernel_rfl
theorem cb_16:cb0 Tryz.prog 16 = true:=by kernel_rfl
theorem cb_15:cb0 Tryz.prog 15 = true:=by kernel_rfl
theorem cb_14:cb0 Tryz.prog 14 = true:=by kernel_rfl
theorem fo_74_0:fldOff Tryz.prog 74 0 = some 0:=by kernel_rfl
theorem cb_27:cb0 Tryz.prog 27 = true:=by kernel_rfl
theorem cb_28:cb0 Tryz.prog 28 = true:=by kernel_rfl
theorem cb_31:cb0 Tryz.prog 31 = true:=by kernel_rfl
theorem cb_32:cb0 Tryz.prog 32 = true:=by kernel_rfl
theorem cb_144:cb0 Tryz.prog 144 = true:=by kernel_rfl
theorem cb_142:cb0 Tryz.prog 142 = true:=by kernel_rfl
theorem cb_143:cb0 Tryz.prog 143 = true:=by kernel_rfl
theorem cb_141:cb0 Tryz.prog 141 = true:=by kernel_rfl
theorem fo_98_0:fldOff Tryz.prog 98 0 = some 0:=by kernel_rfl
theorem cb_40:cb0 Tryz.prog 40 = true:=by kernel_rfl
theorem cb_41:cb0 Tryz.prog 41 = true:=by kernel_rfl
theorem cb_43:cb0 Tryz.prog 43 = true:=by kernel_rfl
theorem cb_44:cb0 Tryz.prog 44 = true:=by kernel_rfl
theorem cb_200:cb0 Tryz.prog 200 = true:=by kernel_rfl
theorem cb_198:cb0 Tryz.prog 198 = true:=by kernel_rfl
theorem cb_199:cb0 Tryz.prog 199 = true:=by kernel_rfl
theorem cb_197:cb0 Tryz.prog 197 = true:=by kernel_rfl
theorem fo_101_0:fldOff Tryz.prog 101 0 = some 0:=by kernel_rfl
theorem cb_45:cb0 Tryz.prog 45 = true:=by kernel_rfl
theorem cb_46:cb0 Tryz.prog 46 = true:=by kernel_rfl
theorem cb_48:cb0 Tryz.prog 48 = true:=by kernel_rfl
theorem cb_49:cb0 Tryz.prog 49 = true:=by kernel_rfl
theorem cb_204:cb0 Tryz.prog 204 = true:=by kernel_rfl
theorem cb_202:cb0 Tryz.prog 202 = true:=by kernel_rfl
theorem cb_203:cb0 Tryz.prog 203 = true:=by kernel_rfl
theorem cb_201:cb0 Tryz.prog 201 = true:=by kernel_rfl
theorem cb_9:cb0 Tryz.prog 9 = true:=by kernel_rfl
theorem cb_10:cb0 Tryz.prog 10 = true:=by kernel_rfl
theorem cb_13:cb0 Tryz.prog 13 = true:=by kernel_rfl
theorem cb_20:cb0 Tryz.prog 20 = true:=by kernel_rfl
theorem cb_21:cb0 Tryz.prog 21 = true:=by kernel_rfl
theorem cb_22:cb0 Tryz.prog 22 = true:=by kernel_rfl
theorem cb_23:cb0 Tryz.prog 23 = true:=by kernel_rfl
theorem cb_24:cb0 Tryz.prog 24 = true:=by kernel_rfl
theorem cb_25:cb0 Tryz.prog 25 = true:=by kernel_rfl
end Go.Proofs.YthblgheenamnhaaGreatDoorR
