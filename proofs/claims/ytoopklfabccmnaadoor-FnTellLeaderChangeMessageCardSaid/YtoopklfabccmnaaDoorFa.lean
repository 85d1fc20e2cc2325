/- Facts of the program by computation. No statement of the seat stands here. -/
import Derived.Test.YtoopklfabccmnaaDoorL3
import Derived.Test.YtoopklfabccmnaaDoorRows
import Derived.KernelRfl
namespace Go.Proofs.YtoopklfabccmnaaDoor
open Go Go.Mk
theorem mixed : Tryd.prog.follows .mixedOrders = true := Tryd.checked.mixed
theorem te_22 : tyElem Tryd.prog 22 = some 5 := by kernel_rfl
theorem ts_5 : tySz Tryd.prog 5 = some (false, 1) := by kernel_rfl
theorem un_5 : (Tryd.prog.underlying 5).isSome = true := by kernel_rfl
theorem ti_105 : tyInt Tryd.prog 105 = some .u16 := by kernel_rfl
theorem ti_66 : tyInt Tryd.prog 66 = some .u32 := by kernel_rfl
theorem fo_89_0 : fldOff Tryd.prog 89 0 = some 0 := by kernel_rfl
theorem ts_22 : tySz Tryd.prog 22 = some (false, 1) := by kernel_rfl
theorem fo_89_1 : fldOff Tryd.prog 89 1 = some 1 := by kernel_rfl
theorem ts_4 : tySz Tryd.prog 4 = some (false, 1) := by kernel_rfl
theorem ts_107 : tySz Tryd.prog 107 = some (true, 0) := by kernel_rfl
theorem cb_54 : cb0 Tryd.prog 54 = true := by kernel_rfl
theorem un_66 : (Tryd.prog.underlying 66).isSome = true := by kernel_rfl
theorem ti_21 : tyInt Tryd.prog 21 = some .i32 := by kernel_rfl
theorem cb_53 : cb0 Tryd.prog 53 = true := by kernel_rfl
theorem un_105 : (Tryd.prog.underlying 105).isSome = true := by kernel_rfl
theorem ti_47 : tyInt Tryd.prog 47 = some .i16 := by kernel_rfl
theorem ts_56 : tySz Tryd.prog 56 = some (false, 1) := by kernel_rfl
theorem cb_40 : cb0 Tryd.prog 40 = true := by kernel_rfl
theorem un_21 : (Tryd.prog.underlying 21).isSome = true := by kernel_rfl
theorem ti_3 : tyInt Tryd.prog 3 = some .i64 := by kernel_rfl
theorem cb_65 : cb0 Tryd.prog 65 = true := by kernel_rfl
theorem cb_55 : cb0 Tryd.prog 55 = true := by kernel_rfl
theorem fo_51_0 : fldOff Tryd.prog 51 0 = some 0 := by kernel_rfl
theorem ts_49 : tySz Tryd.prog 49 = some (false, 1) := by kernel_rfl
theorem im_49 : isMapTy Tryd.prog 49 = true := by kernel_rfl
theorem mt_49 : mapTy Tryd.prog 49 = some (66, 22) := by kernel_rfl
theorem tz_51 : tyZero Tryd.prog 51 = some (.agg #[.map none]) := by kernel_rfl
theorem ts_51 : tySz Tryd.prog 51 = some (true, 1) := by kernel_rfl
theorem cb_56 : cb0 Tryd.prog 56 = true := by kernel_rfl
theorem cb_57 : cb0 Tryd.prog 57 = true := by kernel_rfl
theorem tz_76 : tyZero Tryd.prog 76 = some (.agg #[.int .u8 0, .int .u8 0, .int .u8 0, .int .u8 0, .int .u8 0, .int .u8 0, .int .u8 0, .int .u8 0, .int .u8 0, .int .u8 0, .int .u8 0, .int .u8 0, .int .u8 0, .int .u8 0, .int .u8 0, .int .u8 0]) := by kernel_rfl
theorem ts_76 : tySz Tryd.prog 76 = some (true, 16) := by kernel_rfl
theorem at_76 : tyArr Tryd.prog 76 = some (16, 5) := by kernel_rfl
theorem cz_5 : (Tryd.prog.info? 5).map (·.size) = some 1 := by kernel_rfl
theorem fo_68_1 : fldOff Tryd.prog 68 1 = some 1 := by kernel_rfl
theorem te_24 : tyElem Tryd.prog 24 = some 68 := by kernel_rfl
theorem ts_68 : tySz Tryd.prog 68 = some (true, 2) := by kernel_rfl
theorem tz_68 : tyZero Tryd.prog 68 = some (.agg #[.int .u32 0, .slice none 0 0]) := by kernel_rfl
theorem cb_26 : cb0 Tryd.prog 26 = true := by kernel_rfl
theorem fo_26_1 : fldOff Tryd.prog 26 1 = some 1 := by kernel_rfl
theorem fo_26_3 : fldOff Tryd.prog 26 3 = some 3 := by kernel_rfl
theorem ts_23 : tySz Tryd.prog 23 = some (false, 1) := by kernel_rfl
theorem te_23 : tyElem Tryd.prog 23 = some 26 := by kernel_rfl
theorem fo_26_4 : fldOff Tryd.prog 26 4 = some 4 := by kernel_rfl
theorem ts_24 : tySz Tryd.prog 24 = some (false, 1) := by kernel_rfl
theorem cb_11 : cb0 Tryd.prog 11 = true := by kernel_rfl
theorem tz_26 : tyZero Tryd.prog 26 = some (.agg #[.int .i64 0, .slice none 0 0, .bool false, .slice none 0 0, .slice none 0 0]) := by kernel_rfl
theorem ts_26 : tySz Tryd.prog 26 = some (true, 5) := by kernel_rfl
theorem fok_26 : fldsOk Tryd.prog 26 = true := by kernel_rfl
theorem fo_45_1 : fldOff Tryd.prog 45 1 = some 1 := by kernel_rfl
theorem ts_3 : tySz Tryd.prog 3 = some (false, 1) := by kernel_rfl
theorem fo_45_2 : fldOff Tryd.prog 45 2 = some 2 := by kernel_rfl
theorem fo_26_2 : fldOff Tryd.prog 26 2 = some 2 := by kernel_rfl
theorem fo_45_3 : fldOff Tryd.prog 45 3 = some 3 := by kernel_rfl
theorem te_28 : tyElem Tryd.prog 28 = some 45 := by kernel_rfl
theorem ts_45 : tySz Tryd.prog 45 = some (true, 8) := by kernel_rfl
theorem tz_45 : tyZero Tryd.prog 45 = some (.agg #[.int .i64 0, .int .i64 0, .int .i64 0, .int .i64 0, .int .i64 0, .int .i64 0, .int .i64 0, .slice none 0 0]) := by kernel_rfl
theorem fo_45_4 : fldOff Tryd.prog 45 4 = some 4 := by kernel_rfl
theorem un_3 : (Tryd.prog.underlying 3).isSome = true := by kernel_rfl
theorem un_2 : (Tryd.prog.underlying 2).isSome = true := by kernel_rfl
theorem ti_5 : tyInt Tryd.prog 5 = some .u8 := by kernel_rfl
theorem rt_22 : rowTy Tryd.prog 22 = some (5, 1, 1) := by kernel_rfl
theorem tz_5 : tyZero Tryd.prog 5 = some (.int .u8 0) := by kernel_rfl
theorem un_103 : (Tryd.prog.underlying 103).isSome = true := by kernel_rfl
theorem ti_103 : tyInt Tryd.prog 103 = some .u64 := by kernel_rfl
theorem cb_52 : cb0 Tryd.prog 52 = true := by kernel_rfl
theorem cb_16 : cb0 Tryd.prog 16 = true := by kernel_rfl
theorem cb_38 : cb0 Tryd.prog 38 = true := by kernel_rfl
theorem fo_68_0 : fldOff Tryd.prog 68 0 = some 0 := by kernel_rfl
theorem ts_66 : tySz Tryd.prog 66 = some (false, 1) := by kernel_rfl
theorem fok_68 : fldsOk Tryd.prog 68 = true := by kernel_rfl
theorem rt_24 : rowTy Tryd.prog 24 = some (68, 2, 32) := by kernel_rfl
theorem fo_26_0 : fldOff Tryd.prog 26 0 = some 0 := by kernel_rfl
theorem ts_2 : tySz Tryd.prog 2 = some (false, 1) := by kernel_rfl
theorem cb_25 : cb0 Tryd.prog 25 = true := by kernel_rfl
theorem cb_63 : cb0 Tryd.prog 63 = true := by kernel_rfl
theorem cb_33 : cb0 Tryd.prog 33 = true := by kernel_rfl
theorem cb_34 : cb0 Tryd.prog 34 = true := by kernel_rfl
theorem cb_35 : cb0 Tryd.prog 35 = true := by kernel_rfl
theorem fo_45_0 : fldOff Tryd.prog 45 0 = some 0 := by kernel_rfl
theorem cb_36 : cb0 Tryd.prog 36 = true := by kernel_rfl
theorem fo_45_6 : fldOff Tryd.prog 45 6 = some 6 := by kernel_rfl
theorem fo_45_7 : fldOff Tryd.prog 45 7 = some 7 := by kernel_rfl
theorem ts_28 : tySz Tryd.prog 28 = some (false, 1) := by kernel_rfl
theorem cb_64 : cb0 Tryd.prog 64 = true := by kernel_rfl
theorem cb_19 : cb0 Tryd.prog 19 = true := by kernel_rfl
theorem cb_18 : cb0 Tryd.prog 18 = true := by kernel_rfl
theorem cb_51 : cb0 Tryd.prog 51 = true := by kernel_rfl
theorem cb_23 : cb0 Tryd.prog 23 = true := by kernel_rfl
theorem fo_30_0 : fldOff Tryd.prog 30 0 = some 0 := by kernel_rfl
theorem fo_30_1 : fldOff Tryd.prog 30 1 = some 1 := by kernel_rfl
theorem ts_30 : tySz Tryd.prog 30 = some (true, 2) := by kernel_rfl
theorem cb_17 : cb0 Tryd.prog 17 = true := by kernel_rfl
theorem ti_104 : tyInt Tryd.prog 104 = some .i8 := by kernel_rfl
theorem un_104 : (Tryd.prog.underlying 104).isSome = true := by kernel_rfl
theorem ti_2 : tyInt Tryd.prog 2 = some .i64 := by kernel_rfl
theorem un_47 : (Tryd.prog.underlying 47).isSome = true := by kernel_rfl
theorem fo_35_0 : fldOff Tryd.prog 35 0 = some 0 := by kernel_rfl
theorem fo_35_1 : fldOff Tryd.prog 35 1 = some 1 := by kernel_rfl
theorem fo_35_2 : fldOff Tryd.prog 35 2 = some 2 := by kernel_rfl
theorem fa_26_0 : fldAt Tryd.prog 26 0 = some (0, 1) := by kernel_rfl
theorem fa_26_1 : fldAt Tryd.prog 26 1 = some (1, 1) := by kernel_rfl
theorem fa_26_2 : fldAt Tryd.prog 26 2 = some (2, 1) := by kernel_rfl
theorem fo_35_3 : fldOff Tryd.prog 35 3 = some 3 := by kernel_rfl
theorem ts_32 : tySz Tryd.prog 32 = some (false, 1) := by kernel_rfl
theorem te_32 : tyElem Tryd.prog 32 = some 35 := by kernel_rfl
theorem ts_35 : tySz Tryd.prog 35 = some (true, 5) := by kernel_rfl
theorem tz_35 : tyZero Tryd.prog 35 = some (.agg #[.int .i64 0, .slice none 0 0, .bool false, .slice none 0 0, .slice none 0 0]) := by kernel_rfl
theorem cb_10 : cb0 Tryd.prog 10 = true := by kernel_rfl
theorem rt_23 : rowTy Tryd.prog 23 = some (26, 5, 88) := by kernel_rfl
theorem fo_35_4 : fldOff Tryd.prog 35 4 = some 4 := by kernel_rfl
theorem ts_33 : tySz Tryd.prog 33 = some (false, 1) := by kernel_rfl
theorem te_33 : tyElem Tryd.prog 33 = some 71 := by kernel_rfl
theorem ts_71 : tySz Tryd.prog 71 = some (true, 2) := by kernel_rfl
theorem tz_71 : tyZero Tryd.prog 71 = some (.agg #[.int .u32 0, .slice none 0 0]) := by kernel_rfl
theorem fo_71_0 : fldOff Tryd.prog 71 0 = some 0 := by kernel_rfl
theorem fo_71_1 : fldOff Tryd.prog 71 1 = some 1 := by kernel_rfl
theorem fa_68_0 : fldAt Tryd.prog 68 0 = some (0, 1) := by kernel_rfl
theorem fa_68_1 : fldAt Tryd.prog 68 1 = some (1, 1) := by kernel_rfl
theorem ib_4 : isBoolTy Tryd.prog 4 = true := by kernel_rfl
theorem cb_24 : cb0 Tryd.prog 24 = true := by kernel_rfl
theorem cb_22 : cb0 Tryd.prog 22 = true := by kernel_rfl
theorem fo_45_5 : fldOff Tryd.prog 45 5 = some 5 := by kernel_rfl
theorem cb_37 : cb0 Tryd.prog 37 = true := by kernel_rfl
theorem cb_8 : cb0 Tryd.prog 8 = true := by kernel_rfl
theorem cb_21 : cb0 Tryd.prog 21 = true := by kernel_rfl
theorem rt_28 : rowTy Tryd.prog 28 = some (45, 8, 80) := by kernel_rfl
theorem fa_26_3 : fldAt Tryd.prog 26 3 = some (3, 1) := by kernel_rfl
theorem fa_45_0 : fldAt Tryd.prog 45 0 = some (0, 1) := by kernel_rfl
theorem fa_45_2 : fldAt Tryd.prog 45 2 = some (2, 1) := by kernel_rfl
theorem fa_45_3 : fldAt Tryd.prog 45 3 = some (3, 1) := by kernel_rfl
theorem fa_45_4 : fldAt Tryd.prog 45 4 = some (4, 1) := by kernel_rfl
theorem fok_45 : fldsOk Tryd.prog 45 = true := by kernel_rfl
theorem fa_45_1 : fldAt Tryd.prog 45 1 = some (1, 1) := by kernel_rfl
theorem tz_30 : tyZero Tryd.prog 30 = some (.agg #[.slice none 0 0, .int .i64 0]) := by kernel_rfl
theorem cb_12 : cb0 Tryd.prog 12 = true := by kernel_rfl
theorem fa_45_6 : fldAt Tryd.prog 45 6 = some (6, 1) := by kernel_rfl
theorem fa_45_7 : fldAt Tryd.prog 45 7 = some (7, 1) := by kernel_rfl
theorem fa_30_1 : fldAt Tryd.prog 30 1 = some (1, 1) := by kernel_rfl
theorem fa_30_0 : fldAt Tryd.prog 30 0 = some (0, 1) := by kernel_rfl
theorem fok_30 : fldsOk Tryd.prog 30 = true := by kernel_rfl
theorem cb_27 : cb0 Tryd.prog 27 = true := by kernel_rfl
theorem cb_39 : cb0 Tryd.prog 39 = true := by kernel_rfl
theorem cb_41 : cb0 Tryd.prog 41 = true := by kernel_rfl
theorem cb_42 : cb0 Tryd.prog 42 = true := by kernel_rfl
theorem cb_43 : cb0 Tryd.prog 43 = true := by kernel_rfl
theorem cb_44 : cb0 Tryd.prog 44 = true := by kernel_rfl
theorem cb_45 : cb0 Tryd.prog 45 = true := by kernel_rfl
theorem cb_46 : cb0 Tryd.prog 46 = true := by kernel_rfl
theorem cb_47 : cb0 Tryd.prog 47 = true := by kernel_rfl
theorem cb_28 : cb0 Tryd.prog 28 = true := by kernel_rfl
theorem tz_53 : tyZero Tryd.prog 53 = some (.agg #[.int .i16 0, .int .i32 0, .slice none 0 0, .slice none 0 0, .map none]) := by kernel_rfl
theorem ts_53 : tySz Tryd.prog 53 = some (true, 5) := by kernel_rfl
theorem te_98 : tyElem Tryd.prog 98 = some 66 := by kernel_rfl
theorem ts_98 : tySz Tryd.prog 98 = some (false, 1) := by kernel_rfl
theorem tz_98 : tyZero Tryd.prog 98 = some (.slice none 0 0) := by kernel_rfl
theorem tz_66 : tyZero Tryd.prog 66 = some (.int .u32 0) := by kernel_rfl
theorem rt_98 : rowTy Tryd.prog 98 = some (66, 1, 4) := by kernel_rfl
theorem cb_50 : cb0 Tryd.prog 50 = true := by kernel_rfl
theorem cb_49 : cb0 Tryd.prog 49 = true := by kernel_rfl
theorem cb_30 : cb0 Tryd.prog 30 = true := by kernel_rfl
theorem fo_78_0 : fldOff Tryd.prog 78 0 = some 0 := by kernel_rfl
theorem ts_21 : tySz Tryd.prog 21 = some (false, 1) := by kernel_rfl
theorem fo_78_1 : fldOff Tryd.prog 78 1 = some 1 := by kernel_rfl
theorem ar_76 : tyArr Tryd.prog 76 = some (16, 5) := by kernel_rfl
theorem cb_32 : cb0 Tryd.prog 32 = true := by kernel_rfl
theorem cb_48 : cb0 Tryd.prog 48 = true := by kernel_rfl
theorem fo_78_2 : fldOff Tryd.prog 78 2 = some 17 := by kernel_rfl
theorem fo_53_1 : fldOff Tryd.prog 53 1 = some 1 := by kernel_rfl
theorem fo_53_2 : fldOff Tryd.prog 53 2 = some 2 := by kernel_rfl
theorem ts_48 : tySz Tryd.prog 48 = some (false, 1) := by kernel_rfl
theorem te_48 : tyElem Tryd.prog 48 = some 78 := by kernel_rfl
theorem tz_4 : tyZero Tryd.prog 4 = some (.bool false) := by kernel_rfl
theorem ts_78 : tySz Tryd.prog 78 = some (true, 18) := by kernel_rfl
theorem cb_29 : cb0 Tryd.prog 29 = true := by kernel_rfl
theorem fo_53_3 : fldOff Tryd.prog 53 3 = some 3 := by kernel_rfl
theorem cb_31 : cb0 Tryd.prog 31 = true := by kernel_rfl
theorem fo_53_4 : fldOff Tryd.prog 53 4 = some 4 := by kernel_rfl
theorem cb_13 : cb0 Tryd.prog 13 = true := by kernel_rfl
theorem cb_14 : cb0 Tryd.prog 14 = true := by kernel_rfl
theorem cb_15 : cb0 Tryd.prog 15 = true := by kernel_rfl
theorem fo_53_0 : fldOff Tryd.prog 53 0 = some 0 := by kernel_rfl
theorem ts_47 : tySz Tryd.prog 47 = some (false, 1) := by kernel_rfl
theorem cb_4 : cb0 Tryd.prog 4 = true := by kernel_rfl
theorem cb_5 : cb0 Tryd.prog 5 = true := by kernel_rfl
theorem cb_7 : cb0 Tryd.prog 7 = true := by kernel_rfl
theorem cb_6 : cb0 Tryd.prog 6 = true := by kernel_rfl
theorem cb_9 : cb0 Tryd.prog 9 = true := by kernel_rfl
end Go.Proofs.YtoopklfabccmnaaDoor
