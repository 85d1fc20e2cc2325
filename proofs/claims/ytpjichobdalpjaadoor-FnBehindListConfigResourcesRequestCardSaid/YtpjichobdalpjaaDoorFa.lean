/- Facts of the program by computation. No statement of the seat stands here. -/
import Derived.Test.YtpjichobdalpjaaDoorL5
import Derived.Test.YtpjichobdalpjaaDoorRows
import Derived.KernelRfl
namespace Go.Proofs.YtpjichobdalpjaaDoor
open Go Go.Mk
theorem mixed : Tryd.prog.follows .mixedOrders = true := Tryd.checked.mixed
theorem te_22 : tyElem Tryd.prog 22 = some 5 := by kernel_rfl
theorem ts_5 : tySz Tryd.prog 5 = some (false, 1) := by kernel_rfl
theorem un_5 : (Tryd.prog.underlying 5).isSome = true := by kernel_rfl
theorem ti_52 : tyInt Tryd.prog 52 = some .u32 := by kernel_rfl
theorem fo_83_0 : fldOff Tryd.prog 83 0 = some 0 := by kernel_rfl
theorem ts_22 : tySz Tryd.prog 22 = some (false, 1) := by kernel_rfl
theorem fo_83_1 : fldOff Tryd.prog 83 1 = some 1 := by kernel_rfl
theorem ts_4 : tySz Tryd.prog 4 = some (false, 1) := by kernel_rfl
theorem ts_103 : tySz Tryd.prog 103 = some (true, 0) := by kernel_rfl
theorem cb_60 : callable Tryd.prog 60 = true := by kernel_rfl
theorem un_52 : (Tryd.prog.underlying 52).isSome = true := by kernel_rfl
theorem ti_21 : tyInt Tryd.prog 21 = some .i32 := by kernel_rfl
theorem ts_49 : tySz Tryd.prog 49 = some (false, 1) := by kernel_rfl
theorem cb_52 : callable Tryd.prog 52 = true := by kernel_rfl
theorem un_21 : (Tryd.prog.underlying 21).isSome = true := by kernel_rfl
theorem ti_3 : tyInt Tryd.prog 3 = some .i64 := by kernel_rfl
theorem cb_59 : callable Tryd.prog 59 = true := by kernel_rfl
theorem cb_51 : callable Tryd.prog 51 = true := by kernel_rfl
theorem ti_72 : tyInt Tryd.prog 72 = some .i8 := by kernel_rfl
theorem fo_59_0 : fldOff Tryd.prog 59 0 = some 0 := by kernel_rfl
theorem ts_57 : tySz Tryd.prog 57 = some (false, 1) := by kernel_rfl
theorem im_57 : isMapTy Tryd.prog 57 = true := by kernel_rfl
theorem mt_57 : mapTy Tryd.prog 57 = some (52, 22) := by kernel_rfl
theorem tz_59 : tyZero Tryd.prog 59 = some (.agg #[.map none]) := by kernel_rfl
theorem ts_59 : tySz Tryd.prog 59 = some (true, 1) := by kernel_rfl
theorem cb_54 : callable Tryd.prog 54 = true := by kernel_rfl
theorem cb_53 : callable Tryd.prog 53 = true := by kernel_rfl
theorem cb_19 : callable Tryd.prog 19 = true := by kernel_rfl
theorem cb_41 : callable Tryd.prog 41 = true := by kernel_rfl
theorem cb_42 : callable Tryd.prog 42 = true := by kernel_rfl
theorem cb_43 : callable Tryd.prog 43 = true := by kernel_rfl
theorem cb_44 : callable Tryd.prog 44 = true := by kernel_rfl
theorem cb_45 : callable Tryd.prog 45 = true := by kernel_rfl
theorem cb_46 : callable Tryd.prog 46 = true := by kernel_rfl
theorem fo_54_1 : fldOff Tryd.prog 54 1 = some 1 := by kernel_rfl
theorem te_24 : tyElem Tryd.prog 24 = some 54 := by kernel_rfl
theorem ts_54 : tySz Tryd.prog 54 = some (true, 2) := by kernel_rfl
theorem tz_54 : tyZero Tryd.prog 54 = some (.agg #[.int .u32 0, .slice none 0 0]) := by kernel_rfl
theorem cb_18 : callable Tryd.prog 18 = true := by kernel_rfl
theorem fo_26_1 : fldOff Tryd.prog 26 1 = some 1 := by kernel_rfl
theorem fo_26_3 : fldOff Tryd.prog 26 3 = some 3 := by kernel_rfl
theorem ts_23 : tySz Tryd.prog 23 = some (false, 1) := by kernel_rfl
theorem te_23 : tyElem Tryd.prog 23 = some 26 := by kernel_rfl
theorem fo_26_4 : fldOff Tryd.prog 26 4 = some 4 := by kernel_rfl
theorem ts_24 : tySz Tryd.prog 24 = some (false, 1) := by kernel_rfl
theorem cb_11 : callable Tryd.prog 11 = true := by kernel_rfl
theorem tz_26 : tyZero Tryd.prog 26 = some (.agg #[.int .i64 0, .slice none 0 0, .bool false, .slice none 0 0, .slice none 0 0]) := by kernel_rfl
theorem ts_26 : tySz Tryd.prog 26 = some (true, 5) := by kernel_rfl
theorem fok_26 : fldsOk Tryd.prog 26 = true := by kernel_rfl
theorem fo_45_1 : fldOff Tryd.prog 45 1 = some 1 := by kernel_rfl
theorem ts_3 : tySz Tryd.prog 3 = some (false, 1) := by kernel_rfl
theorem fo_45_2 : fldOff Tryd.prog 45 2 = some 2 := by kernel_rfl
theorem fo_26_2 : fldOff Tryd.prog 26 2 = some 2 := by kernel_rfl
theorem fo_45_3 : fldOff Tryd.prog 45 3 = some 3 := by kernel_rfl
theorem te_29 : tyElem Tryd.prog 29 = some 45 := by kernel_rfl
theorem ts_45 : tySz Tryd.prog 45 = some (true, 8) := by kernel_rfl
theorem tz_45 : tyZero Tryd.prog 45 = some (.agg #[.int .i64 0, .int .i64 0, .int .i64 0, .int .i64 0, .int .i64 0, .int .i64 0, .int .i64 0, .slice none 0 0]) := by kernel_rfl
theorem fo_45_4 : fldOff Tryd.prog 45 4 = some 4 := by kernel_rfl
theorem un_3 : (Tryd.prog.underlying 3).isSome = true := by kernel_rfl
theorem un_2 : (Tryd.prog.underlying 2).isSome = true := by kernel_rfl
theorem ti_5 : tyInt Tryd.prog 5 = some .u8 := by kernel_rfl
theorem rt_22 : rowTy Tryd.prog 22 = some (5, 1, 1) := by kernel_rfl
theorem tz_5 : tyZero Tryd.prog 5 = some (.int .u8 0) := by kernel_rfl
theorem un_68 : (Tryd.prog.underlying 68).isSome = true := by kernel_rfl
theorem ti_68 : tyInt Tryd.prog 68 = some .u64 := by kernel_rfl
theorem cb_25 : callable Tryd.prog 25 = true := by kernel_rfl
theorem cb_39 : callable Tryd.prog 39 = true := by kernel_rfl
theorem cb_23 : callable Tryd.prog 23 = true := by kernel_rfl
theorem fo_54_0 : fldOff Tryd.prog 54 0 = some 0 := by kernel_rfl
theorem ts_52 : tySz Tryd.prog 52 = some (false, 1) := by kernel_rfl
theorem fok_54 : fldsOk Tryd.prog 54 = true := by kernel_rfl
theorem rt_24 : rowTy Tryd.prog 24 = some (54, 2, 32) := by kernel_rfl
theorem cz_5 : (Tryd.prog.info? 5).map (·.size) = some 1 := by kernel_rfl
theorem fo_26_0 : fldOff Tryd.prog 26 0 = some 0 := by kernel_rfl
theorem ts_2 : tySz Tryd.prog 2 = some (false, 1) := by kernel_rfl
theorem cb_27 : callable Tryd.prog 27 = true := by kernel_rfl
theorem cb_37 : callable Tryd.prog 37 = true := by kernel_rfl
theorem cb_14 : callable Tryd.prog 14 = true := by kernel_rfl
theorem cb_40 : callable Tryd.prog 40 = true := by kernel_rfl
theorem cb_35 : callable Tryd.prog 35 = true := by kernel_rfl
theorem fo_45_0 : fldOff Tryd.prog 45 0 = some 0 := by kernel_rfl
theorem cb_36 : callable Tryd.prog 36 = true := by kernel_rfl
theorem fo_45_6 : fldOff Tryd.prog 45 6 = some 6 := by kernel_rfl
theorem fo_45_7 : fldOff Tryd.prog 45 7 = some 7 := by kernel_rfl
theorem ts_29 : tySz Tryd.prog 29 = some (false, 1) := by kernel_rfl
theorem cb_38 : callable Tryd.prog 38 = true := by kernel_rfl
theorem cb_20 : callable Tryd.prog 20 = true := by kernel_rfl
theorem cb_22 : callable Tryd.prog 22 = true := by kernel_rfl
theorem cb_21 : callable Tryd.prog 21 = true := by kernel_rfl
theorem cb_26 : callable Tryd.prog 26 = true := by kernel_rfl
theorem fo_31_0 : fldOff Tryd.prog 31 0 = some 0 := by kernel_rfl
theorem fo_31_1 : fldOff Tryd.prog 31 1 = some 1 := by kernel_rfl
theorem cb_55 : callable Tryd.prog 55 = true := by kernel_rfl
theorem cb_47 : callable Tryd.prog 47 = true := by kernel_rfl
theorem is_9 : isStrTy Tryd.prog 9 = true := by kernel_rfl
theorem cb_56 : callable Tryd.prog 56 = true := by kernel_rfl
theorem cb_48 : callable Tryd.prog 48 = true := by kernel_rfl
theorem un_72 : (Tryd.prog.underlying 72).isSome = true := by kernel_rfl
theorem cb_32 : callable Tryd.prog 32 = true := by kernel_rfl
theorem te_97 : tyElem Tryd.prog 97 = some 52 := by kernel_rfl
theorem ts_97 : tySz Tryd.prog 97 = some (false, 1) := by kernel_rfl
theorem tz_97 : tyZero Tryd.prog 97 = some (.slice none 0 0) := by kernel_rfl
theorem tz_52 : tyZero Tryd.prog 52 = some (.int .u32 0) := by kernel_rfl
theorem rt_97 : rowTy Tryd.prog 97 = some (52, 1, 4) := by kernel_rfl
theorem cb_58 : callable Tryd.prog 58 = true := by kernel_rfl
theorem cb_57 : callable Tryd.prog 57 = true := by kernel_rfl
theorem cb_50 : callable Tryd.prog 50 = true := by kernel_rfl
theorem cb_49 : callable Tryd.prog 49 = true := by kernel_rfl
theorem cb_29 : callable Tryd.prog 29 = true := by kernel_rfl
theorem cb_30 : callable Tryd.prog 30 = true := by kernel_rfl
theorem cb_31 : callable Tryd.prog 31 = true := by kernel_rfl
theorem cb_33 : callable Tryd.prog 33 = true := by kernel_rfl
theorem cb_34 : callable Tryd.prog 34 = true := by kernel_rfl
theorem tz_31 : tyZero Tryd.prog 31 = some (.agg #[.slice none 0 0, .int .i64 0]) := by kernel_rfl
theorem fa_45_0 : fldAt Tryd.prog 45 0 = some (0, 1) := by kernel_rfl
theorem fa_45_1 : fldAt Tryd.prog 45 1 = some (1, 1) := by kernel_rfl
theorem fa_45_2 : fldAt Tryd.prog 45 2 = some (2, 1) := by kernel_rfl
theorem fa_45_3 : fldAt Tryd.prog 45 3 = some (3, 1) := by kernel_rfl
theorem fa_45_4 : fldAt Tryd.prog 45 4 = some (4, 1) := by kernel_rfl
theorem fa_45_6 : fldAt Tryd.prog 45 6 = some (6, 1) := by kernel_rfl
theorem fok_45 : fldsOk Tryd.prog 45 = true := by kernel_rfl
theorem rt_29 : rowTy Tryd.prog 29 = some (45, 8, 80) := by kernel_rfl
theorem fa_31_1 : fldAt Tryd.prog 31 1 = some (1, 1) := by kernel_rfl
theorem fa_31_0 : fldAt Tryd.prog 31 0 = some (0, 1) := by kernel_rfl
theorem fok_31 : fldsOk Tryd.prog 31 = true := by kernel_rfl
theorem ts_31 : tySz Tryd.prog 31 = some (true, 2) := by kernel_rfl
theorem cb_28 : callable Tryd.prog 28 = true := by kernel_rfl
theorem tz_61 : tyZero Tryd.prog 61 = some (.agg #[.int .i16 0, .slice none 0 0, .map none]) := by kernel_rfl
theorem fo_61_0 : fldOff Tryd.prog 61 0 = some 0 := by kernel_rfl
theorem ts_40 : tySz Tryd.prog 40 = some (false, 1) := by kernel_rfl
theorem cb_12 : callable Tryd.prog 12 = true := by kernel_rfl
theorem cb_13 : callable Tryd.prog 13 = true := by kernel_rfl
theorem un_40 : (Tryd.prog.underlying 40).isSome = true := by kernel_rfl
theorem ti_40 : tyInt Tryd.prog 40 = some .i16 := by kernel_rfl
theorem cb_15 : callable Tryd.prog 15 = true := by kernel_rfl
theorem cb_16 : callable Tryd.prog 16 = true := by kernel_rfl
theorem cb_17 : callable Tryd.prog 17 = true := by kernel_rfl
theorem cb_4 : callable Tryd.prog 4 = true := by kernel_rfl
theorem cb_5 : callable Tryd.prog 5 = true := by kernel_rfl
theorem cb_6 : callable Tryd.prog 6 = true := by kernel_rfl
theorem cb_7 : callable Tryd.prog 7 = true := by kernel_rfl
theorem cb_8 : callable Tryd.prog 8 = true := by kernel_rfl
theorem cb_9 : callable Tryd.prog 9 = true := by kernel_rfl
theorem cb_10 : callable Tryd.prog 10 = true := by kernel_rfl
end Go.Proofs.YtpjichobdalpjaaDoor
