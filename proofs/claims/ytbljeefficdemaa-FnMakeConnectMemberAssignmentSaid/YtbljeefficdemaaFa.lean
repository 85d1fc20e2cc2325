/- Facts of the program by computation. No statement of the seat stands here. -/
import Derived.Test.YtbljeefficdemaaMkLaw
import Derived.Test.YtbljeefficdemaaRows
import Derived.KernelRfl
namespace Go.Proofs.Ytbljeefficdemaa
open Go Go.Mk
theorem mixed : Try.prog.follows .mixedOrders = true := Try.checked.mixed
theorem fo_60_1 : fldOff Try.prog 60 1 = some 1 := by kernel_rfl
theorem ts_22 : tySz Try.prog 22 = some (false, 1) := by kernel_rfl
theorem te_22 : tyElem Try.prog 22 = some 5 := by kernel_rfl
theorem te_24 : tyElem Try.prog 24 = some 60 := by kernel_rfl
theorem ts_60 : tySz Try.prog 60 = some (true, 2) := by kernel_rfl
theorem tz_60 : tyZero Try.prog 60 = some (.agg #[.int .u32 0, .slice none 0 0]) := by kernel_rfl
theorem cb_34 : callable Try.prog 34 = true := by kernel_rfl
theorem fo_26_1 : fldOff Try.prog 26 1 = some 1 := by kernel_rfl
theorem fo_26_3 : fldOff Try.prog 26 3 = some 3 := by kernel_rfl
theorem ts_23 : tySz Try.prog 23 = some (false, 1) := by kernel_rfl
theorem te_23 : tyElem Try.prog 23 = some 26 := by kernel_rfl
theorem fo_26_4 : fldOff Try.prog 26 4 = some 4 := by kernel_rfl
theorem ts_24 : tySz Try.prog 24 = some (false, 1) := by kernel_rfl
theorem cb_17 : callable Try.prog 17 = true := by kernel_rfl
theorem tz_26 : tyZero Try.prog 26 = some (.agg #[.int .i64 0, .slice none 0 0, .bool false, .slice none 0 0, .slice none 0 0]) := by kernel_rfl
theorem ts_26 : tySz Try.prog 26 = some (true, 5) := by kernel_rfl
theorem fok_26 : fldsOk Try.prog 26 = true := by kernel_rfl
theorem un_5 : (Try.prog.underlying 5).isSome = true := by kernel_rfl
theorem ti_3 : tyInt Try.prog 3 = some .i64 := by kernel_rfl
theorem fo_50_1 : fldOff Try.prog 50 1 = some 1 := by kernel_rfl
theorem ts_3 : tySz Try.prog 3 = some (false, 1) := by kernel_rfl
theorem fo_50_2 : fldOff Try.prog 50 2 = some 2 := by kernel_rfl
theorem fo_26_2 : fldOff Try.prog 26 2 = some 2 := by kernel_rfl
theorem ts_4 : tySz Try.prog 4 = some (false, 1) := by kernel_rfl
theorem fo_50_3 : fldOff Try.prog 50 3 = some 3 := by kernel_rfl
theorem ts_5 : tySz Try.prog 5 = some (false, 1) := by kernel_rfl
theorem te_29 : tyElem Try.prog 29 = some 50 := by kernel_rfl
theorem ts_50 : tySz Try.prog 50 = some (true, 8) := by kernel_rfl
theorem tz_50 : tyZero Try.prog 50 = some (.agg #[.int .i64 0, .int .i64 0, .int .i64 0, .int .i64 0, .int .i64 0, .int .i64 0, .int .i64 0, .slice none 0 0]) := by kernel_rfl
theorem fo_50_4 : fldOff Try.prog 50 4 = some 4 := by kernel_rfl
theorem un_3 : (Try.prog.underlying 3).isSome = true := by kernel_rfl
theorem ti_58 : tyInt Try.prog 58 = some .u32 := by kernel_rfl
theorem un_2 : (Try.prog.underlying 2).isSome = true := by kernel_rfl
theorem ti_5 : tyInt Try.prog 5 = some .u8 := by kernel_rfl
theorem rt_22 : rowTy Try.prog 22 = some (5, 1, 1) := by kernel_rfl
theorem tz_5 : tyZero Try.prog 5 = some (.int .u8 0) := by kernel_rfl
theorem un_94 : (Try.prog.underlying 94).isSome = true := by kernel_rfl
theorem ti_94 : tyInt Try.prog 94 = some .u64 := by kernel_rfl
theorem cb_49 : callable Try.prog 49 = true := by kernel_rfl
theorem cb_33 : callable Try.prog 33 = true := by kernel_rfl
theorem tz_39 : tyZero Try.prog 39 = some (.agg #[.int .i64 0, .slice none 0 0, .bool false, .slice none 0 0, .slice none 0 0]) := by kernel_rfl
theorem fo_26_0 : fldOff Try.prog 26 0 = some 0 := by kernel_rfl
theorem ts_2 : tySz Try.prog 2 = some (false, 1) := by kernel_rfl
theorem fa_39_0 : fldAt Try.prog 39 0 = some (0, 1) := by kernel_rfl
theorem fa_39_1 : fldAt Try.prog 39 1 = some (1, 1) := by kernel_rfl
theorem fa_39_2 : fldAt Try.prog 39 2 = some (2, 1) := by kernel_rfl
theorem fok_39 : fldsOk Try.prog 39 = true := by kernel_rfl
theorem ts_39 : tySz Try.prog 39 = some (true, 5) := by kernel_rfl
theorem fo_39_3 : fldOff Try.prog 39 3 = some 3 := by kernel_rfl
theorem ts_36 : tySz Try.prog 36 = some (false, 1) := by kernel_rfl
theorem cb_11 : callable Try.prog 11 = true := by kernel_rfl
theorem rt_36 : rowTy Try.prog 36 = some (39, 5, 88) := by kernel_rfl
theorem te_36 : tyElem Try.prog 36 = some 39 := by kernel_rfl
theorem fo_39_4 : fldOff Try.prog 39 4 = some 4 := by kernel_rfl
theorem ts_37 : tySz Try.prog 37 = some (false, 1) := by kernel_rfl
theorem fo_60_0 : fldOff Try.prog 60 0 = some 0 := by kernel_rfl
theorem ts_58 : tySz Try.prog 58 = some (false, 1) := by kernel_rfl
theorem fa_61_0 : fldAt Try.prog 61 0 = some (0, 1) := by kernel_rfl
theorem fa_61_1 : fldAt Try.prog 61 1 = some (1, 1) := by kernel_rfl
theorem tz_61 : tyZero Try.prog 61 = some (.agg #[.int .u32 0, .slice none 0 0]) := by kernel_rfl
theorem fok_61 : fldsOk Try.prog 61 = true := by kernel_rfl
theorem rt_37 : rowTy Try.prog 37 = some (61, 2, 32) := by kernel_rfl
theorem te_37 : tyElem Try.prog 37 = some 61 := by kernel_rfl
theorem cb_45 : callable Try.prog 45 = true := by kernel_rfl
theorem fok_60 : fldsOk Try.prog 60 = true := by kernel_rfl
theorem rt_24 : rowTy Try.prog 24 = some (60, 2, 32) := by kernel_rfl
theorem cz_5 : (Try.prog.info? 5).map (·.size) = some 1 := by kernel_rfl
theorem cb_27 : callable Try.prog 27 = true := by kernel_rfl
theorem cb_56 : callable Try.prog 56 = true := by kernel_rfl
theorem cb_28 : callable Try.prog 28 = true := by kernel_rfl
theorem cb_58 : callable Try.prog 58 = true := by kernel_rfl
theorem cb_43 : callable Try.prog 43 = true := by kernel_rfl
theorem fo_50_0 : fldOff Try.prog 50 0 = some 0 := by kernel_rfl
theorem cb_44 : callable Try.prog 44 = true := by kernel_rfl
theorem fo_50_6 : fldOff Try.prog 50 6 = some 6 := by kernel_rfl
theorem fo_50_7 : fldOff Try.prog 50 7 = some 7 := by kernel_rfl
theorem ts_29 : tySz Try.prog 29 = some (false, 1) := by kernel_rfl
theorem cb_57 : callable Try.prog 57 = true := by kernel_rfl
theorem cb_46 : callable Try.prog 46 = true := by kernel_rfl
theorem cb_25 : callable Try.prog 25 = true := by kernel_rfl
theorem cb_47 : callable Try.prog 47 = true := by kernel_rfl
theorem cb_24 : callable Try.prog 24 = true := by kernel_rfl
theorem rt_23 : rowTy Try.prog 23 = some (26, 5, 88) := by kernel_rfl
theorem cb_26 : callable Try.prog 26 = true := by kernel_rfl
theorem fa_60_0 : fldAt Try.prog 60 0 = some (0, 1) := by kernel_rfl
theorem fa_60_1 : fldAt Try.prog 60 1 = some (1, 1) := by kernel_rfl
theorem fa_26_1 : fldAt Try.prog 26 1 = some (1, 1) := by kernel_rfl
theorem fa_26_2 : fldAt Try.prog 26 2 = some (2, 1) := by kernel_rfl
theorem cb_12 : callable Try.prog 12 = true := by kernel_rfl
theorem fa_26_0 : fldAt Try.prog 26 0 = some (0, 1) := by kernel_rfl
theorem un_106 : (Try.prog.underlying 106).isSome = true := by kernel_rfl
theorem un_58 : (Try.prog.underlying 58).isSome = true := by kernel_rfl
theorem un_45 : (Try.prog.underlying 45).isSome = true := by kernel_rfl
theorem ti_106 : tyInt Try.prog 106 = some .u16 := by kernel_rfl
theorem cb_54 : callable Try.prog 54 = true := by kernel_rfl
theorem un_21 : (Try.prog.underlying 21).isSome = true := by kernel_rfl
theorem cb_55 : callable Try.prog 55 = true := by kernel_rfl
theorem cb_59 : callable Try.prog 59 = true := by kernel_rfl
theorem ti_21 : tyInt Try.prog 21 = some .i32 := by kernel_rfl
theorem cb_40 : callable Try.prog 40 = true := by kernel_rfl
theorem is_9 : isStrTy Try.prog 9 = true := by kernel_rfl
theorem ti_45 : tyInt Try.prog 45 = some .i16 := by kernel_rfl
theorem cb_39 : callable Try.prog 39 = true := by kernel_rfl
theorem fo_31_0 : fldOff Try.prog 31 0 = some 0 := by kernel_rfl
theorem fo_31_1 : fldOff Try.prog 31 1 = some 1 := by kernel_rfl
theorem ts_31 : tySz Try.prog 31 = some (true, 2) := by kernel_rfl
theorem cb_13 : callable Try.prog 13 = true := by kernel_rfl
theorem fa_50_0 : fldAt Try.prog 50 0 = some (0, 1) := by kernel_rfl
theorem fa_50_2 : fldAt Try.prog 50 2 = some (2, 1) := by kernel_rfl
theorem fa_50_3 : fldAt Try.prog 50 3 = some (3, 1) := by kernel_rfl
theorem fa_50_4 : fldAt Try.prog 50 4 = some (4, 1) := by kernel_rfl
theorem fok_50 : fldsOk Try.prog 50 = true := by kernel_rfl
theorem rt_29 : rowTy Try.prog 29 = some (50, 8, 80) := by kernel_rfl
theorem cb_36 : callable Try.prog 36 = true := by kernel_rfl
theorem fa_50_6 : fldAt Try.prog 50 6 = some (6, 1) := by kernel_rfl
theorem fa_50_7 : fldAt Try.prog 50 7 = some (7, 1) := by kernel_rfl
theorem tz_31 : tyZero Try.prog 31 = some (.agg #[.slice none 0 0, .int .i64 0]) := by kernel_rfl
theorem cb_20 : callable Try.prog 20 = true := by kernel_rfl
theorem fa_31_1 : fldAt Try.prog 31 1 = some (1, 1) := by kernel_rfl
theorem fa_31_0 : fldAt Try.prog 31 0 = some (0, 1) := by kernel_rfl
theorem fok_31 : fldsOk Try.prog 31 = true := by kernel_rfl
theorem tz_86 : tyZero Try.prog 86 = some (.agg #[.int .i32 0, .int .i16 0]) := by kernel_rfl
theorem cb_37 : callable Try.prog 37 = true := by kernel_rfl
theorem ff_39_0 : fld1 Try.prog 39 0 = some 0 := by kernel_rfl
theorem fo_86_0 : fldOff Try.prog 86 0 = some 0 := by kernel_rfl
theorem ts_21 : tySz Try.prog 21 = some (false, 1) := by kernel_rfl
theorem fo_86_1 : fldOff Try.prog 86 1 = some 1 := by kernel_rfl
theorem ts_45 : tySz Try.prog 45 = some (false, 1) := by kernel_rfl
theorem ts_86 : tySz Try.prog 86 = some (true, 2) := by kernel_rfl
theorem tz_77 : tyZero Try.prog 77 = some (.agg #[.string .empty, .slice none 0 0]) := by kernel_rfl
theorem ff_39_1 : fld1 Try.prog 39 1 = some 1 := by kernel_rfl
theorem iy_22 : isBytesTy Try.prog 22 = true := by kernel_rfl
theorem fo_77_0 : fldOff Try.prog 77 0 = some 0 := by kernel_rfl
theorem ts_9 : tySz Try.prog 9 = some (false, 1) := by kernel_rfl
theorem ff_39_2 : fld1 Try.prog 39 2 = some 2 := by kernel_rfl
theorem ff_39_3 : fld1 Try.prog 39 3 = some 3 := by kernel_rfl
theorem rt_75 : rowTy Try.prog 75 = some (86, 2, 8) := by kernel_rfl
theorem fo_77_1 : fldOff Try.prog 77 1 = some 1 := by kernel_rfl
theorem ts_75 : tySz Try.prog 75 = some (false, 1) := by kernel_rfl
theorem cb_53 : callable Try.prog 53 = true := by kernel_rfl
theorem te_75 : tyElem Try.prog 75 = some 86 := by kernel_rfl
theorem ts_77 : tySz Try.prog 77 = some (true, 2) := by kernel_rfl
theorem fo_54_1 : fldOff Try.prog 54 1 = some 1 := by kernel_rfl
theorem fo_54_2 : fldOff Try.prog 54 2 = some 2 := by kernel_rfl
theorem rt_52 : rowTy Try.prog 52 = some (77, 2, 40) := by kernel_rfl
theorem fo_54_3 : fldOff Try.prog 54 3 = some 3 := by kernel_rfl
theorem ts_52 : tySz Try.prog 52 = some (false, 1) := by kernel_rfl
theorem cb_38 : callable Try.prog 38 = true := by kernel_rfl
theorem te_52 : tyElem Try.prog 52 = some 77 := by kernel_rfl
theorem fo_54_0 : fldOff Try.prog 54 0 = some 0 := by kernel_rfl
theorem cb_41 : callable Try.prog 41 = true := by kernel_rfl
theorem cb_42 : callable Try.prog 42 = true := by kernel_rfl
theorem tz_54 : tyZero Try.prog 54 = some (.agg #[.int .i16 0, .int .i16 0, .int .i32 0, .slice none 0 0]) := by kernel_rfl
theorem cb_35 : callable Try.prog 35 = true := by kernel_rfl
theorem cb_18 : callable Try.prog 18 = true := by kernel_rfl
theorem cb_19 : callable Try.prog 19 = true := by kernel_rfl
theorem fok_54 : fldsOk Try.prog 54 = true := by kernel_rfl
theorem cb_21 : callable Try.prog 21 = true := by kernel_rfl
theorem cb_22 : callable Try.prog 22 = true := by kernel_rfl
theorem cb_23 : callable Try.prog 23 = true := by kernel_rfl
theorem cb_5 : callable Try.prog 5 = true := by kernel_rfl
theorem cb_6 : callable Try.prog 6 = true := by kernel_rfl
theorem cb_7 : callable Try.prog 7 = true := by kernel_rfl
theorem cb_8 : callable Try.prog 8 = true := by kernel_rfl
theorem cb_10 : callable Try.prog 10 = true := by kernel_rfl
theorem cb_9 : callable Try.prog 9 = true := by kernel_rfl
theorem cb_29 : callable Try.prog 29 = true := by kernel_rfl
theorem cb_30 : callable Try.prog 30 = true := by kernel_rfl
theorem fa_50_1 : fldAt Try.prog 50 1 = some (1, 1) := by kernel_rfl
theorem tz_97 : tyZero Try.prog 97 = some (.agg #[.string .empty, .slice none 0 0]) := by kernel_rfl
theorem fo_97_0 : fldOff Try.prog 97 0 = some 0 := by kernel_rfl
theorem rt_95 : rowTy Try.prog 95 = some (45, 1, 2) := by kernel_rfl
theorem tz_45 : tyZero Try.prog 45 = some (.int .i16 0) := by kernel_rfl
theorem fo_97_1 : fldOff Try.prog 97 1 = some 1 := by kernel_rfl
theorem ts_95 : tySz Try.prog 95 = some (false, 1) := by kernel_rfl
theorem fo_39_0 : fldOff Try.prog 39 0 = some 0 := by kernel_rfl
theorem te_95 : tyElem Try.prog 95 = some 45 := by kernel_rfl
theorem ts_97 : tySz Try.prog 97 = some (true, 2) := by kernel_rfl
theorem tz_99 : tyZero Try.prog 99 = some (.agg #[.string .empty, .slice none 0 0]) := by kernel_rfl
theorem fo_99_0 : fldOff Try.prog 99 0 = some 0 := by kernel_rfl
theorem fo_99_1 : fldOff Try.prog 99 1 = some 1 := by kernel_rfl
theorem ts_99 : tySz Try.prog 99 = some (true, 2) := by kernel_rfl
theorem fo_70_1 : fldOff Try.prog 70 1 = some 1 := by kernel_rfl
theorem fo_70_2 : fldOff Try.prog 70 2 = some 2 := by kernel_rfl
theorem fo_70_3 : fldOff Try.prog 70 3 = some 3 := by kernel_rfl
theorem fo_70_4 : fldOff Try.prog 70 4 = some 4 := by kernel_rfl
theorem rt_67 : rowTy Try.prog 67 = some (97, 2, 40) := by kernel_rfl
theorem fo_70_5 : fldOff Try.prog 70 5 = some 5 := by kernel_rfl
theorem ts_67 : tySz Try.prog 67 = some (false, 1) := by kernel_rfl
theorem cb_50 : callable Try.prog 50 = true := by kernel_rfl
theorem te_67 : tyElem Try.prog 67 = some 97 := by kernel_rfl
theorem rt_68 : rowTy Try.prog 68 = some (99, 2, 40) := by kernel_rfl
theorem fo_70_6 : fldOff Try.prog 70 6 = some 6 := by kernel_rfl
theorem ts_68 : tySz Try.prog 68 = some (false, 1) := by kernel_rfl
theorem cb_51 : callable Try.prog 51 = true := by kernel_rfl
theorem te_68 : tyElem Try.prog 68 = some 99 := by kernel_rfl
theorem fo_70_7 : fldOff Try.prog 70 7 = some 7 := by kernel_rfl
theorem fo_70_0 : fldOff Try.prog 70 0 = some 0 := by kernel_rfl
theorem cb_52 : callable Try.prog 52 = true := by kernel_rfl
theorem fa_70_0 : fldAt Try.prog 70 0 = some (0, 1) := by kernel_rfl
theorem tz_70 : tyZero Try.prog 70 = some (.agg #[.int .i16 0, .int .i16 0, .string .empty, .string .empty, .int .i64 0, .slice none 0 0, .slice none 0 0, .int .i32 0]) := by kernel_rfl
theorem fok_70 : fldsOk Try.prog 70 = true := by kernel_rfl
theorem cb_31 : callable Try.prog 31 = true := by kernel_rfl
theorem cb_32 : callable Try.prog 32 = true := by kernel_rfl
theorem cb_14 : callable Try.prog 14 = true := by kernel_rfl
theorem cb_15 : callable Try.prog 15 = true := by kernel_rfl
theorem cb_16 : callable Try.prog 16 = true := by kernel_rfl
end Go.Proofs.Ytbljeefficdemaa
