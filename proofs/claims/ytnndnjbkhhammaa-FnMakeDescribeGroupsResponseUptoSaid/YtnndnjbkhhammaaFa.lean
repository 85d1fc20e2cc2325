/- Facts of the program by computation. No statement of the seat stands here. -/
import Derived.Test.YtnndnjbkhhammaaL3
import Derived.Test.YtnndnjbkhhammaaRows
import Derived.KernelRfl
namespace Go.Proofs.Ytnndnjbkhhammaa
open Go Go.Mk
theorem mixed : Try.prog.follows .mixedOrders = true := Try.checked.mixed
theorem fo_67_1 : fldOff Try.prog 67 1 = some 1 := by kernel_rfl
theorem ts_22 : tySz Try.prog 22 = some (false, 1) := by kernel_rfl
theorem te_22 : tyElem Try.prog 22 = some 5 := by kernel_rfl
theorem te_24 : tyElem Try.prog 24 = some 67 := by kernel_rfl
theorem ts_67 : tySz Try.prog 67 = some (true, 2) := by kernel_rfl
theorem tz_67 : tyZero Try.prog 67 = some (.agg #[.int .u32 0, .slice none 0 0]) := by kernel_rfl
theorem cb_36 : callable Try.prog 36 = true := by kernel_rfl
theorem fo_26_1 : fldOff Try.prog 26 1 = some 1 := by kernel_rfl
theorem fo_26_3 : fldOff Try.prog 26 3 = some 3 := by kernel_rfl
theorem ts_23 : tySz Try.prog 23 = some (false, 1) := by kernel_rfl
theorem te_23 : tyElem Try.prog 23 = some 26 := by kernel_rfl
theorem fo_26_4 : fldOff Try.prog 26 4 = some 4 := by kernel_rfl
theorem ts_24 : tySz Try.prog 24 = some (false, 1) := by kernel_rfl
theorem cb_17 : callable Try.prog 17 = true := by kernel_rfl
theorem tz_26 : tyZero Try.prog 26 = some (.agg #[.int .i64 0, .slice none 0 0, .bool false, .slice none 0 0, .slice none 0 0]) := by kernel_rfl
theorem ts_26 : tySz Try.prog 26 = some (true, 5) := by kernel_rfl
theorem fok_26 : fldsOk Try.prog 26 = true := by kernel_rfl
theorem un_5 : (Try.prog.underlying 5).isSome = true := by kernel_rfl
theorem ti_3 : tyInt Try.prog 3 = some .i64 := by kernel_rfl
theorem fo_50_1 : fldOff Try.prog 50 1 = some 1 := by kernel_rfl
theorem ts_3 : tySz Try.prog 3 = some (false, 1) := by kernel_rfl
theorem fo_50_2 : fldOff Try.prog 50 2 = some 2 := by kernel_rfl
theorem fo_26_2 : fldOff Try.prog 26 2 = some 2 := by kernel_rfl
theorem ts_4 : tySz Try.prog 4 = some (false, 1) := by kernel_rfl
theorem fo_50_3 : fldOff Try.prog 50 3 = some 3 := by kernel_rfl
theorem ts_5 : tySz Try.prog 5 = some (false, 1) := by kernel_rfl
theorem te_29 : tyElem Try.prog 29 = some 50 := by kernel_rfl
theorem ts_50 : tySz Try.prog 50 = some (true, 8) := by kernel_rfl
theorem tz_50 : tyZero Try.prog 50 = some (.agg #[.int .i64 0, .int .i64 0, .int .i64 0, .int .i64 0, .int .i64 0, .int .i64 0, .int .i64 0, .slice none 0 0]) := by kernel_rfl
theorem fo_50_4 : fldOff Try.prog 50 4 = some 4 := by kernel_rfl
theorem un_3 : (Try.prog.underlying 3).isSome = true := by kernel_rfl
theorem ti_65 : tyInt Try.prog 65 = some .u32 := by kernel_rfl
theorem un_2 : (Try.prog.underlying 2).isSome = true := by kernel_rfl
theorem ti_5 : tyInt Try.prog 5 = some .u8 := by kernel_rfl
theorem rt_22 : rowTy Try.prog 22 = some (5, 1, 1) := by kernel_rfl
theorem tz_5 : tyZero Try.prog 5 = some (.int .u8 0) := by kernel_rfl
theorem un_110 : (Try.prog.underlying 110).isSome = true := by kernel_rfl
theorem ti_110 : tyInt Try.prog 110 = some .u64 := by kernel_rfl
theorem cb_65 : callable Try.prog 65 = true := by kernel_rfl
theorem cb_78 : callable Try.prog 78 = true := by kernel_rfl
theorem tz_39 : tyZero Try.prog 39 = some (.agg #[.int .i64 0, .slice none 0 0, .bool false, .slice none 0 0, .slice none 0 0]) := by kernel_rfl
theorem fo_26_0 : fldOff Try.prog 26 0 = some 0 := by kernel_rfl
theorem ts_2 : tySz Try.prog 2 = some (false, 1) := by kernel_rfl
theorem fa_39_0 : fldAt Try.prog 39 0 = some (0, 1) := by kernel_rfl
theorem fa_39_1 : fldAt Try.prog 39 1 = some (1, 1) := by kernel_rfl
theorem fa_39_2 : fldAt Try.prog 39 2 = some (2, 1) := by kernel_rfl
theorem fok_39 : fldsOk Try.prog 39 = true := by kernel_rfl
theorem ts_39 : tySz Try.prog 39 = some (true, 5) := by kernel_rfl
theorem fo_39_3 : fldOff Try.prog 39 3 = some 3 := by kernel_rfl
theorem ts_36 : tySz Try.prog 36 = some (false, 1) := by kernel_rfl
theorem cb_11 : callable Try.prog 11 = true := by kernel_rfl
theorem rt_36 : rowTy Try.prog 36 = some (39, 5, 88) := by kernel_rfl
theorem te_36 : tyElem Try.prog 36 = some 39 := by kernel_rfl
theorem fo_39_4 : fldOff Try.prog 39 4 = some 4 := by kernel_rfl
theorem ts_37 : tySz Try.prog 37 = some (false, 1) := by kernel_rfl
theorem fo_67_0 : fldOff Try.prog 67 0 = some 0 := by kernel_rfl
theorem ts_65 : tySz Try.prog 65 = some (false, 1) := by kernel_rfl
theorem fa_68_0 : fldAt Try.prog 68 0 = some (0, 1) := by kernel_rfl
theorem fa_68_1 : fldAt Try.prog 68 1 = some (1, 1) := by kernel_rfl
theorem tz_68 : tyZero Try.prog 68 = some (.agg #[.int .u32 0, .slice none 0 0]) := by kernel_rfl
theorem fok_68 : fldsOk Try.prog 68 = true := by kernel_rfl
theorem rt_37 : rowTy Try.prog 37 = some (68, 2, 32) := by kernel_rfl
theorem te_37 : tyElem Try.prog 37 = some 68 := by kernel_rfl
theorem cb_61 : callable Try.prog 61 = true := by kernel_rfl
theorem fok_67 : fldsOk Try.prog 67 = true := by kernel_rfl
theorem rt_24 : rowTy Try.prog 24 = some (67, 2, 32) := by kernel_rfl
theorem cz_5 : (Try.prog.info? 5).map (·.size) = some 1 := by kernel_rfl
theorem cb_28 : callable Try.prog 28 = true := by kernel_rfl
theorem cb_76 : callable Try.prog 76 = true := by kernel_rfl
theorem cb_29 : callable Try.prog 29 = true := by kernel_rfl
theorem cb_79 : callable Try.prog 79 = true := by kernel_rfl
theorem cb_59 : callable Try.prog 59 = true := by kernel_rfl
theorem fo_50_0 : fldOff Try.prog 50 0 = some 0 := by kernel_rfl
theorem cb_60 : callable Try.prog 60 = true := by kernel_rfl
theorem fo_50_6 : fldOff Try.prog 50 6 = some 6 := by kernel_rfl
theorem fo_50_7 : fldOff Try.prog 50 7 = some 7 := by kernel_rfl
theorem ts_29 : tySz Try.prog 29 = some (false, 1) := by kernel_rfl
theorem cb_77 : callable Try.prog 77 = true := by kernel_rfl
theorem cb_62 : callable Try.prog 62 = true := by kernel_rfl
theorem cb_26 : callable Try.prog 26 = true := by kernel_rfl
theorem cb_63 : callable Try.prog 63 = true := by kernel_rfl
theorem un_65 : (Try.prog.underlying 65).isSome = true := by kernel_rfl
theorem cb_27 : callable Try.prog 27 = true := by kernel_rfl
theorem cb_25 : callable Try.prog 25 = true := by kernel_rfl
theorem rt_23 : rowTy Try.prog 23 = some (26, 5, 88) := by kernel_rfl
theorem fa_67_0 : fldAt Try.prog 67 0 = some (0, 1) := by kernel_rfl
theorem fa_67_1 : fldAt Try.prog 67 1 = some (1, 1) := by kernel_rfl
theorem fa_26_1 : fldAt Try.prog 26 1 = some (1, 1) := by kernel_rfl
theorem fa_26_2 : fldAt Try.prog 26 2 = some (2, 1) := by kernel_rfl
theorem cb_12 : callable Try.prog 12 = true := by kernel_rfl
theorem fa_26_0 : fldAt Try.prog 26 0 = some (0, 1) := by kernel_rfl
theorem fo_31_0 : fldOff Try.prog 31 0 = some 0 := by kernel_rfl
theorem fo_31_1 : fldOff Try.prog 31 1 = some 1 := by kernel_rfl
theorem fo_59_0 : fldOff Try.prog 59 0 = some 0 := by kernel_rfl
theorem ts_57 : tySz Try.prog 57 = some (false, 1) := by kernel_rfl
theorem im_57 : isMapTy Try.prog 57 = true := by kernel_rfl
theorem mt_57 : mapTy Try.prog 57 = some (65, 22) := by kernel_rfl
theorem fo_39_2 : fldOff Try.prog 39 2 = some 2 := by kernel_rfl
theorem fo_39_1 : fldOff Try.prog 39 1 = some 1 := by kernel_rfl
theorem iy_22 : isBytesTy Try.prog 22 = true := by kernel_rfl
theorem is_9 : isStrTy Try.prog 9 = true := by kernel_rfl
theorem tz_9 : tyZero Try.prog 9 = some (.string .empty) := by kernel_rfl
theorem ts_9 : tySz Try.prog 9 = some (false, 1) := by kernel_rfl
theorem tz_52 : tyZero Try.prog 52 = some (.agg #[.int .u8 0, .int .u8 0, .int .u8 0, .int .u8 0, .int .u8 0, .int .u8 0, .int .u8 0, .int .u8 0, .int .u8 0, .int .u8 0, .int .u8 0, .int .u8 0, .int .u8 0, .int .u8 0, .int .u8 0, .int .u8 0]) := by kernel_rfl
theorem at_52 : tyArr Try.prog 52 = some (16, 5) := by kernel_rfl
theorem ts_52 : tySz Try.prog 52 = some (true, 16) := by kernel_rfl
theorem un_82 : (Try.prog.underlying 82).isSome = true := by kernel_rfl
theorem un_45 : (Try.prog.underlying 45).isSome = true := by kernel_rfl
theorem ti_82 : tyInt Try.prog 82 = some .u16 := by kernel_rfl
theorem cb_50 : callable Try.prog 50 = true := by kernel_rfl
theorem un_21 : (Try.prog.underlying 21).isSome = true := by kernel_rfl
theorem cb_71 : callable Try.prog 71 = true := by kernel_rfl
theorem cb_75 : callable Try.prog 75 = true := by kernel_rfl
theorem ti_21 : tyInt Try.prog 21 = some .i32 := by kernel_rfl
theorem cb_44 : callable Try.prog 44 = true := by kernel_rfl
theorem ti_45 : tyInt Try.prog 45 = some .i16 := by kernel_rfl
theorem cb_51 : callable Try.prog 51 = true := by kernel_rfl
theorem cb_81 : callable Try.prog 81 = true := by kernel_rfl
theorem cb_72 : callable Try.prog 72 = true := by kernel_rfl
theorem cb_52 : callable Try.prog 52 = true := by kernel_rfl
theorem ip_55 : isPtrTy Try.prog 55 = true := by kernel_rfl
theorem cb_46 : callable Try.prog 46 = true := by kernel_rfl
theorem cb_45 : callable Try.prog 45 = true := by kernel_rfl
theorem te_130 : tyElem Try.prog 130 = some 65 := by kernel_rfl
theorem ts_130 : tySz Try.prog 130 = some (false, 1) := by kernel_rfl
theorem tz_130 : tyZero Try.prog 130 = some (.slice none 0 0) := by kernel_rfl
theorem tz_65 : tyZero Try.prog 65 = some (.int .u32 0) := by kernel_rfl
theorem rt_130 : rowTy Try.prog 130 = some (65, 1, 4) := by kernel_rfl
theorem cb_83 : callable Try.prog 83 = true := by kernel_rfl
theorem cb_82 : callable Try.prog 82 = true := by kernel_rfl
theorem cb_74 : callable Try.prog 74 = true := by kernel_rfl
theorem cb_73 : callable Try.prog 73 = true := by kernel_rfl
theorem cb_47 : callable Try.prog 47 = true := by kernel_rfl
theorem cb_48 : callable Try.prog 48 = true := by kernel_rfl
theorem cb_49 : callable Try.prog 49 = true := by kernel_rfl
theorem cb_53 : callable Try.prog 53 = true := by kernel_rfl
theorem cb_54 : callable Try.prog 54 = true := by kernel_rfl
theorem cb_55 : callable Try.prog 55 = true := by kernel_rfl
theorem cb_56 : callable Try.prog 56 = true := by kernel_rfl
theorem cb_57 : callable Try.prog 57 = true := by kernel_rfl
theorem cb_58 : callable Try.prog 58 = true := by kernel_rfl
theorem cb_69 : callable Try.prog 69 = true := by kernel_rfl
theorem cb_70 : callable Try.prog 70 = true := by kernel_rfl
theorem fa_50_0 : fldAt Try.prog 50 0 = some (0, 1) := by kernel_rfl
theorem fa_50_2 : fldAt Try.prog 50 2 = some (2, 1) := by kernel_rfl
theorem fa_50_3 : fldAt Try.prog 50 3 = some (3, 1) := by kernel_rfl
theorem fa_50_4 : fldAt Try.prog 50 4 = some (4, 1) := by kernel_rfl
theorem fok_50 : fldsOk Try.prog 50 = true := by kernel_rfl
theorem rt_29 : rowTy Try.prog 29 = some (50, 8, 80) := by kernel_rfl
theorem tz_31 : tyZero Try.prog 31 = some (.agg #[.slice none 0 0, .int .i64 0]) := by kernel_rfl
theorem cb_20 : callable Try.prog 20 = true := by kernel_rfl
theorem fa_50_6 : fldAt Try.prog 50 6 = some (6, 1) := by kernel_rfl
theorem fa_50_7 : fldAt Try.prog 50 7 = some (7, 1) := by kernel_rfl
theorem cb_21 : callable Try.prog 21 = true := by kernel_rfl
theorem fa_50_1 : fldAt Try.prog 50 1 = some (1, 1) := by kernel_rfl
theorem fa_50_5 : fldAt Try.prog 50 5 = some (5, 1) := by kernel_rfl
theorem fa_31_1 : fldAt Try.prog 31 1 = some (1, 1) := by kernel_rfl
theorem fa_31_0 : fldAt Try.prog 31 0 = some (0, 1) := by kernel_rfl
theorem fok_31 : fldsOk Try.prog 31 = true := by kernel_rfl
theorem ts_31 : tySz Try.prog 31 = some (true, 2) := by kernel_rfl
theorem tz_84 : tyZero Try.prog 84 = some (.agg #[.string .empty, .string .empty, .int .u16 0, .int .i16 0, .map none]) := by kernel_rfl
theorem cb_38 : callable Try.prog 38 = true := by kernel_rfl
theorem ff_39_1 : fld1 Try.prog 39 1 = some 1 := by kernel_rfl
theorem fo_84_0 : fldOff Try.prog 84 0 = some 0 := by kernel_rfl
theorem fo_84_1 : fldOff Try.prog 84 1 = some 1 := by kernel_rfl
theorem ff_39_0 : fld1 Try.prog 39 0 = some 0 := by kernel_rfl
theorem fo_84_2 : fldOff Try.prog 84 2 = some 2 := by kernel_rfl
theorem ts_82 : tySz Try.prog 82 = some (false, 1) := by kernel_rfl
theorem fo_84_3 : fldOff Try.prog 84 3 = some 3 := by kernel_rfl
theorem ts_45 : tySz Try.prog 45 = some (false, 1) := by kernel_rfl
theorem ts_68 : tySz Try.prog 68 = some (true, 2) := by kernel_rfl
theorem fo_84_4 : fldOff Try.prog 84 4 = some 4 := by kernel_rfl
theorem fo_68_0 : fldOff Try.prog 68 0 = some 0 := by kernel_rfl
theorem fo_68_1 : fldOff Try.prog 68 1 = some 1 := by kernel_rfl
theorem cb_43 : callable Try.prog 43 = true := by kernel_rfl
theorem ts_84 : tySz Try.prog 84 = some (true, 5) := by kernel_rfl
theorem tz_87 : tyZero Try.prog 87 = some (.agg #[.string .empty, .int .i16 0, .int .i16 0, .map none]) := by kernel_rfl
theorem fo_87_0 : fldOff Try.prog 87 0 = some 0 := by kernel_rfl
theorem fo_87_1 : fldOff Try.prog 87 1 = some 1 := by kernel_rfl
theorem fo_87_2 : fldOff Try.prog 87 2 = some 2 := by kernel_rfl
theorem fo_87_3 : fldOff Try.prog 87 3 = some 3 := by kernel_rfl
theorem ts_87 : tySz Try.prog 87 = some (true, 4) := by kernel_rfl
theorem fo_61_1 : fldOff Try.prog 61 1 = some 1 := by kernel_rfl
theorem ts_21 : tySz Try.prog 21 = some (false, 1) := by kernel_rfl
theorem fo_61_2 : fldOff Try.prog 61 2 = some 2 := by kernel_rfl
theorem cb_39 : callable Try.prog 39 = true := by kernel_rfl
theorem fo_61_3 : fldOff Try.prog 61 3 = some 3 := by kernel_rfl
theorem ff_39_2 : fld1 Try.prog 39 2 = some 2 := by kernel_rfl
theorem ff_39_3 : fld1 Try.prog 39 3 = some 3 := by kernel_rfl
theorem rt_53 : rowTy Try.prog 53 = some (84, 5, 48) := by kernel_rfl
theorem fo_61_4 : fldOff Try.prog 61 4 = some 19 := by kernel_rfl
theorem ts_53 : tySz Try.prog 53 = some (false, 1) := by kernel_rfl
theorem cb_40 : callable Try.prog 40 = true := by kernel_rfl
theorem te_53 : tyElem Try.prog 53 = some 84 := by kernel_rfl
theorem rt_54 : rowTy Try.prog 54 = some (87, 4, 32) := by kernel_rfl
theorem fo_61_5 : fldOff Try.prog 61 5 = some 20 := by kernel_rfl
theorem ts_54 : tySz Try.prog 54 = some (false, 1) := by kernel_rfl
theorem cb_41 : callable Try.prog 41 = true := by kernel_rfl
theorem te_54 : tyElem Try.prog 54 = some 87 := by kernel_rfl
theorem cb_42 : callable Try.prog 42 = true := by kernel_rfl
theorem fo_61_6 : fldOff Try.prog 61 6 = some 21 := by kernel_rfl
theorem ts_55 : tySz Try.prog 55 = some (false, 1) := by kernel_rfl
theorem fo_61_7 : fldOff Try.prog 61 7 = some 22 := by kernel_rfl
theorem rt_56 : rowTy Try.prog 56 = some (52, 16, 16) := by kernel_rfl
theorem fo_61_8 : fldOff Try.prog 61 8 = some 23 := by kernel_rfl
theorem ts_56 : tySz Try.prog 56 = some (false, 1) := by kernel_rfl
theorem te_56 : tyElem Try.prog 56 = some 52 := by kernel_rfl
theorem fo_61_9 : fldOff Try.prog 61 9 = some 24 := by kernel_rfl
theorem fo_61_10 : fldOff Try.prog 61 10 = some 25 := by kernel_rfl
theorem fo_61_0 : fldOff Try.prog 61 0 = some 0 := by kernel_rfl
theorem tz_61 : tyZero Try.prog 61 = some (.agg #[.int .i16 0, .int .i32 0, .string .empty, .int .u8 0, .int .u8 0, .int .u8 0, .int .u8 0, .int .u8 0, .int .u8 0, .int .u8 0, .int .u8 0, .int .u8 0, .int .u8 0, .int .u8 0, .int .u8 0, .int .u8 0, .int .u8 0, .int .u8 0, .int .u8 0, .slice none 0 0, .slice none 0 0, .pointer none, .bool false, .slice none 0 0, .int .i64 0, .map none]) := by kernel_rfl
theorem cb_37 : callable Try.prog 37 = true := by kernel_rfl
theorem cb_18 : callable Try.prog 18 = true := by kernel_rfl
theorem cb_19 : callable Try.prog 19 = true := by kernel_rfl
theorem fok_61 : fldsOk Try.prog 61 = true := by kernel_rfl
theorem cb_22 : callable Try.prog 22 = true := by kernel_rfl
theorem cb_23 : callable Try.prog 23 = true := by kernel_rfl
theorem cb_24 : callable Try.prog 24 = true := by kernel_rfl
theorem cb_5 : callable Try.prog 5 = true := by kernel_rfl
theorem cb_6 : callable Try.prog 6 = true := by kernel_rfl
theorem cb_7 : callable Try.prog 7 = true := by kernel_rfl
theorem cb_8 : callable Try.prog 8 = true := by kernel_rfl
theorem cb_10 : callable Try.prog 10 = true := by kernel_rfl
theorem cb_13 : callable Try.prog 13 = true := by kernel_rfl
theorem cb_9 : callable Try.prog 9 = true := by kernel_rfl
theorem cb_67 : callable Try.prog 67 = true := by kernel_rfl
theorem cb_32 : callable Try.prog 32 = true := by kernel_rfl
theorem tz_118 : tyZero Try.prog 118 = some (.agg #[.string .empty, .pointer none, .string .empty, .string .empty, .slice none 0 0, .slice none 0 0, .map none]) := by kernel_rfl
theorem fo_118_0 : fldOff Try.prog 118 0 = some 0 := by kernel_rfl
theorem fo_118_1 : fldOff Try.prog 118 1 = some 1 := by kernel_rfl
theorem fo_118_2 : fldOff Try.prog 118 2 = some 2 := by kernel_rfl
theorem fo_118_3 : fldOff Try.prog 118 3 = some 3 := by kernel_rfl
theorem cb_84 : callable Try.prog 84 = true := by kernel_rfl
theorem fo_118_4 : fldOff Try.prog 118 4 = some 4 := by kernel_rfl
theorem fo_118_5 : fldOff Try.prog 118 5 = some 5 := by kernel_rfl
theorem fo_118_6 : fldOff Try.prog 118 6 = some 6 := by kernel_rfl
theorem ts_118 : tySz Try.prog 118 = some (true, 7) := by kernel_rfl
theorem tz_113 : tyZero Try.prog 113 = some (.agg #[.int .i16 0, .pointer none, .string .empty, .string .empty, .string .empty, .string .empty, .slice none 0 0, .int .i32 0, .map none]) := by kernel_rfl
theorem fo_113_0 : fldOff Try.prog 113 0 = some 0 := by kernel_rfl
theorem fo_113_1 : fldOff Try.prog 113 1 = some 1 := by kernel_rfl
theorem fo_113_2 : fldOff Try.prog 113 2 = some 2 := by kernel_rfl
theorem fo_113_3 : fldOff Try.prog 113 3 = some 3 := by kernel_rfl
theorem fo_113_4 : fldOff Try.prog 113 4 = some 4 := by kernel_rfl
theorem fo_113_5 : fldOff Try.prog 113 5 = some 5 := by kernel_rfl
theorem rt_111 : rowTy Try.prog 111 = some (118, 7, 112) := by kernel_rfl
theorem fo_113_6 : fldOff Try.prog 113 6 = some 6 := by kernel_rfl
theorem ts_111 : tySz Try.prog 111 = some (false, 1) := by kernel_rfl
theorem cb_80 : callable Try.prog 80 = true := by kernel_rfl
theorem te_111 : tyElem Try.prog 111 = some 118 := by kernel_rfl
theorem fo_113_7 : fldOff Try.prog 113 7 = some 7 := by kernel_rfl
theorem fo_113_8 : fldOff Try.prog 113 8 = some 8 := by kernel_rfl
theorem ts_113 : tySz Try.prog 113 = some (true, 9) := by kernel_rfl
theorem fo_77_1 : fldOff Try.prog 77 1 = some 1 := by kernel_rfl
theorem rt_75 : rowTy Try.prog 75 = some (113, 9, 120) := by kernel_rfl
theorem fo_77_2 : fldOff Try.prog 77 2 = some 2 := by kernel_rfl
theorem ts_75 : tySz Try.prog 75 = some (false, 1) := by kernel_rfl
theorem cb_68 : callable Try.prog 68 = true := by kernel_rfl
theorem te_75 : tyElem Try.prog 75 = some 113 := by kernel_rfl
theorem fo_77_3 : fldOff Try.prog 77 3 = some 3 := by kernel_rfl
theorem fo_77_0 : fldOff Try.prog 77 0 = some 0 := by kernel_rfl
theorem tz_77 : tyZero Try.prog 77 = some (.agg #[.int .i16 0, .int .i32 0, .slice none 0 0, .map none]) := by kernel_rfl
theorem cb_66 : callable Try.prog 66 = true := by kernel_rfl
theorem cb_30 : callable Try.prog 30 = true := by kernel_rfl
theorem cb_31 : callable Try.prog 31 = true := by kernel_rfl
theorem fok_77 : fldsOk Try.prog 77 = true := by kernel_rfl
theorem cb_33 : callable Try.prog 33 = true := by kernel_rfl
theorem cb_34 : callable Try.prog 34 = true := by kernel_rfl
theorem cb_35 : callable Try.prog 35 = true := by kernel_rfl
theorem cb_14 : callable Try.prog 14 = true := by kernel_rfl
theorem cb_15 : callable Try.prog 15 = true := by kernel_rfl
theorem cb_16 : callable Try.prog 16 = true := by kernel_rfl
end Go.Proofs.Ytnndnjbkhhammaa
