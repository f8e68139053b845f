/- Facts on the program's types and functions, as instances: printed by a program (wip/aw/gen.py) out of the seat's translation. -/
import Derived.Test.YtinojkkjcignhaaProg
import Derived.Test.YtinojkkjcignhaaAw29
import Derived.KernelRfl
set_option maxRecDepth 100000
namespace Go.Proofs
open Go.Proofs.YtinojkkjcignhaaA
instance Try.agf1 : AgF Try.prog 1 false := ⟨Try.isAgg1⟩
instance Try.elf1 : ElF Try.prog 1 (.nilFunc) 1 8 := ⟨Try.t1, Try.type1, rfl, rfl, rfl, rfl, by simp [Value.cells, Value.oneCell']⟩
instance Try.und2 : Und Try.prog 2 (.int .i64) := ⟨Try.underlying2⟩
instance Try.agf2 : AgF Try.prog 2 false := ⟨Try.isAgg2⟩
instance Try.elf2 : ElF Try.prog 2 (.int .i64 0) 1 8 := ⟨Try.t2, Try.type2, rfl, rfl, rfl, rfl, by simp [Value.cells, Value.oneCell']⟩
instance Try.und3 : Und Try.prog 3 (.int .i64) := ⟨Try.underlying3⟩
instance Try.agf3 : AgF Try.prog 3 false := ⟨Try.isAgg3⟩
instance Try.elf3 : ElF Try.prog 3 (.int .i64 0) 1 8 := ⟨Try.t3, Try.type3, rfl, rfl, rfl, rfl, by simp [Value.cells, Value.oneCell']⟩
instance Try.und4 : Und Try.prog 4 (.bool) := ⟨Try.underlying4⟩
instance Try.agf4 : AgF Try.prog 4 false := ⟨Try.isAgg4⟩
instance Try.elf4 : ElF Try.prog 4 (.bool false) 1 1 := ⟨Try.t4, Try.type4, rfl, rfl, rfl, rfl, by simp [Value.cells, Value.oneCell']⟩
instance Try.und5 : Und Try.prog 5 (.int .u8) := ⟨Try.underlying5⟩
instance Try.agf5 : AgF Try.prog 5 false := ⟨Try.isAgg5⟩
instance Try.elf5 : ElF Try.prog 5 (.int .u8 0) 1 1 := ⟨Try.t5, Try.type5, rfl, rfl, rfl, rfl, by simp [Value.cells, Value.oneCell']⟩
instance Try.und6 : Und Try.prog 6 (.int .u8) := ⟨Try.underlying6⟩
instance Try.agf6 : AgF Try.prog 6 false := ⟨Try.isAgg6⟩
instance Try.elf6 : ElF Try.prog 6 (.int .u8 0) 1 1 := ⟨Try.t6, Try.type6, rfl, rfl, rfl, rfl, by simp [Value.cells, Value.oneCell']⟩
instance Try.agf7 : AgF Try.prog 7 true := ⟨Try.isAgg7⟩
instance Try.elf7 : ElF Try.prog 7 (.agg #[.int .i64 0, .int .i64 0, .bool false, .int .u8 0]) 4 24 := ⟨Try.t7, Try.type7, rfl, rfl, rfl, rfl, by simp [Value.cells, Value.oneCell']⟩
instance Try.fld7_0 : FldF Try.prog 7 0 0 1 false := ⟨_, _, Try.underlying7, rfl, rfl, by decide, fun w => ElF.size (e := Try.elf2) w, fun w => Try.isAgg2 w⟩
instance Try.fld7_1 : FldF Try.prog 7 1 1 1 false := ⟨_, _, Try.underlying7, rfl, rfl, by decide, fun w => ElF.size (e := Try.elf3) w, fun w => Try.isAgg3 w⟩
instance Try.fld7_2 : FldF Try.prog 7 2 2 1 false := ⟨_, _, Try.underlying7, rfl, rfl, by decide, fun w => ElF.size (e := Try.elf4) w, fun w => Try.isAgg4 w⟩
instance Try.fld7_3 : FldF Try.prog 7 3 3 1 false := ⟨_, _, Try.underlying7, rfl, rfl, by decide, fun w => ElF.size (e := Try.elf6) w, fun w => Try.isAgg6 w⟩
instance Try.agf8 : AgF Try.prog 8 true := ⟨Try.isAgg8⟩
instance Try.elf8 : ElF Try.prog 8 (.agg #[.int .i64 0, .int .i64 0, .bool false, .int .u8 0]) 4 24 := ⟨Try.t8, Try.type8, rfl, rfl, rfl, rfl, by simp [Value.cells, Value.oneCell']⟩
instance Try.fld8_0 : FldF Try.prog 8 0 0 1 false := ⟨_, _, Try.underlying8, rfl, rfl, by decide, fun w => ElF.size (e := Try.elf2) w, fun w => Try.isAgg2 w⟩
instance Try.fld8_1 : FldF Try.prog 8 1 1 1 false := ⟨_, _, Try.underlying8, rfl, rfl, by decide, fun w => ElF.size (e := Try.elf3) w, fun w => Try.isAgg3 w⟩
instance Try.fld8_2 : FldF Try.prog 8 2 2 1 false := ⟨_, _, Try.underlying8, rfl, rfl, by decide, fun w => ElF.size (e := Try.elf4) w, fun w => Try.isAgg4 w⟩
instance Try.fld8_3 : FldF Try.prog 8 3 3 1 false := ⟨_, _, Try.underlying8, rfl, rfl, by decide, fun w => ElF.size (e := Try.elf6) w, fun w => Try.isAgg6 w⟩
instance Try.und9 : Und Try.prog 9 (.string) := ⟨Try.underlying9⟩
instance Try.agf9 : AgF Try.prog 9 false := ⟨Try.isAgg9⟩
instance Try.elf9 : ElF Try.prog 9 (.string ⟨#[]⟩) 1 16 := ⟨Try.t9, Try.type9, rfl, rfl, rfl, rfl, by simp [Value.cells, Value.oneCell']⟩
instance Try.und10 : Und Try.prog 10 (.string) := ⟨Try.underlying10⟩
instance Try.agf10 : AgF Try.prog 10 false := ⟨Try.isAgg10⟩
instance Try.elf10 : ElF Try.prog 10 (.string ⟨#[]⟩) 1 16 := ⟨Try.t10, Try.type10, rfl, rfl, rfl, rfl, by simp [Value.cells, Value.oneCell']⟩
instance Try.und11 : Und Try.prog 11 (.string) := ⟨Try.underlying11⟩
instance Try.agf11 : AgF Try.prog 11 false := ⟨Try.isAgg11⟩
instance Try.elf11 : ElF Try.prog 11 (.string ⟨#[]⟩) 1 16 := ⟨Try.t11, Try.type11, rfl, rfl, rfl, rfl, by simp [Value.cells, Value.oneCell']⟩
instance Try.und12 : Und Try.prog 12 (.int .u64) := ⟨Try.underlying12⟩
instance Try.agf12 : AgF Try.prog 12 false := ⟨Try.isAgg12⟩
instance Try.elf12 : ElF Try.prog 12 (.int .u64 0) 1 8 := ⟨Try.t12, Try.type12, rfl, rfl, rfl, rfl, by simp [Value.cells, Value.oneCell']⟩
instance Try.agf13 : AgF Try.prog 13 true := ⟨Try.isAgg13⟩
instance Try.elf13 : ElF Try.prog 13 (.agg #[.string ⟨#[]⟩, .int .u64 0]) 2 24 := ⟨Try.t13, Try.type13, rfl, rfl, rfl, rfl, by simp [Value.cells, Value.oneCell']⟩
instance Try.fld13_0 : FldF Try.prog 13 0 0 1 false := ⟨_, _, Try.underlying13, rfl, rfl, by decide, fun w => ElF.size (e := Try.elf9) w, fun w => Try.isAgg9 w⟩
instance Try.fld13_1 : FldF Try.prog 13 1 1 1 false := ⟨_, _, Try.underlying13, rfl, rfl, by decide, fun w => ElF.size (e := Try.elf12) w, fun w => Try.isAgg12 w⟩
instance Try.agf14 : AgF Try.prog 14 true := ⟨Try.isAgg14⟩
instance Try.elf14 : ElF Try.prog 14 (.agg #[.string ⟨#[]⟩, .int .u64 0]) 2 24 := ⟨Try.t14, Try.type14, rfl, rfl, rfl, rfl, by simp [Value.cells, Value.oneCell']⟩
instance Try.fld14_0 : FldF Try.prog 14 0 0 1 false := ⟨_, _, Try.underlying14, rfl, rfl, by decide, fun w => ElF.size (e := Try.elf9) w, fun w => Try.isAgg9 w⟩
instance Try.fld14_1 : FldF Try.prog 14 1 1 1 false := ⟨_, _, Try.underlying14, rfl, rfl, by decide, fun w => ElF.size (e := Try.elf12) w, fun w => Try.isAgg12 w⟩
instance Try.und15 : Und Try.prog 15 (.pointer 73) := ⟨Try.underlying15⟩
instance Try.agf15 : AgF Try.prog 15 false := ⟨Try.isAgg15⟩
instance Try.elf15 : ElF Try.prog 15 (.pointer none) 1 8 := ⟨Try.t15, Try.type15, rfl, rfl, rfl, rfl, by simp [Value.cells, Value.oneCell']⟩
instance Try.und16 : Und Try.prog 16 (.pointer 76) := ⟨Try.underlying16⟩
instance Try.agf16 : AgF Try.prog 16 false := ⟨Try.isAgg16⟩
instance Try.elf16 : ElF Try.prog 16 (.pointer none) 1 8 := ⟨Try.t16, Try.type16, rfl, rfl, rfl, rfl, by simp [Value.cells, Value.oneCell']⟩
instance Try.und17 : Und Try.prog 17 (.pointer 84) := ⟨Try.underlying17⟩
instance Try.agf17 : AgF Try.prog 17 false := ⟨Try.isAgg17⟩
instance Try.elf17 : ElF Try.prog 17 (.pointer none) 1 8 := ⟨Try.t17, Try.type17, rfl, rfl, rfl, rfl, by simp [Value.cells, Value.oneCell']⟩
instance Try.agf18 : AgF Try.prog 18 true := ⟨Try.isAgg18⟩
instance Try.elf18 : ElF Try.prog 18 (.agg #[.pointer none]) 1 8 := ⟨Try.t18, Try.type18, rfl, rfl, rfl, rfl, by simp [Value.cells, Value.oneCell']⟩
instance Try.fld18_0 : FldF Try.prog 18 0 0 1 false := ⟨_, _, Try.underlying18, rfl, rfl, by decide, fun w => ElF.size (e := Try.elf17) w, fun w => Try.isAgg17 w⟩
instance Try.agf19 : AgF Try.prog 19 true := ⟨Try.isAgg19⟩
instance Try.elf19 : ElF Try.prog 19 (.agg #[.pointer none]) 1 8 := ⟨Try.t19, Try.type19, rfl, rfl, rfl, rfl, by simp [Value.cells, Value.oneCell']⟩
instance Try.fld19_0 : FldF Try.prog 19 0 0 1 false := ⟨_, _, Try.underlying19, rfl, rfl, by decide, fun w => ElF.size (e := Try.elf17) w, fun w => Try.isAgg17 w⟩
instance Try.agf20 : AgF Try.prog 20 false := ⟨Try.isAgg20⟩
instance Try.elf20 : ElF Try.prog 20 (.nilIface) 1 16 := ⟨Try.t20, Try.type20, rfl, rfl, rfl, rfl, by simp [Value.cells, Value.oneCell']⟩
instance Try.und21 : Und Try.prog 21 (.int .i32) := ⟨Try.underlying21⟩
instance Try.agf21 : AgF Try.prog 21 false := ⟨Try.isAgg21⟩
instance Try.elf21 : ElF Try.prog 21 (.int .i32 0) 1 4 := ⟨Try.t21, Try.type21, rfl, rfl, rfl, rfl, by simp [Value.cells, Value.oneCell']⟩
instance Try.und22 : Und Try.prog 22 (.slice 30) := ⟨Try.underlying22⟩
instance Try.agf22 : AgF Try.prog 22 false := ⟨Try.isAgg22⟩
instance Try.elf22 : ElF Try.prog 22 (.slice none 0 0) 1 24 := ⟨Try.t22, Try.type22, rfl, rfl, rfl, rfl, by simp [Value.cells, Value.oneCell']⟩
instance Try.und23 : Und Try.prog 23 (.pointer 54) := ⟨Try.underlying23⟩
instance Try.agf23 : AgF Try.prog 23 false := ⟨Try.isAgg23⟩
instance Try.elf23 : ElF Try.prog 23 (.pointer none) 1 8 := ⟨Try.t23, Try.type23, rfl, rfl, rfl, rfl, by simp [Value.cells, Value.oneCell']⟩
instance Try.agf24 : AgF Try.prog 24 false := ⟨Try.isAgg24⟩
instance Try.elf24 : ElF Try.prog 24 (.nilFunc) 1 8 := ⟨Try.t24, Try.type24, rfl, rfl, rfl, rfl, by simp [Value.cells, Value.oneCell']⟩
instance Try.agf25 : AgF Try.prog 25 false := ⟨Try.isAgg25⟩
instance Try.elf25 : ElF Try.prog 25 (.nilFunc) 1 8 := ⟨Try.t25, Try.type25, rfl, rfl, rfl, rfl, by simp [Value.cells, Value.oneCell']⟩
instance Try.und26 : Und Try.prog 26 (.pointer 56) := ⟨Try.underlying26⟩
instance Try.agf26 : AgF Try.prog 26 false := ⟨Try.isAgg26⟩
instance Try.elf26 : ElF Try.prog 26 (.pointer none) 1 8 := ⟨Try.t26, Try.type26, rfl, rfl, rfl, rfl, by simp [Value.cells, Value.oneCell']⟩
instance Try.agf27 : AgF Try.prog 27 false := ⟨Try.isAgg27⟩
instance Try.elf27 : ElF Try.prog 27 (.nilFunc) 1 8 := ⟨Try.t27, Try.type27, rfl, rfl, rfl, rfl, by simp [Value.cells, Value.oneCell']⟩
instance Try.und28 : Und Try.prog 28 (.slice 42) := ⟨Try.underlying28⟩
instance Try.agf28 : AgF Try.prog 28 false := ⟨Try.isAgg28⟩
instance Try.elf28 : ElF Try.prog 28 (.slice none 0 0) 1 24 := ⟨Try.t28, Try.type28, rfl, rfl, rfl, rfl, by simp [Value.cells, Value.oneCell']⟩
instance Try.agf29 : AgF Try.prog 29 true := ⟨Try.isAgg29⟩
instance Try.elf29 : ElF Try.prog 29 (.agg #[.int .i64 0, .int .i64 0, .int .i64 0, .string ⟨#[]⟩, .int .i64 0, .int .i64 0, .bool false, .int .i64 0, .int .i64 0, .int .i64 0, .slice none 0 0]) 11 112 := ⟨Try.t29, Try.type29, rfl, rfl, rfl, rfl, by simp [Value.cells, Value.oneCell']⟩
instance Try.fld29_0 : FldF Try.prog 29 0 0 1 false := ⟨_, _, Try.underlying29, rfl, rfl, by decide, fun w => ElF.size (e := Try.elf3) w, fun w => Try.isAgg3 w⟩
instance Try.fld29_1 : FldF Try.prog 29 1 1 1 false := ⟨_, _, Try.underlying29, rfl, rfl, by decide, fun w => ElF.size (e := Try.elf3) w, fun w => Try.isAgg3 w⟩
instance Try.fld29_2 : FldF Try.prog 29 2 2 1 false := ⟨_, _, Try.underlying29, rfl, rfl, by decide, fun w => ElF.size (e := Try.elf2) w, fun w => Try.isAgg2 w⟩
instance Try.fld29_3 : FldF Try.prog 29 3 3 1 false := ⟨_, _, Try.underlying29, rfl, rfl, by decide, fun w => ElF.size (e := Try.elf9) w, fun w => Try.isAgg9 w⟩
instance Try.fld29_4 : FldF Try.prog 29 4 4 1 false := ⟨_, _, Try.underlying29, rfl, rfl, by decide, fun w => ElF.size (e := Try.elf3) w, fun w => Try.isAgg3 w⟩
instance Try.fld29_5 : FldF Try.prog 29 5 5 1 false := ⟨_, _, Try.underlying29, rfl, rfl, by decide, fun w => ElF.size (e := Try.elf2) w, fun w => Try.isAgg2 w⟩
instance Try.fld29_6 : FldF Try.prog 29 6 6 1 false := ⟨_, _, Try.underlying29, rfl, rfl, by decide, fun w => ElF.size (e := Try.elf4) w, fun w => Try.isAgg4 w⟩
instance Try.fld29_7 : FldF Try.prog 29 7 7 1 false := ⟨_, _, Try.underlying29, rfl, rfl, by decide, fun w => ElF.size (e := Try.elf3) w, fun w => Try.isAgg3 w⟩
instance Try.fld29_8 : FldF Try.prog 29 8 8 1 false := ⟨_, _, Try.underlying29, rfl, rfl, by decide, fun w => ElF.size (e := Try.elf2) w, fun w => Try.isAgg2 w⟩
instance Try.fld29_9 : FldF Try.prog 29 9 9 1 false := ⟨_, _, Try.underlying29, rfl, rfl, by decide, fun w => ElF.size (e := Try.elf2) w, fun w => Try.isAgg2 w⟩
instance Try.fld29_10 : FldF Try.prog 29 10 10 1 false := ⟨_, _, Try.underlying29, rfl, rfl, by decide, fun w => ElF.size (e := Try.elf28) w, fun w => Try.isAgg28 w⟩
instance Try.agf30 : AgF Try.prog 30 true := ⟨Try.isAgg30⟩
instance Try.elf30 : ElF Try.prog 30 (.agg #[.int .i64 0, .int .i64 0, .int .i64 0, .string ⟨#[]⟩, .int .i64 0, .int .i64 0, .bool false, .int .i64 0, .int .i64 0, .int .i64 0, .slice none 0 0]) 11 112 := ⟨Try.t30, Try.type30, rfl, rfl, rfl, rfl, by simp [Value.cells, Value.oneCell']⟩
instance Try.fld30_0 : FldF Try.prog 30 0 0 1 false := ⟨_, _, Try.underlying30, rfl, rfl, by decide, fun w => ElF.size (e := Try.elf3) w, fun w => Try.isAgg3 w⟩
instance Try.fld30_1 : FldF Try.prog 30 1 1 1 false := ⟨_, _, Try.underlying30, rfl, rfl, by decide, fun w => ElF.size (e := Try.elf3) w, fun w => Try.isAgg3 w⟩
instance Try.fld30_2 : FldF Try.prog 30 2 2 1 false := ⟨_, _, Try.underlying30, rfl, rfl, by decide, fun w => ElF.size (e := Try.elf2) w, fun w => Try.isAgg2 w⟩
instance Try.fld30_3 : FldF Try.prog 30 3 3 1 false := ⟨_, _, Try.underlying30, rfl, rfl, by decide, fun w => ElF.size (e := Try.elf9) w, fun w => Try.isAgg9 w⟩
instance Try.fld30_4 : FldF Try.prog 30 4 4 1 false := ⟨_, _, Try.underlying30, rfl, rfl, by decide, fun w => ElF.size (e := Try.elf3) w, fun w => Try.isAgg3 w⟩
instance Try.fld30_5 : FldF Try.prog 30 5 5 1 false := ⟨_, _, Try.underlying30, rfl, rfl, by decide, fun w => ElF.size (e := Try.elf2) w, fun w => Try.isAgg2 w⟩
instance Try.fld30_6 : FldF Try.prog 30 6 6 1 false := ⟨_, _, Try.underlying30, rfl, rfl, by decide, fun w => ElF.size (e := Try.elf4) w, fun w => Try.isAgg4 w⟩
instance Try.fld30_7 : FldF Try.prog 30 7 7 1 false := ⟨_, _, Try.underlying30, rfl, rfl, by decide, fun w => ElF.size (e := Try.elf3) w, fun w => Try.isAgg3 w⟩
instance Try.fld30_8 : FldF Try.prog 30 8 8 1 false := ⟨_, _, Try.underlying30, rfl, rfl, by decide, fun w => ElF.size (e := Try.elf2) w, fun w => Try.isAgg2 w⟩
instance Try.fld30_9 : FldF Try.prog 30 9 9 1 false := ⟨_, _, Try.underlying30, rfl, rfl, by decide, fun w => ElF.size (e := Try.elf2) w, fun w => Try.isAgg2 w⟩
instance Try.fld30_10 : FldF Try.prog 30 10 10 1 false := ⟨_, _, Try.underlying30, rfl, rfl, by decide, fun w => ElF.size (e := Try.elf28) w, fun w => Try.isAgg28 w⟩
instance Try.agf31 : AgF Try.prog 31 true := ⟨Try.isAgg31⟩
instance Try.elf31 : ElF Try.prog 31 (.agg #[.int .i64 0, .int .i64 0]) 2 16 := ⟨Try.t31, Try.type31, rfl, rfl, rfl, rfl, by simp [Value.cells, Value.oneCell']⟩
instance Try.fld31_0 : FldF Try.prog 31 0 0 1 false := ⟨_, _, Try.underlying31, rfl, rfl, by decide, fun w => ElF.size (e := Try.elf2) w, fun w => Try.isAgg2 w⟩
instance Try.fld31_1 : FldF Try.prog 31 1 1 1 false := ⟨_, _, Try.underlying31, rfl, rfl, by decide, fun w => ElF.size (e := Try.elf2) w, fun w => Try.isAgg2 w⟩
instance Try.agf32 : AgF Try.prog 32 true := ⟨Try.isAgg32⟩
instance Try.elf32 : ElF Try.prog 32 (.agg #[.int .i64 0, .int .i64 0]) 2 16 := ⟨Try.t32, Try.type32, rfl, rfl, rfl, rfl, by simp [Value.cells, Value.oneCell']⟩
instance Try.fld32_0 : FldF Try.prog 32 0 0 1 false := ⟨_, _, Try.underlying32, rfl, rfl, by decide, fun w => ElF.size (e := Try.elf2) w, fun w => Try.isAgg2 w⟩
instance Try.fld32_1 : FldF Try.prog 32 1 1 1 false := ⟨_, _, Try.underlying32, rfl, rfl, by decide, fun w => ElF.size (e := Try.elf2) w, fun w => Try.isAgg2 w⟩
instance Try.agf34 : AgF Try.prog 34 false := ⟨Try.isAgg34⟩
instance Try.elf34 : ElF Try.prog 34 (.nilFunc) 1 8 := ⟨Try.t34, Try.type34, rfl, rfl, rfl, rfl, by simp [Value.cells, Value.oneCell']⟩
instance Try.agf35 : AgF Try.prog 35 false := ⟨Try.isAgg35⟩
instance Try.elf35 : ElF Try.prog 35 (.nilFunc) 1 8 := ⟨Try.t35, Try.type35, rfl, rfl, rfl, rfl, by simp [Value.cells, Value.oneCell']⟩
instance Try.agf36 : AgF Try.prog 36 false := ⟨Try.isAgg36⟩
instance Try.elf36 : ElF Try.prog 36 (.nilFunc) 1 8 := ⟨Try.t36, Try.type36, rfl, rfl, rfl, rfl, by simp [Value.cells, Value.oneCell']⟩
instance Try.agf37 : AgF Try.prog 37 false := ⟨Try.isAgg37⟩
instance Try.elf37 : ElF Try.prog 37 (.nilFunc) 1 8 := ⟨Try.t37, Try.type37, rfl, rfl, rfl, rfl, by simp [Value.cells, Value.oneCell']⟩
instance Try.und38 : Und Try.prog 38 (.int .i64) := ⟨Try.underlying38⟩
instance Try.agf38 : AgF Try.prog 38 false := ⟨Try.isAgg38⟩
instance Try.elf38 : ElF Try.prog 38 (.int .i64 0) 1 8 := ⟨Try.t38, Try.type38, rfl, rfl, rfl, rfl, by simp [Value.cells, Value.oneCell']⟩
instance Try.agf40 : AgF Try.prog 40 false := ⟨Try.isAgg40⟩
instance Try.elf40 : ElF Try.prog 40 (.nilFunc) 1 8 := ⟨Try.t40, Try.type40, rfl, rfl, rfl, rfl, by simp [Value.cells, Value.oneCell']⟩
instance Try.agf41 : AgF Try.prog 41 true := ⟨Try.isAgg41⟩
instance Try.elf41 : ElF Try.prog 41 (.agg #[.int .i64 0, .int .i64 0]) 2 16 := ⟨Try.t41, Try.type41, rfl, rfl, rfl, rfl, by simp [Value.cells, Value.oneCell']⟩
instance Try.fld41_0 : FldF Try.prog 41 0 0 1 false := ⟨_, _, Try.underlying41, rfl, rfl, by decide, fun w => ElF.size (e := Try.elf3) w, fun w => Try.isAgg3 w⟩
instance Try.fld41_1 : FldF Try.prog 41 1 1 1 false := ⟨_, _, Try.underlying41, rfl, rfl, by decide, fun w => ElF.size (e := Try.elf2) w, fun w => Try.isAgg2 w⟩
instance Try.agf42 : AgF Try.prog 42 true := ⟨Try.isAgg42⟩
instance Try.elf42 : ElF Try.prog 42 (.agg #[.int .i64 0, .int .i64 0]) 2 16 := ⟨Try.t42, Try.type42, rfl, rfl, rfl, rfl, by simp [Value.cells, Value.oneCell']⟩
instance Try.fld42_0 : FldF Try.prog 42 0 0 1 false := ⟨_, _, Try.underlying42, rfl, rfl, by decide, fun w => ElF.size (e := Try.elf3) w, fun w => Try.isAgg3 w⟩
instance Try.fld42_1 : FldF Try.prog 42 1 1 1 false := ⟨_, _, Try.underlying42, rfl, rfl, by decide, fun w => ElF.size (e := Try.elf2) w, fun w => Try.isAgg2 w⟩
instance Try.agf43 : AgF Try.prog 43 false := ⟨Try.isAgg43⟩
instance Try.elf43 : ElF Try.prog 43 (.nilFunc) 1 8 := ⟨Try.t43, Try.type43, rfl, rfl, rfl, rfl, by simp [Value.cells, Value.oneCell']⟩
instance Try.agf44 : AgF Try.prog 44 false := ⟨Try.isAgg44⟩
instance Try.elf44 : ElF Try.prog 44 (.nilFunc) 1 8 := ⟨Try.t44, Try.type44, rfl, rfl, rfl, rfl, by simp [Value.cells, Value.oneCell']⟩
instance Try.agf45 : AgF Try.prog 45 false := ⟨Try.isAgg45⟩
instance Try.elf45 : ElF Try.prog 45 (.nilFunc) 1 8 := ⟨Try.t45, Try.type45, rfl, rfl, rfl, rfl, by simp [Value.cells, Value.oneCell']⟩
instance Try.und46 : Und Try.prog 46 (.slice 9) := ⟨Try.underlying46⟩
instance Try.agf46 : AgF Try.prog 46 false := ⟨Try.isAgg46⟩
instance Try.elf46 : ElF Try.prog 46 (.slice none 0 0) 1 24 := ⟨Try.t46, Try.type46, rfl, rfl, rfl, rfl, by simp [Value.cells, Value.oneCell']⟩
instance Try.und47 : Und Try.prog 47 (.slice 5) := ⟨Try.underlying47⟩
instance Try.agf47 : AgF Try.prog 47 false := ⟨Try.isAgg47⟩
instance Try.elf47 : ElF Try.prog 47 (.slice none 0 0) 1 24 := ⟨Try.t47, Try.type47, rfl, rfl, rfl, rfl, by simp [Value.cells, Value.oneCell']⟩
instance Try.agf48 : AgF Try.prog 48 false := ⟨Try.isAgg48⟩
instance Try.elf48 : ElF Try.prog 48 (.nilFunc) 1 8 := ⟨Try.t48, Try.type48, rfl, rfl, rfl, rfl, by simp [Value.cells, Value.oneCell']⟩
instance Try.agf49 : AgF Try.prog 49 false := ⟨Try.isAgg49⟩
instance Try.elf49 : ElF Try.prog 49 (.nilFunc) 1 8 := ⟨Try.t49, Try.type49, rfl, rfl, rfl, rfl, by simp [Value.cells, Value.oneCell']⟩
instance Try.und50 : Und Try.prog 50 (.pointer 52) := ⟨Try.underlying50⟩
instance Try.agf50 : AgF Try.prog 50 false := ⟨Try.isAgg50⟩
instance Try.elf50 : ElF Try.prog 50 (.pointer none) 1 8 := ⟨Try.t50, Try.type50, rfl, rfl, rfl, rfl, by simp [Value.cells, Value.oneCell']⟩
instance Try.agf51 : AgF Try.prog 51 true := ⟨Try.isAgg51⟩
instance Try.elf51 : ElF Try.prog 51 (.agg #[.pointer none, .slice none 0 0]) 2 32 := ⟨Try.t51, Try.type51, rfl, rfl, rfl, rfl, by simp [Value.cells, Value.oneCell']⟩
instance Try.fld51_0 : FldF Try.prog 51 0 0 1 false := ⟨_, _, Try.underlying51, rfl, rfl, by decide, fun w => ElF.size (e := Try.elf50) w, fun w => Try.isAgg50 w⟩
instance Try.fld51_1 : FldF Try.prog 51 1 1 1 false := ⟨_, _, Try.underlying51, rfl, rfl, by decide, fun w => ElF.size (e := Try.elf47) w, fun w => Try.isAgg47 w⟩
instance Try.agf52 : AgF Try.prog 52 true := ⟨Try.isAgg52⟩
instance Try.elf52 : ElF Try.prog 52 (.agg #[.pointer none, .slice none 0 0]) 2 32 := ⟨Try.t52, Try.type52, rfl, rfl, rfl, rfl, by simp [Value.cells, Value.oneCell']⟩
instance Try.fld52_0 : FldF Try.prog 52 0 0 1 false := ⟨_, _, Try.underlying52, rfl, rfl, by decide, fun w => ElF.size (e := Try.elf50) w, fun w => Try.isAgg50 w⟩
instance Try.fld52_1 : FldF Try.prog 52 1 1 1 false := ⟨_, _, Try.underlying52, rfl, rfl, by decide, fun w => ElF.size (e := Try.elf47) w, fun w => Try.isAgg47 w⟩
instance Try.agf53 : AgF Try.prog 53 true := ⟨Try.isAgg53⟩
instance Try.elf53 : ElF Try.prog 53 (.agg #[.bool false, .int .i64 0, .int .i64 0, .int .i64 0, .string ⟨#[]⟩, .int .i64 0, .int .i64 0, .bool false, .int .i64 0, .int .i64 0, .int .i64 0, .slice none 0 0, .pointer none, .slice none 0 0, .int .i64 0, .int .i64 0]) 16 168 := ⟨Try.t53, Try.type53, rfl, rfl, rfl, rfl, by simp [Value.cells, Value.oneCell']⟩
instance Try.fld53_0 : FldF Try.prog 53 0 0 1 false := ⟨_, _, Try.underlying53, rfl, rfl, by decide, fun w => ElF.size (e := Try.elf4) w, fun w => Try.isAgg4 w⟩
instance Try.fld53_1 : FldF Try.prog 53 1 1 11 true := ⟨_, _, Try.underlying53, rfl, rfl, by decide, fun w => ElF.size (e := Try.elf30) w, fun w => Try.isAgg30 w⟩
instance Try.fld53_2 : FldF Try.prog 53 2 12 2 true := ⟨_, _, Try.underlying53, rfl, rfl, by decide, fun w => ElF.size (e := Try.elf52) w, fun w => Try.isAgg52 w⟩
instance Try.fld53_3 : FldF Try.prog 53 3 14 2 true := ⟨_, _, Try.underlying53, rfl, rfl, by decide, fun w => ElF.size (e := Try.elf32) w, fun w => Try.isAgg32 w⟩
instance Try.agf54 : AgF Try.prog 54 true := ⟨Try.isAgg54⟩
instance Try.elf54 : ElF Try.prog 54 (.agg #[.bool false, .int .i64 0, .int .i64 0, .int .i64 0, .string ⟨#[]⟩, .int .i64 0, .int .i64 0, .bool false, .int .i64 0, .int .i64 0, .int .i64 0, .slice none 0 0, .pointer none, .slice none 0 0, .int .i64 0, .int .i64 0]) 16 168 := ⟨Try.t54, Try.type54, rfl, rfl, rfl, rfl, by simp [Value.cells, Value.oneCell']⟩
instance Try.fld54_0 : FldF Try.prog 54 0 0 1 false := ⟨_, _, Try.underlying54, rfl, rfl, by decide, fun w => ElF.size (e := Try.elf4) w, fun w => Try.isAgg4 w⟩
instance Try.fld54_1 : FldF Try.prog 54 1 1 11 true := ⟨_, _, Try.underlying54, rfl, rfl, by decide, fun w => ElF.size (e := Try.elf30) w, fun w => Try.isAgg30 w⟩
instance Try.fld54_2 : FldF Try.prog 54 2 12 2 true := ⟨_, _, Try.underlying54, rfl, rfl, by decide, fun w => ElF.size (e := Try.elf52) w, fun w => Try.isAgg52 w⟩
instance Try.fld54_3 : FldF Try.prog 54 3 14 2 true := ⟨_, _, Try.underlying54, rfl, rfl, by decide, fun w => ElF.size (e := Try.elf32) w, fun w => Try.isAgg32 w⟩
instance Try.agf55 : AgF Try.prog 55 true := ⟨Try.isAgg55⟩
instance Try.elf55 : ElF Try.prog 55 (.agg #[.slice none 0 0, .int .i64 0, .int .i64 0]) 3 40 := ⟨Try.t55, Try.type55, rfl, rfl, rfl, rfl, by simp [Value.cells, Value.oneCell']⟩
instance Try.fld55_0 : FldF Try.prog 55 0 0 1 false := ⟨_, _, Try.underlying55, rfl, rfl, by decide, fun w => ElF.size (e := Try.elf22) w, fun w => Try.isAgg22 w⟩
instance Try.fld55_1 : FldF Try.prog 55 1 1 2 true := ⟨_, _, Try.underlying55, rfl, rfl, by decide, fun w => ElF.size (e := Try.elf32) w, fun w => Try.isAgg32 w⟩
instance Try.agf56 : AgF Try.prog 56 true := ⟨Try.isAgg56⟩
instance Try.elf56 : ElF Try.prog 56 (.agg #[.slice none 0 0, .int .i64 0, .int .i64 0]) 3 40 := ⟨Try.t56, Try.type56, rfl, rfl, rfl, rfl, by simp [Value.cells, Value.oneCell']⟩
instance Try.fld56_0 : FldF Try.prog 56 0 0 1 false := ⟨_, _, Try.underlying56, rfl, rfl, by decide, fun w => ElF.size (e := Try.elf22) w, fun w => Try.isAgg22 w⟩
instance Try.fld56_1 : FldF Try.prog 56 1 1 2 true := ⟨_, _, Try.underlying56, rfl, rfl, by decide, fun w => ElF.size (e := Try.elf32) w, fun w => Try.isAgg32 w⟩
instance Try.agf57 : AgF Try.prog 57 false := ⟨Try.isAgg57⟩
instance Try.elf57 : ElF Try.prog 57 (.nilFunc) 1 8 := ⟨Try.t57, Try.type57, rfl, rfl, rfl, rfl, by simp [Value.cells, Value.oneCell']⟩
instance Try.agf58 : AgF Try.prog 58 false := ⟨Try.isAgg58⟩
instance Try.elf58 : ElF Try.prog 58 (.nilFunc) 1 8 := ⟨Try.t58, Try.type58, rfl, rfl, rfl, rfl, by simp [Value.cells, Value.oneCell']⟩
instance Try.agf59 : AgF Try.prog 59 false := ⟨Try.isAgg59⟩
instance Try.elf59 : ElF Try.prog 59 (.nilFunc) 1 8 := ⟨Try.t59, Try.type59, rfl, rfl, rfl, rfl, by simp [Value.cells, Value.oneCell']⟩
instance Try.agf60 : AgF Try.prog 60 false := ⟨Try.isAgg60⟩
instance Try.elf60 : ElF Try.prog 60 (.nilIface) 1 16 := ⟨Try.t60, Try.type60, rfl, rfl, rfl, rfl, by simp [Value.cells, Value.oneCell']⟩
instance Try.agf61 : AgF Try.prog 61 false := ⟨Try.isAgg61⟩
instance Try.elf61 : ElF Try.prog 61 (.nilIface) 1 16 := ⟨Try.t61, Try.type61, rfl, rfl, rfl, rfl, by simp [Value.cells, Value.oneCell']⟩
instance Try.agf63 : AgF Try.prog 63 false := ⟨Try.isAgg63⟩
instance Try.elf63 : ElF Try.prog 63 (.nilFunc) 1 8 := ⟨Try.t63, Try.type63, rfl, rfl, rfl, rfl, by simp [Value.cells, Value.oneCell']⟩
instance Try.agf64 : AgF Try.prog 64 false := ⟨Try.isAgg64⟩
instance Try.elf64 : ElF Try.prog 64 (.nilFunc) 1 8 := ⟨Try.t64, Try.type64, rfl, rfl, rfl, rfl, by simp [Value.cells, Value.oneCell']⟩
instance Try.agf65 : AgF Try.prog 65 false := ⟨Try.isAgg65⟩
instance Try.elf65 : ElF Try.prog 65 (.nilFunc) 1 8 := ⟨Try.t65, Try.type65, rfl, rfl, rfl, rfl, by simp [Value.cells, Value.oneCell']⟩
instance Try.agf66 : AgF Try.prog 66 false := ⟨Try.isAgg66⟩
instance Try.elf66 : ElF Try.prog 66 (.nilFunc) 1 8 := ⟨Try.t66, Try.type66, rfl, rfl, rfl, rfl, by simp [Value.cells, Value.oneCell']⟩
instance Try.agf67 : AgF Try.prog 67 false := ⟨Try.isAgg67⟩
instance Try.elf67 : ElF Try.prog 67 (.nilFunc) 1 8 := ⟨Try.t67, Try.type67, rfl, rfl, rfl, rfl, by simp [Value.cells, Value.oneCell']⟩
instance Try.agf68 : AgF Try.prog 68 false := ⟨Try.isAgg68⟩
instance Try.elf68 : ElF Try.prog 68 (.nilFunc) 1 8 := ⟨Try.t68, Try.type68, rfl, rfl, rfl, rfl, by simp [Value.cells, Value.oneCell']⟩
instance Try.und69 : Und Try.prog 69 (.pointer 5) := ⟨Try.underlying69⟩
instance Try.agf69 : AgF Try.prog 69 false := ⟨Try.isAgg69⟩
instance Try.elf69 : ElF Try.prog 69 (.pointer none) 1 8 := ⟨Try.t69, Try.type69, rfl, rfl, rfl, rfl, by simp [Value.cells, Value.oneCell']⟩
instance Try.agf70 : AgF Try.prog 70 false := ⟨Try.isAgg70⟩
instance Try.elf70 : ElF Try.prog 70 (.pointer none) 1 8 := ⟨Try.t70, Try.type70, rfl, rfl, rfl, rfl, by simp [Value.cells, Value.oneCell']⟩
instance Try.agf71 : AgF Try.prog 71 false := ⟨Try.isAgg71⟩
instance Try.elf71 : ElF Try.prog 71 (.nilFunc) 1 8 := ⟨Try.t71, Try.type71, rfl, rfl, rfl, rfl, by simp [Value.cells, Value.oneCell']⟩
instance Try.agf72 : AgF Try.prog 72 true := ⟨Try.isAgg72⟩
instance Try.elf72 : ElF Try.prog 72 (.agg #[.pointer none, .pointer none, .pointer none, .string ⟨#[]⟩]) 4 40 := ⟨Try.t72, Try.type72, rfl, rfl, rfl, rfl, by simp [Value.cells, Value.oneCell']⟩
instance Try.fld72_0 : FldF Try.prog 72 0 0 1 false := ⟨_, _, Try.underlying72, rfl, rfl, by decide, fun w => ElF.size (e := Try.elf17) w, fun w => Try.isAgg17 w⟩
instance Try.fld72_1 : FldF Try.prog 72 1 1 1 false := ⟨_, _, Try.underlying72, rfl, rfl, by decide, fun w => ElF.size (e := Try.elf17) w, fun w => Try.isAgg17 w⟩
instance Try.fld72_2 : FldF Try.prog 72 2 2 1 false := ⟨_, _, Try.underlying72, rfl, rfl, by decide, fun w => ElF.size (e := Try.elf17) w, fun w => Try.isAgg17 w⟩
instance Try.fld72_3 : FldF Try.prog 72 3 3 1 false := ⟨_, _, Try.underlying72, rfl, rfl, by decide, fun w => ElF.size (e := Try.elf9) w, fun w => Try.isAgg9 w⟩
instance Try.agf73 : AgF Try.prog 73 true := ⟨Try.isAgg73⟩
instance Try.elf73 : ElF Try.prog 73 (.agg #[.pointer none, .pointer none, .pointer none, .string ⟨#[]⟩]) 4 40 := ⟨Try.t73, Try.type73, rfl, rfl, rfl, rfl, by simp [Value.cells, Value.oneCell']⟩
instance Try.fld73_0 : FldF Try.prog 73 0 0 1 false := ⟨_, _, Try.underlying73, rfl, rfl, by decide, fun w => ElF.size (e := Try.elf17) w, fun w => Try.isAgg17 w⟩
instance Try.fld73_1 : FldF Try.prog 73 1 1 1 false := ⟨_, _, Try.underlying73, rfl, rfl, by decide, fun w => ElF.size (e := Try.elf17) w, fun w => Try.isAgg17 w⟩
instance Try.fld73_2 : FldF Try.prog 73 2 2 1 false := ⟨_, _, Try.underlying73, rfl, rfl, by decide, fun w => ElF.size (e := Try.elf17) w, fun w => Try.isAgg17 w⟩
instance Try.fld73_3 : FldF Try.prog 73 3 3 1 false := ⟨_, _, Try.underlying73, rfl, rfl, by decide, fun w => ElF.size (e := Try.elf9) w, fun w => Try.isAgg9 w⟩
instance Try.und74 : Und Try.prog 74 (.array 0 16) := ⟨Try.underlying74⟩
instance Try.agf74 : AgF Try.prog 74 true := ⟨Try.isAgg74⟩
instance Try.agf75 : AgF Try.prog 75 true := ⟨Try.isAgg75⟩
instance Try.agf76 : AgF Try.prog 76 true := ⟨Try.isAgg76⟩
instance Try.und77 : Und Try.prog 77 (.int .u32) := ⟨Try.underlying77⟩
instance Try.agf77 : AgF Try.prog 77 false := ⟨Try.isAgg77⟩
instance Try.elf77 : ElF Try.prog 77 (.int .u32 0) 1 4 := ⟨Try.t77, Try.type77, rfl, rfl, rfl, rfl, by simp [Value.cells, Value.oneCell']⟩
instance Try.und78 : Und Try.prog 78 (.int .u8) := ⟨Try.underlying78⟩
instance Try.agf78 : AgF Try.prog 78 false := ⟨Try.isAgg78⟩
instance Try.elf78 : ElF Try.prog 78 (.int .u8 0) 1 1 := ⟨Try.t78, Try.type78, rfl, rfl, rfl, rfl, by simp [Value.cells, Value.oneCell']⟩
instance Try.und79 : Und Try.prog 79 (.int .u8) := ⟨Try.underlying79⟩
instance Try.agf79 : AgF Try.prog 79 false := ⟨Try.isAgg79⟩
instance Try.elf79 : ElF Try.prog 79 (.int .u8 0) 1 1 := ⟨Try.t79, Try.type79, rfl, rfl, rfl, rfl, by simp [Value.cells, Value.oneCell']⟩
instance Try.agf80 : AgF Try.prog 80 false := ⟨Try.isAgg80⟩
instance Try.elf80 : ElF Try.prog 80 (.nilFunc) 1 8 := ⟨Try.t80, Try.type80, rfl, rfl, rfl, rfl, by simp [Value.cells, Value.oneCell']⟩
instance Try.und81 : Und Try.prog 81 (.int .i32) := ⟨Try.underlying81⟩
instance Try.agf81 : AgF Try.prog 81 false := ⟨Try.isAgg81⟩
instance Try.elf81 : ElF Try.prog 81 (.int .i32 0) 1 4 := ⟨Try.t81, Try.type81, rfl, rfl, rfl, rfl, by simp [Value.cells, Value.oneCell']⟩
instance Try.und82 : Und Try.prog 82 (.int .i32) := ⟨Try.underlying82⟩
instance Try.agf82 : AgF Try.prog 82 false := ⟨Try.isAgg82⟩
instance Try.elf82 : ElF Try.prog 82 (.int .i32 0) 1 4 := ⟨Try.t82, Try.type82, rfl, rfl, rfl, rfl, by simp [Value.cells, Value.oneCell']⟩
instance Try.agf83 : AgF Try.prog 83 true := ⟨Try.isAgg83⟩
instance Try.elf83 : ElF Try.prog 83 (.agg #[.int .u64 0, .int .u64 0, .int .u32 0, .int .u8 0, .int .u8 0, .int .u8 0, .int .u8 0, .nilFunc, .pointer none, .int .i32 0, .int .i32 0]) 11 48 := ⟨Try.t83, Try.type83, rfl, rfl, rfl, rfl, by simp [Value.cells, Value.oneCell']⟩
instance Try.fld83_0 : FldF Try.prog 83 0 0 1 false := ⟨_, _, Try.underlying83, rfl, rfl, by decide, fun w => ElF.size (e := Try.elf12) w, fun w => Try.isAgg12 w⟩
instance Try.fld83_1 : FldF Try.prog 83 1 1 1 false := ⟨_, _, Try.underlying83, rfl, rfl, by decide, fun w => ElF.size (e := Try.elf12) w, fun w => Try.isAgg12 w⟩
instance Try.fld83_2 : FldF Try.prog 83 2 2 1 false := ⟨_, _, Try.underlying83, rfl, rfl, by decide, fun w => ElF.size (e := Try.elf77) w, fun w => Try.isAgg77 w⟩
instance Try.fld83_3 : FldF Try.prog 83 3 3 1 false := ⟨_, _, Try.underlying83, rfl, rfl, by decide, fun w => ElF.size (e := Try.elf78) w, fun w => Try.isAgg78 w⟩
instance Try.fld83_4 : FldF Try.prog 83 4 4 1 false := ⟨_, _, Try.underlying83, rfl, rfl, by decide, fun w => ElF.size (e := Try.elf5) w, fun w => Try.isAgg5 w⟩
instance Try.fld83_5 : FldF Try.prog 83 5 5 1 false := ⟨_, _, Try.underlying83, rfl, rfl, by decide, fun w => ElF.size (e := Try.elf5) w, fun w => Try.isAgg5 w⟩
instance Try.fld83_6 : FldF Try.prog 83 6 6 1 false := ⟨_, _, Try.underlying83, rfl, rfl, by decide, fun w => ElF.size (e := Try.elf79) w, fun w => Try.isAgg79 w⟩
instance Try.fld83_7 : FldF Try.prog 83 7 7 1 false := ⟨_, _, Try.underlying83, rfl, rfl, by decide, fun w => ElF.size (e := Try.elf80) w, fun w => Try.isAgg80 w⟩
instance Try.fld83_8 : FldF Try.prog 83 8 8 1 false := ⟨_, _, Try.underlying83, rfl, rfl, by decide, fun w => ElF.size (e := Try.elf69) w, fun w => Try.isAgg69 w⟩
instance Try.fld83_9 : FldF Try.prog 83 9 9 1 false := ⟨_, _, Try.underlying83, rfl, rfl, by decide, fun w => ElF.size (e := Try.elf81) w, fun w => Try.isAgg81 w⟩
instance Try.fld83_10 : FldF Try.prog 83 10 10 1 false := ⟨_, _, Try.underlying83, rfl, rfl, by decide, fun w => ElF.size (e := Try.elf82) w, fun w => Try.isAgg82 w⟩
instance Try.agf84 : AgF Try.prog 84 true := ⟨Try.isAgg84⟩
instance Try.elf84 : ElF Try.prog 84 (.agg #[.int .u64 0, .int .u64 0, .int .u32 0, .int .u8 0, .int .u8 0, .int .u8 0, .int .u8 0, .nilFunc, .pointer none, .int .i32 0, .int .i32 0]) 11 48 := ⟨Try.t84, Try.type84, rfl, rfl, rfl, rfl, by simp [Value.cells, Value.oneCell']⟩
instance Try.fld84_0 : FldF Try.prog 84 0 0 1 false := ⟨_, _, Try.underlying84, rfl, rfl, by decide, fun w => ElF.size (e := Try.elf12) w, fun w => Try.isAgg12 w⟩
instance Try.fld84_1 : FldF Try.prog 84 1 1 1 false := ⟨_, _, Try.underlying84, rfl, rfl, by decide, fun w => ElF.size (e := Try.elf12) w, fun w => Try.isAgg12 w⟩
instance Try.fld84_2 : FldF Try.prog 84 2 2 1 false := ⟨_, _, Try.underlying84, rfl, rfl, by decide, fun w => ElF.size (e := Try.elf77) w, fun w => Try.isAgg77 w⟩
instance Try.fld84_3 : FldF Try.prog 84 3 3 1 false := ⟨_, _, Try.underlying84, rfl, rfl, by decide, fun w => ElF.size (e := Try.elf78) w, fun w => Try.isAgg78 w⟩
instance Try.fld84_4 : FldF Try.prog 84 4 4 1 false := ⟨_, _, Try.underlying84, rfl, rfl, by decide, fun w => ElF.size (e := Try.elf5) w, fun w => Try.isAgg5 w⟩
instance Try.fld84_5 : FldF Try.prog 84 5 5 1 false := ⟨_, _, Try.underlying84, rfl, rfl, by decide, fun w => ElF.size (e := Try.elf5) w, fun w => Try.isAgg5 w⟩
instance Try.fld84_6 : FldF Try.prog 84 6 6 1 false := ⟨_, _, Try.underlying84, rfl, rfl, by decide, fun w => ElF.size (e := Try.elf79) w, fun w => Try.isAgg79 w⟩
instance Try.fld84_7 : FldF Try.prog 84 7 7 1 false := ⟨_, _, Try.underlying84, rfl, rfl, by decide, fun w => ElF.size (e := Try.elf80) w, fun w => Try.isAgg80 w⟩
instance Try.fld84_8 : FldF Try.prog 84 8 8 1 false := ⟨_, _, Try.underlying84, rfl, rfl, by decide, fun w => ElF.size (e := Try.elf69) w, fun w => Try.isAgg69 w⟩
instance Try.fld84_9 : FldF Try.prog 84 9 9 1 false := ⟨_, _, Try.underlying84, rfl, rfl, by decide, fun w => ElF.size (e := Try.elf81) w, fun w => Try.isAgg81 w⟩
instance Try.fld84_10 : FldF Try.prog 84 10 10 1 false := ⟨_, _, Try.underlying84, rfl, rfl, by decide, fun w => ElF.size (e := Try.elf82) w, fun w => Try.isAgg82 w⟩
instance Try.str7 : StrF Try.prog 7 (.agg #[.int .i64 0, .int .i64 0, .bool false, .int .u8 0]) [(0, 1), (1, 1), (2, 1), (3, 1)] := ⟨Try.zeroValue7, _, Try.underlying7, fun w => by simp [ElF.size (e := Try.elf2), ElF.size (e := Try.elf3), ElF.size (e := Try.elf4), ElF.size (e := Try.elf6)]⟩
instance Try.str8 : StrF Try.prog 8 (.agg #[.int .i64 0, .int .i64 0, .bool false, .int .u8 0]) [(0, 1), (1, 1), (2, 1), (3, 1)] := ⟨Try.zeroValue8, _, Try.underlying8, fun w => by simp [ElF.size (e := Try.elf2), ElF.size (e := Try.elf3), ElF.size (e := Try.elf4), ElF.size (e := Try.elf6)]⟩
instance Try.str13 : StrF Try.prog 13 (.agg #[.string ⟨#[]⟩, .int .u64 0]) [(0, 1), (1, 1)] := ⟨Try.zeroValue13, _, Try.underlying13, fun w => by simp [ElF.size (e := Try.elf9), ElF.size (e := Try.elf12)]⟩
instance Try.str14 : StrF Try.prog 14 (.agg #[.string ⟨#[]⟩, .int .u64 0]) [(0, 1), (1, 1)] := ⟨Try.zeroValue14, _, Try.underlying14, fun w => by simp [ElF.size (e := Try.elf9), ElF.size (e := Try.elf12)]⟩
instance Try.str18 : StrF Try.prog 18 (.agg #[.pointer none]) [(0, 1)] := ⟨Try.zeroValue18, _, Try.underlying18, fun w => by simp [ElF.size (e := Try.elf17)]⟩
instance Try.str19 : StrF Try.prog 19 (.agg #[.pointer none]) [(0, 1)] := ⟨Try.zeroValue19, _, Try.underlying19, fun w => by simp [ElF.size (e := Try.elf17)]⟩
instance Try.str29 : StrF Try.prog 29 (.agg #[.int .i64 0, .int .i64 0, .int .i64 0, .string ⟨#[]⟩, .int .i64 0, .int .i64 0, .bool false, .int .i64 0, .int .i64 0, .int .i64 0, .slice none 0 0]) [(0, 1), (1, 1), (2, 1), (3, 1), (4, 1), (5, 1), (6, 1), (7, 1), (8, 1), (9, 1), (10, 1)] := ⟨Try.zeroValue29, _, Try.underlying29, fun w => by simp [ElF.size (e := Try.elf2), ElF.size (e := Try.elf3), ElF.size (e := Try.elf4), ElF.size (e := Try.elf9), ElF.size (e := Try.elf28)]⟩
instance Try.str30 : StrF Try.prog 30 (.agg #[.int .i64 0, .int .i64 0, .int .i64 0, .string ⟨#[]⟩, .int .i64 0, .int .i64 0, .bool false, .int .i64 0, .int .i64 0, .int .i64 0, .slice none 0 0]) [(0, 1), (1, 1), (2, 1), (3, 1), (4, 1), (5, 1), (6, 1), (7, 1), (8, 1), (9, 1), (10, 1)] := ⟨Try.zeroValue30, _, Try.underlying30, fun w => by simp [ElF.size (e := Try.elf2), ElF.size (e := Try.elf3), ElF.size (e := Try.elf4), ElF.size (e := Try.elf9), ElF.size (e := Try.elf28)]⟩
instance Try.str31 : StrF Try.prog 31 (.agg #[.int .i64 0, .int .i64 0]) [(0, 1), (1, 1)] := ⟨Try.zeroValue31, _, Try.underlying31, fun w => by simp [ElF.size (e := Try.elf2)]⟩
instance Try.str32 : StrF Try.prog 32 (.agg #[.int .i64 0, .int .i64 0]) [(0, 1), (1, 1)] := ⟨Try.zeroValue32, _, Try.underlying32, fun w => by simp [ElF.size (e := Try.elf2)]⟩
instance Try.eqt32 : EqT Try.prog 32 [.int .i64, .int .i64] := ⟨by kernel_rfl, eqd_struct Try.underlying32 Try.stoodInHeld32 (eqf_cons (ks1 := [.int .i64]) (ks2 := [.int .i64]) (by kernel_rfl) rfl (eqd_int (t := 2)) Try.isAgg2 (fun w => ElF.size (e := Try.elf2) w) (fun _ => rfl) (eqf_cons (ks1 := [.int .i64]) (ks2 := []) (by kernel_rfl) rfl (eqd_int (t := 2)) Try.isAgg2 (fun w => ElF.size (e := Try.elf2) w) (fun _ => rfl) eqf_nil))⟩
instance Try.str41 : StrF Try.prog 41 (.agg #[.int .i64 0, .int .i64 0]) [(0, 1), (1, 1)] := ⟨Try.zeroValue41, _, Try.underlying41, fun w => by simp [ElF.size (e := Try.elf2), ElF.size (e := Try.elf3)]⟩
instance Try.str42 : StrF Try.prog 42 (.agg #[.int .i64 0, .int .i64 0]) [(0, 1), (1, 1)] := ⟨Try.zeroValue42, _, Try.underlying42, fun w => by simp [ElF.size (e := Try.elf2), ElF.size (e := Try.elf3)]⟩
instance Try.eqt42 : EqT Try.prog 42 [.int .i64, .int .i64] := ⟨by kernel_rfl, eqd_struct Try.underlying42 Try.stoodInHeld42 (eqf_cons (ks1 := [.int .i64]) (ks2 := [.int .i64]) (by kernel_rfl) rfl (eqd_int (t := 3)) Try.isAgg3 (fun w => ElF.size (e := Try.elf3) w) (fun _ => rfl) (eqf_cons (ks1 := [.int .i64]) (ks2 := []) (by kernel_rfl) rfl (eqd_int (t := 2)) Try.isAgg2 (fun w => ElF.size (e := Try.elf2) w) (fun _ => rfl) eqf_nil))⟩
instance Try.str51 : StrF Try.prog 51 (.agg #[.pointer none, .slice none 0 0]) [(0, 1), (1, 1)] := ⟨Try.zeroValue51, _, Try.underlying51, fun w => by simp [ElF.size (e := Try.elf47), ElF.size (e := Try.elf50)]⟩
instance Try.str52 : StrF Try.prog 52 (.agg #[.pointer none, .slice none 0 0]) [(0, 1), (1, 1)] := ⟨Try.zeroValue52, _, Try.underlying52, fun w => by simp [ElF.size (e := Try.elf47), ElF.size (e := Try.elf50)]⟩
instance Try.str53 : StrF Try.prog 53 (.agg #[.bool false, .int .i64 0, .int .i64 0, .int .i64 0, .string ⟨#[]⟩, .int .i64 0, .int .i64 0, .bool false, .int .i64 0, .int .i64 0, .int .i64 0, .slice none 0 0, .pointer none, .slice none 0 0, .int .i64 0, .int .i64 0]) [(0, 1), (1, 11), (12, 2), (14, 2)] := ⟨Try.zeroValue53, _, Try.underlying53, fun w => by simp [ElF.size (e := Try.elf4), ElF.size (e := Try.elf30), ElF.size (e := Try.elf32), ElF.size (e := Try.elf52)]⟩
instance Try.str54 : StrF Try.prog 54 (.agg #[.bool false, .int .i64 0, .int .i64 0, .int .i64 0, .string ⟨#[]⟩, .int .i64 0, .int .i64 0, .bool false, .int .i64 0, .int .i64 0, .int .i64 0, .slice none 0 0, .pointer none, .slice none 0 0, .int .i64 0, .int .i64 0]) [(0, 1), (1, 11), (12, 2), (14, 2)] := ⟨Try.zeroValue54, _, Try.underlying54, fun w => by simp [ElF.size (e := Try.elf4), ElF.size (e := Try.elf30), ElF.size (e := Try.elf32), ElF.size (e := Try.elf52)]⟩
instance Try.str55 : StrF Try.prog 55 (.agg #[.slice none 0 0, .int .i64 0, .int .i64 0]) [(0, 1), (1, 2)] := ⟨Try.zeroValue55, _, Try.underlying55, fun w => by simp [ElF.size (e := Try.elf22), ElF.size (e := Try.elf32)]⟩
instance Try.str56 : StrF Try.prog 56 (.agg #[.slice none 0 0, .int .i64 0, .int .i64 0]) [(0, 1), (1, 2)] := ⟨Try.zeroValue56, _, Try.underlying56, fun w => by simp [ElF.size (e := Try.elf22), ElF.size (e := Try.elf32)]⟩
instance Try.str72 : StrF Try.prog 72 (.agg #[.pointer none, .pointer none, .pointer none, .string ⟨#[]⟩]) [(0, 1), (1, 1), (2, 1), (3, 1)] := ⟨Try.zeroValue72, _, Try.underlying72, fun w => by simp [ElF.size (e := Try.elf9), ElF.size (e := Try.elf17)]⟩
instance Try.str73 : StrF Try.prog 73 (.agg #[.pointer none, .pointer none, .pointer none, .string ⟨#[]⟩]) [(0, 1), (1, 1), (2, 1), (3, 1)] := ⟨Try.zeroValue73, _, Try.underlying73, fun w => by simp [ElF.size (e := Try.elf9), ElF.size (e := Try.elf17)]⟩
instance Try.str83 : StrF Try.prog 83 (.agg #[.int .u64 0, .int .u64 0, .int .u32 0, .int .u8 0, .int .u8 0, .int .u8 0, .int .u8 0, .nilFunc, .pointer none, .int .i32 0, .int .i32 0]) [(0, 1), (1, 1), (2, 1), (3, 1), (4, 1), (5, 1), (6, 1), (7, 1), (8, 1), (9, 1), (10, 1)] := ⟨Try.zeroValue83, _, Try.underlying83, fun w => by simp [ElF.size (e := Try.elf5), ElF.size (e := Try.elf12), ElF.size (e := Try.elf69), ElF.size (e := Try.elf77), ElF.size (e := Try.elf78), ElF.size (e := Try.elf79), ElF.size (e := Try.elf80), ElF.size (e := Try.elf81), ElF.size (e := Try.elf82)]⟩
instance Try.str84 : StrF Try.prog 84 (.agg #[.int .u64 0, .int .u64 0, .int .u32 0, .int .u8 0, .int .u8 0, .int .u8 0, .int .u8 0, .nilFunc, .pointer none, .int .i32 0, .int .i32 0]) [(0, 1), (1, 1), (2, 1), (3, 1), (4, 1), (5, 1), (6, 1), (7, 1), (8, 1), (9, 1), (10, 1)] := ⟨Try.zeroValue84, _, Try.underlying84, fun w => by simp [ElF.size (e := Try.elf5), ElF.size (e := Try.elf12), ElF.size (e := Try.elf69), ElF.size (e := Try.elf77), ElF.size (e := Try.elf78), ElF.size (e := Try.elf79), ElF.size (e := Try.elf80), ElF.size (e := Try.elf81), ElF.size (e := Try.elf82)]⟩
instance Try.mix : Mix Try.prog := ⟨by kernel_rfl⟩
instance Try.ent2 : Ent Try.prog 2 := ent_of Try.func2 (by kernel_rfl) rfl -- gosem.cut.init
instance Try.ent3 : Ent Try.prog 3 := ent_of Try.func3 (by kernel_rfl) rfl -- herald/heraldlaw12.BlockPushes
instance Try.ent4 : Ent Try.prog 4 := ent_of Try.func4 (by kernel_rfl) rfl -- herald/heraldlaw12.BlockSplits
instance Try.ent5 : Ent Try.prog 5 := ent_of Try.func5 (by kernel_rfl) rfl -- herald/heraldlaw12.BlockBack
instance Try.ent6 : Ent Try.prog 6 := ent_of Try.func6 (by kernel_rfl) rfl -- herald/heraldlaw12.BlockCuts
instance Try.ent7 : Ent Try.prog 7 := ent_of Try.func7 (by kernel_rfl) rfl -- herald/heraldlaw12.BlockBetween
instance Try.ent8 : Ent Try.prog 8 := ent_of Try.func8 (by kernel_rfl) rfl -- herald/block.New
instance Try.ent9 : Ent Try.prog 9 := ent_of Try.func9 (by kernel_rfl) rfl -- herald/heraldlaw12.first
instance Try.ent10 : Ent Try.prog 10 := ent_of Try.func10 (by kernel_rfl) rfl -- herald/heraldref12.New
instance Try.ent11 : Ent Try.prog 11 := ent_of Try.func11 (by kernel_rfl) rfl -- (*herald/block.Joiner).Push
instance Try.ent12 : Ent Try.prog 12 := ent_of Try.func12 (by kernel_rfl) rfl -- herald/heraldlaw12.own
instance Try.ent13 : Ent Try.prog 13 := ent_of Try.func13 (by kernel_rfl) rfl -- (*herald/heraldref12.Joiner).Push
instance Try.ent14 : Ent Try.prog 14 := ent_of Try.func14 (by kernel_rfl) rfl -- herald/heraldlaw12.same
instance Try.ent15 : Ent Try.prog 15 := ent_of Try.func15 (by kernel_rfl) rfl -- (*herald/block.Joiner).Busy
instance Try.ent16 : Ent Try.prog 16 := ent_of Try.func16 (by kernel_rfl) rfl -- (*herald/heraldref12.Joiner).Busy
instance Try.ent17 : Ent Try.prog 17 := ent_of Try.func17 (by kernel_rfl) rfl -- herald/block.Split
instance Try.ent18 : Ent Try.prog 18 := ent_of Try.func18 (by kernel_rfl) rfl -- herald/heraldref12.Split
instance Try.ent19 : Ent Try.prog 19 := ent_of Try.func19 (by kernel_rfl) rfl -- herald/heraldlaw12.made
instance Try.ent20 : Ent Try.prog 20 := ent_of Try.func20 (by kernel_rfl) rfl -- herald/heraldlaw12.payload
instance Try.ent21 : Ent Try.prog 21 := ent_of Try.func21 (by kernel_rfl) rfl -- (*herald/block.Joiner).broken
instance Try.ent22 : Ent Try.prog 22 := ent_of Try.func22 (by kernel_rfl) rfl -- herald/block.isHead
instance Try.ent23 : Ent Try.prog 23 := ent_of Try.func23 (by kernel_rfl) rfl -- (*strings.Builder).Len
instance Try.ent24 : Ent Try.prog 24 := ent_of Try.func24 (by kernel_rfl) rfl -- (*strings.Builder).WriteString
instance Try.ent25 : Ent Try.prog 25 := ent_of Try.func25 (by kernel_rfl) rfl -- slices.Clone[[]herald/api.Param,herald/api.Param]
instance Try.ent26 : Ent Try.prog 26 := ent_of Try.func26 (by kernel_rfl) rfl -- (*strings.Builder).String
instance Try.ent27 : Ent Try.prog 27 := ent_of Try.func27 (by kernel_rfl) rfl -- (*strings.Builder).Reset
instance Try.ent28 : Ent Try.prog 28 := ent_of Try.func28 (by kernel_rfl) rfl -- (*herald/heraldref12.Joiner).broken
instance Try.ent29 : Ent Try.prog 29 := ent_of Try.func29 (by kernel_rfl) rfl -- herald/heraldref12.Head
instance Try.ent30 : Ent Try.prog 30 := ent_of Try.func30 (by kernel_rfl) rfl -- herald/heraldref12.Has
instance Try.ent31 : Ent Try.prog 31 := ent_of Try.func31 (by kernel_rfl) rfl -- herald/block.room
instance Try.ent32 : Ent Try.prog 32 := ent_of Try.func32 (by kernel_rfl) rfl -- herald/heraldref12.Room
instance Try.ent33 : Ent Try.prog 33 := ent_of Try.func33 (by kernel_rfl) rfl -- (*strings.Builder).copyCheck
end Go.Proofs
