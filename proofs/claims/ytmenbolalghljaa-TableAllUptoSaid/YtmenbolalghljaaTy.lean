/- Facts on the program's types and functions, as instances: printed by a program (wip/aw/gen.py) out of the seat's translation. -/
import Derived.Test.YtmenbolalghljaaProg
import Derived.Test.YtmenbolalghljaaAw39
import Derived.KernelRfl
set_option maxRecDepth 100000
namespace Go.Proofs
open Go.Proofs.YtmenbolalghljaaA
instance Try.agf1 : AgF Try.prog 1 false := ⟨Try.isAgg1⟩
instance Try.elf1 : ElF Try.prog 1 (.nilFunc) 1 8 := ⟨Try.t1, Try.type1, rfl, rfl, rfl, rfl, by simp [Value.cells, Value.oneCell']⟩
instance Try.und2 : Und Try.prog 2 (.int .i64) := ⟨Try.underlying2⟩
instance Try.agf2 : AgF Try.prog 2 false := ⟨Try.isAgg2⟩
instance Try.elf2 : ElF Try.prog 2 (.int .i64 0) 1 8 := ⟨Try.t2, Try.type2, rfl, rfl, rfl, rfl, by simp [Value.cells, Value.oneCell']⟩
instance Try.und3 : Und Try.prog 3 (.int .i64) := ⟨Try.underlying3⟩
instance Try.agf3 : AgF Try.prog 3 false := ⟨Try.isAgg3⟩
instance Try.elf3 : ElF Try.prog 3 (.int .i64 0) 1 8 := ⟨Try.t3, Try.type3, rfl, rfl, rfl, rfl, by simp [Value.cells, Value.oneCell']⟩
instance Try.und4 : Und Try.prog 4 (.bool) := ⟨Try.underlying4⟩
instance Try.agf4 : AgF Try.prog 4 false := ⟨Try.isAgg4⟩
instance Try.elf4 : ElF Try.prog 4 (.bool false) 1 1 := ⟨Try.t4, Try.type4, rfl, rfl, rfl, rfl, by simp [Value.cells, Value.oneCell']⟩
instance Try.und5 : Und Try.prog 5 (.int .u8) := ⟨Try.underlying5⟩
instance Try.agf5 : AgF Try.prog 5 false := ⟨Try.isAgg5⟩
instance Try.elf5 : ElF Try.prog 5 (.int .u8 0) 1 1 := ⟨Try.t5, Try.type5, rfl, rfl, rfl, rfl, by simp [Value.cells, Value.oneCell']⟩
instance Try.und6 : Und Try.prog 6 (.int .u8) := ⟨Try.underlying6⟩
instance Try.agf6 : AgF Try.prog 6 false := ⟨Try.isAgg6⟩
instance Try.elf6 : ElF Try.prog 6 (.int .u8 0) 1 1 := ⟨Try.t6, Try.type6, rfl, rfl, rfl, rfl, by simp [Value.cells, Value.oneCell']⟩
instance Try.agf7 : AgF Try.prog 7 true := ⟨Try.isAgg7⟩
instance Try.elf7 : ElF Try.prog 7 (.agg #[.int .i64 0, .int .i64 0, .bool false, .int .u8 0]) 4 24 := ⟨Try.t7, Try.type7, rfl, rfl, rfl, rfl, by simp [Value.cells, Value.oneCell']⟩
instance Try.fld7_0 : FldF Try.prog 7 0 0 1 false := ⟨_, _, Try.underlying7, rfl, rfl, by decide, fun w => ElF.size (e := Try.elf2) w, fun w => Try.isAgg2 w⟩
instance Try.fld7_1 : FldF Try.prog 7 1 1 1 false := ⟨_, _, Try.underlying7, rfl, rfl, by decide, fun w => ElF.size (e := Try.elf3) w, fun w => Try.isAgg3 w⟩
instance Try.fld7_2 : FldF Try.prog 7 2 2 1 false := ⟨_, _, Try.underlying7, rfl, rfl, by decide, fun w => ElF.size (e := Try.elf4) w, fun w => Try.isAgg4 w⟩
instance Try.fld7_3 : FldF Try.prog 7 3 3 1 false := ⟨_, _, Try.underlying7, rfl, rfl, by decide, fun w => ElF.size (e := Try.elf6) w, fun w => Try.isAgg6 w⟩
instance Try.agf8 : AgF Try.prog 8 true := ⟨Try.isAgg8⟩
instance Try.elf8 : ElF Try.prog 8 (.agg #[.int .i64 0, .int .i64 0, .bool false, .int .u8 0]) 4 24 := ⟨Try.t8, Try.type8, rfl, rfl, rfl, rfl, by simp [Value.cells, Value.oneCell']⟩
instance Try.fld8_0 : FldF Try.prog 8 0 0 1 false := ⟨_, _, Try.underlying8, rfl, rfl, by decide, fun w => ElF.size (e := Try.elf2) w, fun w => Try.isAgg2 w⟩
instance Try.fld8_1 : FldF Try.prog 8 1 1 1 false := ⟨_, _, Try.underlying8, rfl, rfl, by decide, fun w => ElF.size (e := Try.elf3) w, fun w => Try.isAgg3 w⟩
instance Try.fld8_2 : FldF Try.prog 8 2 2 1 false := ⟨_, _, Try.underlying8, rfl, rfl, by decide, fun w => ElF.size (e := Try.elf4) w, fun w => Try.isAgg4 w⟩
instance Try.fld8_3 : FldF Try.prog 8 3 3 1 false := ⟨_, _, Try.underlying8, rfl, rfl, by decide, fun w => ElF.size (e := Try.elf6) w, fun w => Try.isAgg6 w⟩
instance Try.und9 : Und Try.prog 9 (.string) := ⟨Try.underlying9⟩
instance Try.agf9 : AgF Try.prog 9 false := ⟨Try.isAgg9⟩
instance Try.elf9 : ElF Try.prog 9 (.string ⟨#[]⟩) 1 16 := ⟨Try.t9, Try.type9, rfl, rfl, rfl, rfl, by simp [Value.cells, Value.oneCell']⟩
instance Try.und10 : Und Try.prog 10 (.string) := ⟨Try.underlying10⟩
instance Try.agf10 : AgF Try.prog 10 false := ⟨Try.isAgg10⟩
instance Try.elf10 : ElF Try.prog 10 (.string ⟨#[]⟩) 1 16 := ⟨Try.t10, Try.type10, rfl, rfl, rfl, rfl, by simp [Value.cells, Value.oneCell']⟩
instance Try.und11 : Und Try.prog 11 (.string) := ⟨Try.underlying11⟩
instance Try.agf11 : AgF Try.prog 11 false := ⟨Try.isAgg11⟩
instance Try.elf11 : ElF Try.prog 11 (.string ⟨#[]⟩) 1 16 := ⟨Try.t11, Try.type11, rfl, rfl, rfl, rfl, by simp [Value.cells, Value.oneCell']⟩
instance Try.und12 : Und Try.prog 12 (.int .u64) := ⟨Try.underlying12⟩
instance Try.agf12 : AgF Try.prog 12 false := ⟨Try.isAgg12⟩
instance Try.elf12 : ElF Try.prog 12 (.int .u64 0) 1 8 := ⟨Try.t12, Try.type12, rfl, rfl, rfl, rfl, by simp [Value.cells, Value.oneCell']⟩
instance Try.agf13 : AgF Try.prog 13 true := ⟨Try.isAgg13⟩
instance Try.elf13 : ElF Try.prog 13 (.agg #[.string ⟨#[]⟩, .int .u64 0]) 2 24 := ⟨Try.t13, Try.type13, rfl, rfl, rfl, rfl, by simp [Value.cells, Value.oneCell']⟩
instance Try.fld13_0 : FldF Try.prog 13 0 0 1 false := ⟨_, _, Try.underlying13, rfl, rfl, by decide, fun w => ElF.size (e := Try.elf9) w, fun w => Try.isAgg9 w⟩
instance Try.fld13_1 : FldF Try.prog 13 1 1 1 false := ⟨_, _, Try.underlying13, rfl, rfl, by decide, fun w => ElF.size (e := Try.elf12) w, fun w => Try.isAgg12 w⟩
instance Try.agf14 : AgF Try.prog 14 true := ⟨Try.isAgg14⟩
instance Try.elf14 : ElF Try.prog 14 (.agg #[.string ⟨#[]⟩, .int .u64 0]) 2 24 := ⟨Try.t14, Try.type14, rfl, rfl, rfl, rfl, by simp [Value.cells, Value.oneCell']⟩
instance Try.fld14_0 : FldF Try.prog 14 0 0 1 false := ⟨_, _, Try.underlying14, rfl, rfl, by decide, fun w => ElF.size (e := Try.elf9) w, fun w => Try.isAgg9 w⟩
instance Try.fld14_1 : FldF Try.prog 14 1 1 1 false := ⟨_, _, Try.underlying14, rfl, rfl, by decide, fun w => ElF.size (e := Try.elf12) w, fun w => Try.isAgg12 w⟩
instance Try.und15 : Und Try.prog 15 (.pointer 84) := ⟨Try.underlying15⟩
instance Try.agf15 : AgF Try.prog 15 false := ⟨Try.isAgg15⟩
instance Try.elf15 : ElF Try.prog 15 (.pointer none) 1 8 := ⟨Try.t15, Try.type15, rfl, rfl, rfl, rfl, by simp [Value.cells, Value.oneCell']⟩
instance Try.und16 : Und Try.prog 16 (.pointer 87) := ⟨Try.underlying16⟩
instance Try.agf16 : AgF Try.prog 16 false := ⟨Try.isAgg16⟩
instance Try.elf16 : ElF Try.prog 16 (.pointer none) 1 8 := ⟨Try.t16, Try.type16, rfl, rfl, rfl, rfl, by simp [Value.cells, Value.oneCell']⟩
instance Try.und17 : Und Try.prog 17 (.pointer 96) := ⟨Try.underlying17⟩
instance Try.agf17 : AgF Try.prog 17 false := ⟨Try.isAgg17⟩
instance Try.elf17 : ElF Try.prog 17 (.pointer none) 1 8 := ⟨Try.t17, Try.type17, rfl, rfl, rfl, rfl, by simp [Value.cells, Value.oneCell']⟩
instance Try.agf18 : AgF Try.prog 18 true := ⟨Try.isAgg18⟩
instance Try.elf18 : ElF Try.prog 18 (.agg #[.pointer none]) 1 8 := ⟨Try.t18, Try.type18, rfl, rfl, rfl, rfl, by simp [Value.cells, Value.oneCell']⟩
instance Try.fld18_0 : FldF Try.prog 18 0 0 1 false := ⟨_, _, Try.underlying18, rfl, rfl, by decide, fun w => ElF.size (e := Try.elf17) w, fun w => Try.isAgg17 w⟩
instance Try.agf19 : AgF Try.prog 19 true := ⟨Try.isAgg19⟩
instance Try.elf19 : ElF Try.prog 19 (.agg #[.pointer none]) 1 8 := ⟨Try.t19, Try.type19, rfl, rfl, rfl, rfl, by simp [Value.cells, Value.oneCell']⟩
instance Try.fld19_0 : FldF Try.prog 19 0 0 1 false := ⟨_, _, Try.underlying19, rfl, rfl, by decide, fun w => ElF.size (e := Try.elf17) w, fun w => Try.isAgg17 w⟩
instance Try.agf20 : AgF Try.prog 20 false := ⟨Try.isAgg20⟩
instance Try.elf20 : ElF Try.prog 20 (.nilIface) 1 16 := ⟨Try.t20, Try.type20, rfl, rfl, rfl, rfl, by simp [Value.cells, Value.oneCell']⟩
instance Try.und21 : Und Try.prog 21 (.int .i32) := ⟨Try.underlying21⟩
instance Try.agf21 : AgF Try.prog 21 false := ⟨Try.isAgg21⟩
instance Try.elf21 : ElF Try.prog 21 (.int .i32 0) 1 4 := ⟨Try.t21, Try.type21, rfl, rfl, rfl, rfl, by simp [Value.cells, Value.oneCell']⟩
instance Try.und22 : Und Try.prog 22 (.slice 32) := ⟨Try.underlying22⟩
instance Try.agf22 : AgF Try.prog 22 false := ⟨Try.isAgg22⟩
instance Try.elf22 : ElF Try.prog 22 (.slice none 0 0) 1 24 := ⟨Try.t22, Try.type22, rfl, rfl, rfl, rfl, by simp [Value.cells, Value.oneCell']⟩
instance Try.agf23 : AgF Try.prog 23 false := ⟨Try.isAgg23⟩
instance Try.elf23 : ElF Try.prog 23 (.nilFunc) 1 8 := ⟨Try.t23, Try.type23, rfl, rfl, rfl, rfl, by simp [Value.cells, Value.oneCell']⟩
instance Try.und24 : Und Try.prog 24 (.pointer 63) := ⟨Try.underlying24⟩
instance Try.agf24 : AgF Try.prog 24 false := ⟨Try.isAgg24⟩
instance Try.elf24 : ElF Try.prog 24 (.pointer none) 1 8 := ⟨Try.t24, Try.type24, rfl, rfl, rfl, rfl, by simp [Value.cells, Value.oneCell']⟩
instance Try.und25 : Und Try.prog 25 (.pointer 69) := ⟨Try.underlying25⟩
instance Try.agf25 : AgF Try.prog 25 false := ⟨Try.isAgg25⟩
instance Try.elf25 : ElF Try.prog 25 (.pointer none) 1 8 := ⟨Try.t25, Try.type25, rfl, rfl, rfl, rfl, by simp [Value.cells, Value.oneCell']⟩
instance Try.agf26 : AgF Try.prog 26 true := ⟨Try.isAgg26⟩
instance Try.elf26 : ElF Try.prog 26 (.agg #[.pointer none, .pointer none]) 2 16 := ⟨Try.t26, Try.type26, rfl, rfl, rfl, rfl, by simp [Value.cells, Value.oneCell']⟩
instance Try.fld26_0 : FldF Try.prog 26 0 0 1 false := ⟨_, _, Try.underlying26, rfl, rfl, by decide, fun w => ElF.size (e := Try.elf24) w, fun w => Try.isAgg24 w⟩
instance Try.fld26_1 : FldF Try.prog 26 1 1 1 false := ⟨_, _, Try.underlying26, rfl, rfl, by decide, fun w => ElF.size (e := Try.elf25) w, fun w => Try.isAgg25 w⟩
instance Try.agf27 : AgF Try.prog 27 true := ⟨Try.isAgg27⟩
instance Try.elf27 : ElF Try.prog 27 (.agg #[.pointer none, .pointer none]) 2 16 := ⟨Try.t27, Try.type27, rfl, rfl, rfl, rfl, by simp [Value.cells, Value.oneCell']⟩
instance Try.fld27_0 : FldF Try.prog 27 0 0 1 false := ⟨_, _, Try.underlying27, rfl, rfl, by decide, fun w => ElF.size (e := Try.elf24) w, fun w => Try.isAgg24 w⟩
instance Try.fld27_1 : FldF Try.prog 27 1 1 1 false := ⟨_, _, Try.underlying27, rfl, rfl, by decide, fun w => ElF.size (e := Try.elf25) w, fun w => Try.isAgg25 w⟩
instance Try.und28 : Und Try.prog 28 (.array 2 27) := ⟨Try.underlying28⟩
instance Try.agf28 : AgF Try.prog 28 true := ⟨Try.isAgg28⟩
instance Try.elf28 : ElF Try.prog 28 (.agg #[.pointer none, .pointer none, .pointer none, .pointer none]) 4 32 := ⟨Try.t28, Try.type28, rfl, rfl, rfl, rfl, by simp [Value.cells, Value.oneCell']⟩
instance Try.agf30 : AgF Try.prog 30 false := ⟨Try.isAgg30⟩
instance Try.elf30 : ElF Try.prog 30 (.nilFunc) 1 8 := ⟨Try.t30, Try.type30, rfl, rfl, rfl, rfl, by simp [Value.cells, Value.oneCell']⟩
instance Try.agf31 : AgF Try.prog 31 true := ⟨Try.isAgg31⟩
instance Try.elf31 : ElF Try.prog 31 (.agg #[.int .i64 0, .bool false, .string ⟨#[]⟩, .string ⟨#[]⟩, .int .i64 0]) 5 56 := ⟨Try.t31, Try.type31, rfl, rfl, rfl, rfl, by simp [Value.cells, Value.oneCell']⟩
instance Try.fld31_0 : FldF Try.prog 31 0 0 1 false := ⟨_, _, Try.underlying31, rfl, rfl, by decide, fun w => ElF.size (e := Try.elf3) w, fun w => Try.isAgg3 w⟩
instance Try.fld31_1 : FldF Try.prog 31 1 1 1 false := ⟨_, _, Try.underlying31, rfl, rfl, by decide, fun w => ElF.size (e := Try.elf4) w, fun w => Try.isAgg4 w⟩
instance Try.fld31_2 : FldF Try.prog 31 2 2 1 false := ⟨_, _, Try.underlying31, rfl, rfl, by decide, fun w => ElF.size (e := Try.elf9) w, fun w => Try.isAgg9 w⟩
instance Try.fld31_3 : FldF Try.prog 31 3 3 1 false := ⟨_, _, Try.underlying31, rfl, rfl, by decide, fun w => ElF.size (e := Try.elf9) w, fun w => Try.isAgg9 w⟩
instance Try.fld31_4 : FldF Try.prog 31 4 4 1 false := ⟨_, _, Try.underlying31, rfl, rfl, by decide, fun w => ElF.size (e := Try.elf2) w, fun w => Try.isAgg2 w⟩
instance Try.agf32 : AgF Try.prog 32 true := ⟨Try.isAgg32⟩
instance Try.elf32 : ElF Try.prog 32 (.agg #[.int .i64 0, .bool false, .string ⟨#[]⟩, .string ⟨#[]⟩, .int .i64 0]) 5 56 := ⟨Try.t32, Try.type32, rfl, rfl, rfl, rfl, by simp [Value.cells, Value.oneCell']⟩
instance Try.fld32_0 : FldF Try.prog 32 0 0 1 false := ⟨_, _, Try.underlying32, rfl, rfl, by decide, fun w => ElF.size (e := Try.elf3) w, fun w => Try.isAgg3 w⟩
instance Try.fld32_1 : FldF Try.prog 32 1 1 1 false := ⟨_, _, Try.underlying32, rfl, rfl, by decide, fun w => ElF.size (e := Try.elf4) w, fun w => Try.isAgg4 w⟩
instance Try.fld32_2 : FldF Try.prog 32 2 2 1 false := ⟨_, _, Try.underlying32, rfl, rfl, by decide, fun w => ElF.size (e := Try.elf9) w, fun w => Try.isAgg9 w⟩
instance Try.fld32_3 : FldF Try.prog 32 3 3 1 false := ⟨_, _, Try.underlying32, rfl, rfl, by decide, fun w => ElF.size (e := Try.elf9) w, fun w => Try.isAgg9 w⟩
instance Try.fld32_4 : FldF Try.prog 32 4 4 1 false := ⟨_, _, Try.underlying32, rfl, rfl, by decide, fun w => ElF.size (e := Try.elf2) w, fun w => Try.isAgg2 w⟩
instance Try.agf33 : AgF Try.prog 33 false := ⟨Try.isAgg33⟩
instance Try.elf33 : ElF Try.prog 33 (.nilFunc) 1 8 := ⟨Try.t33, Try.type33, rfl, rfl, rfl, rfl, by simp [Value.cells, Value.oneCell']⟩
instance Try.agf34 : AgF Try.prog 34 false := ⟨Try.isAgg34⟩
instance Try.elf34 : ElF Try.prog 34 (.nilFunc) 1 8 := ⟨Try.t34, Try.type34, rfl, rfl, rfl, rfl, by simp [Value.cells, Value.oneCell']⟩
instance Try.agf35 : AgF Try.prog 35 false := ⟨Try.isAgg35⟩
instance Try.elf35 : ElF Try.prog 35 (.nilFunc) 1 8 := ⟨Try.t35, Try.type35, rfl, rfl, rfl, rfl, by simp [Value.cells, Value.oneCell']⟩
instance Try.agf36 : AgF Try.prog 36 false := ⟨Try.isAgg36⟩
instance Try.elf36 : ElF Try.prog 36 (.nilFunc) 1 8 := ⟨Try.t36, Try.type36, rfl, rfl, rfl, rfl, by simp [Value.cells, Value.oneCell']⟩
instance Try.und37 : Und Try.prog 37 (.slice 45) := ⟨Try.underlying37⟩
instance Try.agf37 : AgF Try.prog 37 false := ⟨Try.isAgg37⟩
instance Try.elf37 : ElF Try.prog 37 (.slice none 0 0) 1 24 := ⟨Try.t37, Try.type37, rfl, rfl, rfl, rfl, by simp [Value.cells, Value.oneCell']⟩
instance Try.und38 : Und Try.prog 38 (.slice 2) := ⟨Try.underlying38⟩
instance Try.agf38 : AgF Try.prog 38 false := ⟨Try.isAgg38⟩
instance Try.elf38 : ElF Try.prog 38 (.slice none 0 0) 1 24 := ⟨Try.t38, Try.type38, rfl, rfl, rfl, rfl, by simp [Value.cells, Value.oneCell']⟩
instance Try.agf39 : AgF Try.prog 39 false := ⟨Try.isAgg39⟩
instance Try.elf39 : ElF Try.prog 39 (.nilFunc) 1 8 := ⟨Try.t39, Try.type39, rfl, rfl, rfl, rfl, by simp [Value.cells, Value.oneCell']⟩
instance Try.und40 : Und Try.prog 40 (.int .i64) := ⟨Try.underlying40⟩
instance Try.agf40 : AgF Try.prog 40 false := ⟨Try.isAgg40⟩
instance Try.elf40 : ElF Try.prog 40 (.int .i64 0) 1 8 := ⟨Try.t40, Try.type40, rfl, rfl, rfl, rfl, by simp [Value.cells, Value.oneCell']⟩
instance Try.agf42 : AgF Try.prog 42 false := ⟨Try.isAgg42⟩
instance Try.elf42 : ElF Try.prog 42 (.nilFunc) 1 8 := ⟨Try.t42, Try.type42, rfl, rfl, rfl, rfl, by simp [Value.cells, Value.oneCell']⟩
instance Try.agf43 : AgF Try.prog 43 false := ⟨Try.isAgg43⟩
instance Try.elf43 : ElF Try.prog 43 (.nilFunc) 1 8 := ⟨Try.t43, Try.type43, rfl, rfl, rfl, rfl, by simp [Value.cells, Value.oneCell']⟩
instance Try.agf44 : AgF Try.prog 44 true := ⟨Try.isAgg44⟩
instance Try.elf44 : ElF Try.prog 44 (.agg #[.string ⟨#[]⟩, .string ⟨#[]⟩]) 2 32 := ⟨Try.t44, Try.type44, rfl, rfl, rfl, rfl, by simp [Value.cells, Value.oneCell']⟩
instance Try.fld44_0 : FldF Try.prog 44 0 0 1 false := ⟨_, _, Try.underlying44, rfl, rfl, by decide, fun w => ElF.size (e := Try.elf9) w, fun w => Try.isAgg9 w⟩
instance Try.fld44_1 : FldF Try.prog 44 1 1 1 false := ⟨_, _, Try.underlying44, rfl, rfl, by decide, fun w => ElF.size (e := Try.elf9) w, fun w => Try.isAgg9 w⟩
instance Try.agf45 : AgF Try.prog 45 true := ⟨Try.isAgg45⟩
instance Try.elf45 : ElF Try.prog 45 (.agg #[.string ⟨#[]⟩, .string ⟨#[]⟩]) 2 32 := ⟨Try.t45, Try.type45, rfl, rfl, rfl, rfl, by simp [Value.cells, Value.oneCell']⟩
instance Try.fld45_0 : FldF Try.prog 45 0 0 1 false := ⟨_, _, Try.underlying45, rfl, rfl, by decide, fun w => ElF.size (e := Try.elf9) w, fun w => Try.isAgg9 w⟩
instance Try.fld45_1 : FldF Try.prog 45 1 1 1 false := ⟨_, _, Try.underlying45, rfl, rfl, by decide, fun w => ElF.size (e := Try.elf9) w, fun w => Try.isAgg9 w⟩
instance Try.agf46 : AgF Try.prog 46 false := ⟨Try.isAgg46⟩
instance Try.elf46 : ElF Try.prog 46 (.nilFunc) 1 8 := ⟨Try.t46, Try.type46, rfl, rfl, rfl, rfl, by simp [Value.cells, Value.oneCell']⟩
instance Try.agf47 : AgF Try.prog 47 false := ⟨Try.isAgg47⟩
instance Try.elf47 : ElF Try.prog 47 (.nilFunc) 1 8 := ⟨Try.t47, Try.type47, rfl, rfl, rfl, rfl, by simp [Value.cells, Value.oneCell']⟩
instance Try.agf48 : AgF Try.prog 48 false := ⟨Try.isAgg48⟩
instance Try.elf48 : ElF Try.prog 48 (.nilFunc) 1 8 := ⟨Try.t48, Try.type48, rfl, rfl, rfl, rfl, by simp [Value.cells, Value.oneCell']⟩
instance Try.agf49 : AgF Try.prog 49 false := ⟨Try.isAgg49⟩
instance Try.elf49 : ElF Try.prog 49 (.nilFunc) 1 8 := ⟨Try.t49, Try.type49, rfl, rfl, rfl, rfl, by simp [Value.cells, Value.oneCell']⟩
instance Try.agf50 : AgF Try.prog 50 false := ⟨Try.isAgg50⟩
instance Try.elf50 : ElF Try.prog 50 (.nilFunc) 1 8 := ⟨Try.t50, Try.type50, rfl, rfl, rfl, rfl, by simp [Value.cells, Value.oneCell']⟩
instance Try.agf52 : AgF Try.prog 52 false := ⟨Try.isAgg52⟩
instance Try.elf52 : ElF Try.prog 52 (.nilFunc) 1 8 := ⟨Try.t52, Try.type52, rfl, rfl, rfl, rfl, by simp [Value.cells, Value.oneCell']⟩
instance Try.agf53 : AgF Try.prog 53 false := ⟨Try.isAgg53⟩
instance Try.elf53 : ElF Try.prog 53 (.nilFunc) 1 8 := ⟨Try.t53, Try.type53, rfl, rfl, rfl, rfl, by simp [Value.cells, Value.oneCell']⟩
instance Try.agf55 : AgF Try.prog 55 false := ⟨Try.isAgg55⟩
instance Try.elf55 : ElF Try.prog 55 (.nilFunc) 1 8 := ⟨Try.t55, Try.type55, rfl, rfl, rfl, rfl, by simp [Value.cells, Value.oneCell']⟩
instance Try.agf56 : AgF Try.prog 56 false := ⟨Try.isAgg56⟩
instance Try.elf56 : ElF Try.prog 56 (.nilFunc) 1 8 := ⟨Try.t56, Try.type56, rfl, rfl, rfl, rfl, by simp [Value.cells, Value.oneCell']⟩
instance Try.agf57 : AgF Try.prog 57 false := ⟨Try.isAgg57⟩
instance Try.elf57 : ElF Try.prog 57 (.nilFunc) 1 8 := ⟨Try.t57, Try.type57, rfl, rfl, rfl, rfl, by simp [Value.cells, Value.oneCell']⟩
instance Try.agf58 : AgF Try.prog 58 false := ⟨Try.isAgg58⟩
instance Try.elf58 : ElF Try.prog 58 (.nilFunc) 1 8 := ⟨Try.t58, Try.type58, rfl, rfl, rfl, rfl, by simp [Value.cells, Value.oneCell']⟩
instance Try.agf60 : AgF Try.prog 60 false := ⟨Try.isAgg60⟩
instance Try.elf60 : ElF Try.prog 60 (.nilFunc) 1 8 := ⟨Try.t60, Try.type60, rfl, rfl, rfl, rfl, by simp [Value.cells, Value.oneCell']⟩
instance Try.und61 : Und Try.prog 61 (.slice 66) := ⟨Try.underlying61⟩
instance Try.agf61 : AgF Try.prog 61 false := ⟨Try.isAgg61⟩
instance Try.elf61 : ElF Try.prog 61 (.slice none 0 0) 1 24 := ⟨Try.t61, Try.type61, rfl, rfl, rfl, rfl, by simp [Value.cells, Value.oneCell']⟩
instance Try.agf62 : AgF Try.prog 62 true := ⟨Try.isAgg62⟩
instance Try.elf62 : ElF Try.prog 62 (.agg #[.int .i64 0, .int .i64 0, .slice none 0 0]) 3 40 := ⟨Try.t62, Try.type62, rfl, rfl, rfl, rfl, by simp [Value.cells, Value.oneCell']⟩
instance Try.fld62_0 : FldF Try.prog 62 0 0 1 false := ⟨_, _, Try.underlying62, rfl, rfl, by decide, fun w => ElF.size (e := Try.elf2) w, fun w => Try.isAgg2 w⟩
instance Try.fld62_1 : FldF Try.prog 62 1 1 1 false := ⟨_, _, Try.underlying62, rfl, rfl, by decide, fun w => ElF.size (e := Try.elf2) w, fun w => Try.isAgg2 w⟩
instance Try.fld62_2 : FldF Try.prog 62 2 2 1 false := ⟨_, _, Try.underlying62, rfl, rfl, by decide, fun w => ElF.size (e := Try.elf61) w, fun w => Try.isAgg61 w⟩
instance Try.agf63 : AgF Try.prog 63 true := ⟨Try.isAgg63⟩
instance Try.elf63 : ElF Try.prog 63 (.agg #[.int .i64 0, .int .i64 0, .slice none 0 0]) 3 40 := ⟨Try.t63, Try.type63, rfl, rfl, rfl, rfl, by simp [Value.cells, Value.oneCell']⟩
instance Try.fld63_0 : FldF Try.prog 63 0 0 1 false := ⟨_, _, Try.underlying63, rfl, rfl, by decide, fun w => ElF.size (e := Try.elf2) w, fun w => Try.isAgg2 w⟩
instance Try.fld63_1 : FldF Try.prog 63 1 1 1 false := ⟨_, _, Try.underlying63, rfl, rfl, by decide, fun w => ElF.size (e := Try.elf2) w, fun w => Try.isAgg2 w⟩
instance Try.fld63_2 : FldF Try.prog 63 2 2 1 false := ⟨_, _, Try.underlying63, rfl, rfl, by decide, fun w => ElF.size (e := Try.elf61) w, fun w => Try.isAgg61 w⟩
instance Try.agf64 : AgF Try.prog 64 false := ⟨Try.isAgg64⟩
instance Try.elf64 : ElF Try.prog 64 (.nilFunc) 1 8 := ⟨Try.t64, Try.type64, rfl, rfl, rfl, rfl, by simp [Value.cells, Value.oneCell']⟩
instance Try.agf65 : AgF Try.prog 65 true := ⟨Try.isAgg65⟩
instance Try.elf65 : ElF Try.prog 65 (.agg #[.string ⟨#[]⟩, .string ⟨#[]⟩]) 2 32 := ⟨Try.t65, Try.type65, rfl, rfl, rfl, rfl, by simp [Value.cells, Value.oneCell']⟩
instance Try.fld65_0 : FldF Try.prog 65 0 0 1 false := ⟨_, _, Try.underlying65, rfl, rfl, by decide, fun w => ElF.size (e := Try.elf9) w, fun w => Try.isAgg9 w⟩
instance Try.fld65_1 : FldF Try.prog 65 1 1 1 false := ⟨_, _, Try.underlying65, rfl, rfl, by decide, fun w => ElF.size (e := Try.elf9) w, fun w => Try.isAgg9 w⟩
instance Try.agf66 : AgF Try.prog 66 true := ⟨Try.isAgg66⟩
instance Try.elf66 : ElF Try.prog 66 (.agg #[.string ⟨#[]⟩, .string ⟨#[]⟩]) 2 32 := ⟨Try.t66, Try.type66, rfl, rfl, rfl, rfl, by simp [Value.cells, Value.oneCell']⟩
instance Try.fld66_0 : FldF Try.prog 66 0 0 1 false := ⟨_, _, Try.underlying66, rfl, rfl, by decide, fun w => ElF.size (e := Try.elf9) w, fun w => Try.isAgg9 w⟩
instance Try.fld66_1 : FldF Try.prog 66 1 1 1 false := ⟨_, _, Try.underlying66, rfl, rfl, by decide, fun w => ElF.size (e := Try.elf9) w, fun w => Try.isAgg9 w⟩
instance Try.und67 : Und Try.prog 67 (.slice 75) := ⟨Try.underlying67⟩
instance Try.agf67 : AgF Try.prog 67 false := ⟨Try.isAgg67⟩
instance Try.elf67 : ElF Try.prog 67 (.slice none 0 0) 1 24 := ⟨Try.t67, Try.type67, rfl, rfl, rfl, rfl, by simp [Value.cells, Value.oneCell']⟩
instance Try.agf68 : AgF Try.prog 68 true := ⟨Try.isAgg68⟩
instance Try.elf68 : ElF Try.prog 68 (.agg #[.int .i64 0, .slice none 0 0]) 2 32 := ⟨Try.t68, Try.type68, rfl, rfl, rfl, rfl, by simp [Value.cells, Value.oneCell']⟩
instance Try.fld68_0 : FldF Try.prog 68 0 0 1 false := ⟨_, _, Try.underlying68, rfl, rfl, by decide, fun w => ElF.size (e := Try.elf2) w, fun w => Try.isAgg2 w⟩
instance Try.fld68_1 : FldF Try.prog 68 1 1 1 false := ⟨_, _, Try.underlying68, rfl, rfl, by decide, fun w => ElF.size (e := Try.elf67) w, fun w => Try.isAgg67 w⟩
instance Try.agf69 : AgF Try.prog 69 true := ⟨Try.isAgg69⟩
instance Try.elf69 : ElF Try.prog 69 (.agg #[.int .i64 0, .slice none 0 0]) 2 32 := ⟨Try.t69, Try.type69, rfl, rfl, rfl, rfl, by simp [Value.cells, Value.oneCell']⟩
instance Try.fld69_0 : FldF Try.prog 69 0 0 1 false := ⟨_, _, Try.underlying69, rfl, rfl, by decide, fun w => ElF.size (e := Try.elf2) w, fun w => Try.isAgg2 w⟩
instance Try.fld69_1 : FldF Try.prog 69 1 1 1 false := ⟨_, _, Try.underlying69, rfl, rfl, by decide, fun w => ElF.size (e := Try.elf67) w, fun w => Try.isAgg67 w⟩
instance Try.agf70 : AgF Try.prog 70 false := ⟨Try.isAgg70⟩
instance Try.elf70 : ElF Try.prog 70 (.nilFunc) 1 8 := ⟨Try.t70, Try.type70, rfl, rfl, rfl, rfl, by simp [Value.cells, Value.oneCell']⟩
instance Try.agf71 : AgF Try.prog 71 false := ⟨Try.isAgg71⟩
instance Try.elf71 : ElF Try.prog 71 (.nilFunc) 1 8 := ⟨Try.t71, Try.type71, rfl, rfl, rfl, rfl, by simp [Value.cells, Value.oneCell']⟩
instance Try.agf72 : AgF Try.prog 72 false := ⟨Try.isAgg72⟩
instance Try.elf72 : ElF Try.prog 72 (.nilFunc) 1 8 := ⟨Try.t72, Try.type72, rfl, rfl, rfl, rfl, by simp [Value.cells, Value.oneCell']⟩
instance Try.und73 : Und Try.prog 73 (.array 61 66) := ⟨Try.underlying73⟩
instance Try.agf73 : AgF Try.prog 73 true := ⟨Try.isAgg73⟩
instance Try.elf73 : ElF Try.prog 73 (.agg #[.string ⟨#[]⟩, .string ⟨#[]⟩, .string ⟨#[]⟩, .string ⟨#[]⟩, .string ⟨#[]⟩, .string ⟨#[]⟩, .string ⟨#[]⟩, .string ⟨#[]⟩, .string ⟨#[]⟩, .string ⟨#[]⟩, .string ⟨#[]⟩, .string ⟨#[]⟩, .string ⟨#[]⟩, .string ⟨#[]⟩, .string ⟨#[]⟩, .string ⟨#[]⟩, .string ⟨#[]⟩, .string ⟨#[]⟩, .string ⟨#[]⟩, .string ⟨#[]⟩, .string ⟨#[]⟩, .string ⟨#[]⟩, .string ⟨#[]⟩, .string ⟨#[]⟩, .string ⟨#[]⟩, .string ⟨#[]⟩, .string ⟨#[]⟩, .string ⟨#[]⟩, .string ⟨#[]⟩, .string ⟨#[]⟩, .string ⟨#[]⟩, .string ⟨#[]⟩, .string ⟨#[]⟩, .string ⟨#[]⟩, .string ⟨#[]⟩, .string ⟨#[]⟩, .string ⟨#[]⟩, .string ⟨#[]⟩, .string ⟨#[]⟩, .string ⟨#[]⟩, .string ⟨#[]⟩, .string ⟨#[]⟩, .string ⟨#[]⟩, .string ⟨#[]⟩, .string ⟨#[]⟩, .string ⟨#[]⟩, .string ⟨#[]⟩, .string ⟨#[]⟩, .string ⟨#[]⟩, .string ⟨#[]⟩, .string ⟨#[]⟩, .string ⟨#[]⟩, .string ⟨#[]⟩, .string ⟨#[]⟩, .string ⟨#[]⟩, .string ⟨#[]⟩, .string ⟨#[]⟩, .string ⟨#[]⟩, .string ⟨#[]⟩, .string ⟨#[]⟩, .string ⟨#[]⟩, .string ⟨#[]⟩, .string ⟨#[]⟩, .string ⟨#[]⟩, .string ⟨#[]⟩, .string ⟨#[]⟩, .string ⟨#[]⟩, .string ⟨#[]⟩, .string ⟨#[]⟩, .string ⟨#[]⟩, .string ⟨#[]⟩, .string ⟨#[]⟩, .string ⟨#[]⟩, .string ⟨#[]⟩, .string ⟨#[]⟩, .string ⟨#[]⟩, .string ⟨#[]⟩, .string ⟨#[]⟩, .string ⟨#[]⟩, .string ⟨#[]⟩, .string ⟨#[]⟩, .string ⟨#[]⟩, .string ⟨#[]⟩, .string ⟨#[]⟩, .string ⟨#[]⟩, .string ⟨#[]⟩, .string ⟨#[]⟩, .string ⟨#[]⟩, .string ⟨#[]⟩, .string ⟨#[]⟩, .string ⟨#[]⟩, .string ⟨#[]⟩, .string ⟨#[]⟩, .string ⟨#[]⟩, .string ⟨#[]⟩, .string ⟨#[]⟩, .string ⟨#[]⟩, .string ⟨#[]⟩, .string ⟨#[]⟩, .string ⟨#[]⟩, .string ⟨#[]⟩, .string ⟨#[]⟩, .string ⟨#[]⟩, .string ⟨#[]⟩, .string ⟨#[]⟩, .string ⟨#[]⟩, .string ⟨#[]⟩, .string ⟨#[]⟩, .string ⟨#[]⟩, .string ⟨#[]⟩, .string ⟨#[]⟩, .string ⟨#[]⟩, .string ⟨#[]⟩, .string ⟨#[]⟩, .string ⟨#[]⟩, .string ⟨#[]⟩, .string ⟨#[]⟩, .string ⟨#[]⟩, .string ⟨#[]⟩, .string ⟨#[]⟩, .string ⟨#[]⟩, .string ⟨#[]⟩]) 122 1952 := ⟨Try.t73, Try.type73, rfl, rfl, rfl, rfl, by simp [Value.cells, Value.oneCell']⟩
instance Try.agf74 : AgF Try.prog 74 false := ⟨Try.isAgg74⟩
instance Try.elf74 : ElF Try.prog 74 (.nilFunc) 1 8 := ⟨Try.t74, Try.type74, rfl, rfl, rfl, rfl, by simp [Value.cells, Value.oneCell']⟩
instance Try.agf75 : AgF Try.prog 75 true := ⟨Try.isAgg75⟩
instance Try.elf75 : ElF Try.prog 75 (.agg #[.string ⟨#[]⟩, .string ⟨#[]⟩]) 2 32 := ⟨Try.t75, Try.type75, rfl, rfl, rfl, rfl, by simp [Value.cells, Value.oneCell']⟩
instance Try.fld75_0 : FldF Try.prog 75 0 0 1 false := ⟨_, _, Try.underlying75, rfl, rfl, by decide, fun w => ElF.size (e := Try.elf9) w, fun w => Try.isAgg9 w⟩
instance Try.fld75_1 : FldF Try.prog 75 1 1 1 false := ⟨_, _, Try.underlying75, rfl, rfl, by decide, fun w => ElF.size (e := Try.elf9) w, fun w => Try.isAgg9 w⟩
instance Try.agf76 : AgF Try.prog 76 false := ⟨Try.isAgg76⟩
instance Try.elf76 : ElF Try.prog 76 (.nilFunc) 1 8 := ⟨Try.t76, Try.type76, rfl, rfl, rfl, rfl, by simp [Value.cells, Value.oneCell']⟩
instance Try.agf77 : AgF Try.prog 77 false := ⟨Try.isAgg77⟩
instance Try.elf77 : ElF Try.prog 77 (.nilFunc) 1 8 := ⟨Try.t77, Try.type77, rfl, rfl, rfl, rfl, by simp [Value.cells, Value.oneCell']⟩
instance Try.agf78 : AgF Try.prog 78 false := ⟨Try.isAgg78⟩
instance Try.elf78 : ElF Try.prog 78 (.nilFunc) 1 8 := ⟨Try.t78, Try.type78, rfl, rfl, rfl, rfl, by simp [Value.cells, Value.oneCell']⟩
instance Try.agf79 : AgF Try.prog 79 false := ⟨Try.isAgg79⟩
instance Try.elf79 : ElF Try.prog 79 (.nilFunc) 1 8 := ⟨Try.t79, Try.type79, rfl, rfl, rfl, rfl, by simp [Value.cells, Value.oneCell']⟩
instance Try.agf80 : AgF Try.prog 80 false := ⟨Try.isAgg80⟩
instance Try.elf80 : ElF Try.prog 80 (.nilFunc) 1 8 := ⟨Try.t80, Try.type80, rfl, rfl, rfl, rfl, by simp [Value.cells, Value.oneCell']⟩
instance Try.und81 : Und Try.prog 81 (.array 61 75) := ⟨Try.underlying81⟩
instance Try.agf81 : AgF Try.prog 81 true := ⟨Try.isAgg81⟩
instance Try.elf81 : ElF Try.prog 81 (.agg #[.string ⟨#[]⟩, .string ⟨#[]⟩, .string ⟨#[]⟩, .string ⟨#[]⟩, .string ⟨#[]⟩, .string ⟨#[]⟩, .string ⟨#[]⟩, .string ⟨#[]⟩, .string ⟨#[]⟩, .string ⟨#[]⟩, .string ⟨#[]⟩, .string ⟨#[]⟩, .string ⟨#[]⟩, .string ⟨#[]⟩, .string ⟨#[]⟩, .string ⟨#[]⟩, .string ⟨#[]⟩, .string ⟨#[]⟩, .string ⟨#[]⟩, .string ⟨#[]⟩, .string ⟨#[]⟩, .string ⟨#[]⟩, .string ⟨#[]⟩, .string ⟨#[]⟩, .string ⟨#[]⟩, .string ⟨#[]⟩, .string ⟨#[]⟩, .string ⟨#[]⟩, .string ⟨#[]⟩, .string ⟨#[]⟩, .string ⟨#[]⟩, .string ⟨#[]⟩, .string ⟨#[]⟩, .string ⟨#[]⟩, .string ⟨#[]⟩, .string ⟨#[]⟩, .string ⟨#[]⟩, .string ⟨#[]⟩, .string ⟨#[]⟩, .string ⟨#[]⟩, .string ⟨#[]⟩, .string ⟨#[]⟩, .string ⟨#[]⟩, .string ⟨#[]⟩, .string ⟨#[]⟩, .string ⟨#[]⟩, .string ⟨#[]⟩, .string ⟨#[]⟩, .string ⟨#[]⟩, .string ⟨#[]⟩, .string ⟨#[]⟩, .string ⟨#[]⟩, .string ⟨#[]⟩, .string ⟨#[]⟩, .string ⟨#[]⟩, .string ⟨#[]⟩, .string ⟨#[]⟩, .string ⟨#[]⟩, .string ⟨#[]⟩, .string ⟨#[]⟩, .string ⟨#[]⟩, .string ⟨#[]⟩, .string ⟨#[]⟩, .string ⟨#[]⟩, .string ⟨#[]⟩, .string ⟨#[]⟩, .string ⟨#[]⟩, .string ⟨#[]⟩, .string ⟨#[]⟩, .string ⟨#[]⟩, .string ⟨#[]⟩, .string ⟨#[]⟩, .string ⟨#[]⟩, .string ⟨#[]⟩, .string ⟨#[]⟩, .string ⟨#[]⟩, .string ⟨#[]⟩, .string ⟨#[]⟩, .string ⟨#[]⟩, .string ⟨#[]⟩, .string ⟨#[]⟩, .string ⟨#[]⟩, .string ⟨#[]⟩, .string ⟨#[]⟩, .string ⟨#[]⟩, .string ⟨#[]⟩, .string ⟨#[]⟩, .string ⟨#[]⟩, .string ⟨#[]⟩, .string ⟨#[]⟩, .string ⟨#[]⟩, .string ⟨#[]⟩, .string ⟨#[]⟩, .string ⟨#[]⟩, .string ⟨#[]⟩, .string ⟨#[]⟩, .string ⟨#[]⟩, .string ⟨#[]⟩, .string ⟨#[]⟩, .string ⟨#[]⟩, .string ⟨#[]⟩, .string ⟨#[]⟩, .string ⟨#[]⟩, .string ⟨#[]⟩, .string ⟨#[]⟩, .string ⟨#[]⟩, .string ⟨#[]⟩, .string ⟨#[]⟩, .string ⟨#[]⟩, .string ⟨#[]⟩, .string ⟨#[]⟩, .string ⟨#[]⟩, .string ⟨#[]⟩, .string ⟨#[]⟩, .string ⟨#[]⟩, .string ⟨#[]⟩, .string ⟨#[]⟩, .string ⟨#[]⟩, .string ⟨#[]⟩, .string ⟨#[]⟩, .string ⟨#[]⟩, .string ⟨#[]⟩]) 122 1952 := ⟨Try.t81, Try.type81, rfl, rfl, rfl, rfl, by simp [Value.cells, Value.oneCell']⟩
instance Try.agf82 : AgF Try.prog 82 false := ⟨Try.isAgg82⟩
instance Try.elf82 : ElF Try.prog 82 (.nilFunc) 1 8 := ⟨Try.t82, Try.type82, rfl, rfl, rfl, rfl, by simp [Value.cells, Value.oneCell']⟩
instance Try.agf83 : AgF Try.prog 83 true := ⟨Try.isAgg83⟩
instance Try.elf83 : ElF Try.prog 83 (.agg #[.pointer none, .pointer none, .pointer none, .string ⟨#[]⟩]) 4 40 := ⟨Try.t83, Try.type83, rfl, rfl, rfl, rfl, by simp [Value.cells, Value.oneCell']⟩
instance Try.fld83_0 : FldF Try.prog 83 0 0 1 false := ⟨_, _, Try.underlying83, rfl, rfl, by decide, fun w => ElF.size (e := Try.elf17) w, fun w => Try.isAgg17 w⟩
instance Try.fld83_1 : FldF Try.prog 83 1 1 1 false := ⟨_, _, Try.underlying83, rfl, rfl, by decide, fun w => ElF.size (e := Try.elf17) w, fun w => Try.isAgg17 w⟩
instance Try.fld83_2 : FldF Try.prog 83 2 2 1 false := ⟨_, _, Try.underlying83, rfl, rfl, by decide, fun w => ElF.size (e := Try.elf17) w, fun w => Try.isAgg17 w⟩
instance Try.fld83_3 : FldF Try.prog 83 3 3 1 false := ⟨_, _, Try.underlying83, rfl, rfl, by decide, fun w => ElF.size (e := Try.elf9) w, fun w => Try.isAgg9 w⟩
instance Try.agf84 : AgF Try.prog 84 true := ⟨Try.isAgg84⟩
instance Try.elf84 : ElF Try.prog 84 (.agg #[.pointer none, .pointer none, .pointer none, .string ⟨#[]⟩]) 4 40 := ⟨Try.t84, Try.type84, rfl, rfl, rfl, rfl, by simp [Value.cells, Value.oneCell']⟩
instance Try.fld84_0 : FldF Try.prog 84 0 0 1 false := ⟨_, _, Try.underlying84, rfl, rfl, by decide, fun w => ElF.size (e := Try.elf17) w, fun w => Try.isAgg17 w⟩
instance Try.fld84_1 : FldF Try.prog 84 1 1 1 false := ⟨_, _, Try.underlying84, rfl, rfl, by decide, fun w => ElF.size (e := Try.elf17) w, fun w => Try.isAgg17 w⟩
instance Try.fld84_2 : FldF Try.prog 84 2 2 1 false := ⟨_, _, Try.underlying84, rfl, rfl, by decide, fun w => ElF.size (e := Try.elf17) w, fun w => Try.isAgg17 w⟩
instance Try.fld84_3 : FldF Try.prog 84 3 3 1 false := ⟨_, _, Try.underlying84, rfl, rfl, by decide, fun w => ElF.size (e := Try.elf9) w, fun w => Try.isAgg9 w⟩
instance Try.und85 : Und Try.prog 85 (.array 0 16) := ⟨Try.underlying85⟩
instance Try.agf85 : AgF Try.prog 85 true := ⟨Try.isAgg85⟩
instance Try.agf86 : AgF Try.prog 86 true := ⟨Try.isAgg86⟩
instance Try.agf87 : AgF Try.prog 87 true := ⟨Try.isAgg87⟩
instance Try.und88 : Und Try.prog 88 (.int .u32) := ⟨Try.underlying88⟩
instance Try.agf88 : AgF Try.prog 88 false := ⟨Try.isAgg88⟩
instance Try.elf88 : ElF Try.prog 88 (.int .u32 0) 1 4 := ⟨Try.t88, Try.type88, rfl, rfl, rfl, rfl, by simp [Value.cells, Value.oneCell']⟩
instance Try.und89 : Und Try.prog 89 (.int .u8) := ⟨Try.underlying89⟩
instance Try.agf89 : AgF Try.prog 89 false := ⟨Try.isAgg89⟩
instance Try.elf89 : ElF Try.prog 89 (.int .u8 0) 1 1 := ⟨Try.t89, Try.type89, rfl, rfl, rfl, rfl, by simp [Value.cells, Value.oneCell']⟩
instance Try.und90 : Und Try.prog 90 (.int .u8) := ⟨Try.underlying90⟩
instance Try.agf90 : AgF Try.prog 90 false := ⟨Try.isAgg90⟩
instance Try.elf90 : ElF Try.prog 90 (.int .u8 0) 1 1 := ⟨Try.t90, Try.type90, rfl, rfl, rfl, rfl, by simp [Value.cells, Value.oneCell']⟩
instance Try.agf91 : AgF Try.prog 91 false := ⟨Try.isAgg91⟩
instance Try.elf91 : ElF Try.prog 91 (.nilFunc) 1 8 := ⟨Try.t91, Try.type91, rfl, rfl, rfl, rfl, by simp [Value.cells, Value.oneCell']⟩
instance Try.und92 : Und Try.prog 92 (.pointer 5) := ⟨Try.underlying92⟩
instance Try.agf92 : AgF Try.prog 92 false := ⟨Try.isAgg92⟩
instance Try.elf92 : ElF Try.prog 92 (.pointer none) 1 8 := ⟨Try.t92, Try.type92, rfl, rfl, rfl, rfl, by simp [Value.cells, Value.oneCell']⟩
instance Try.und93 : Und Try.prog 93 (.int .i32) := ⟨Try.underlying93⟩
instance Try.agf93 : AgF Try.prog 93 false := ⟨Try.isAgg93⟩
instance Try.elf93 : ElF Try.prog 93 (.int .i32 0) 1 4 := ⟨Try.t93, Try.type93, rfl, rfl, rfl, rfl, by simp [Value.cells, Value.oneCell']⟩
instance Try.und94 : Und Try.prog 94 (.int .i32) := ⟨Try.underlying94⟩
instance Try.agf94 : AgF Try.prog 94 false := ⟨Try.isAgg94⟩
instance Try.elf94 : ElF Try.prog 94 (.int .i32 0) 1 4 := ⟨Try.t94, Try.type94, rfl, rfl, rfl, rfl, by simp [Value.cells, Value.oneCell']⟩
instance Try.agf95 : AgF Try.prog 95 true := ⟨Try.isAgg95⟩
instance Try.elf95 : ElF Try.prog 95 (.agg #[.int .u64 0, .int .u64 0, .int .u32 0, .int .u8 0, .int .u8 0, .int .u8 0, .int .u8 0, .nilFunc, .pointer none, .int .i32 0, .int .i32 0]) 11 48 := ⟨Try.t95, Try.type95, rfl, rfl, rfl, rfl, by simp [Value.cells, Value.oneCell']⟩
instance Try.fld95_0 : FldF Try.prog 95 0 0 1 false := ⟨_, _, Try.underlying95, rfl, rfl, by decide, fun w => ElF.size (e := Try.elf12) w, fun w => Try.isAgg12 w⟩
instance Try.fld95_1 : FldF Try.prog 95 1 1 1 false := ⟨_, _, Try.underlying95, rfl, rfl, by decide, fun w => ElF.size (e := Try.elf12) w, fun w => Try.isAgg12 w⟩
instance Try.fld95_2 : FldF Try.prog 95 2 2 1 false := ⟨_, _, Try.underlying95, rfl, rfl, by decide, fun w => ElF.size (e := Try.elf88) w, fun w => Try.isAgg88 w⟩
instance Try.fld95_3 : FldF Try.prog 95 3 3 1 false := ⟨_, _, Try.underlying95, rfl, rfl, by decide, fun w => ElF.size (e := Try.elf89) w, fun w => Try.isAgg89 w⟩
instance Try.fld95_4 : FldF Try.prog 95 4 4 1 false := ⟨_, _, Try.underlying95, rfl, rfl, by decide, fun w => ElF.size (e := Try.elf5) w, fun w => Try.isAgg5 w⟩
instance Try.fld95_5 : FldF Try.prog 95 5 5 1 false := ⟨_, _, Try.underlying95, rfl, rfl, by decide, fun w => ElF.size (e := Try.elf5) w, fun w => Try.isAgg5 w⟩
instance Try.fld95_6 : FldF Try.prog 95 6 6 1 false := ⟨_, _, Try.underlying95, rfl, rfl, by decide, fun w => ElF.size (e := Try.elf90) w, fun w => Try.isAgg90 w⟩
instance Try.fld95_7 : FldF Try.prog 95 7 7 1 false := ⟨_, _, Try.underlying95, rfl, rfl, by decide, fun w => ElF.size (e := Try.elf91) w, fun w => Try.isAgg91 w⟩
instance Try.fld95_8 : FldF Try.prog 95 8 8 1 false := ⟨_, _, Try.underlying95, rfl, rfl, by decide, fun w => ElF.size (e := Try.elf92) w, fun w => Try.isAgg92 w⟩
instance Try.fld95_9 : FldF Try.prog 95 9 9 1 false := ⟨_, _, Try.underlying95, rfl, rfl, by decide, fun w => ElF.size (e := Try.elf93) w, fun w => Try.isAgg93 w⟩
instance Try.fld95_10 : FldF Try.prog 95 10 10 1 false := ⟨_, _, Try.underlying95, rfl, rfl, by decide, fun w => ElF.size (e := Try.elf94) w, fun w => Try.isAgg94 w⟩
instance Try.agf96 : AgF Try.prog 96 true := ⟨Try.isAgg96⟩
instance Try.elf96 : ElF Try.prog 96 (.agg #[.int .u64 0, .int .u64 0, .int .u32 0, .int .u8 0, .int .u8 0, .int .u8 0, .int .u8 0, .nilFunc, .pointer none, .int .i32 0, .int .i32 0]) 11 48 := ⟨Try.t96, Try.type96, rfl, rfl, rfl, rfl, by simp [Value.cells, Value.oneCell']⟩
instance Try.fld96_0 : FldF Try.prog 96 0 0 1 false := ⟨_, _, Try.underlying96, rfl, rfl, by decide, fun w => ElF.size (e := Try.elf12) w, fun w => Try.isAgg12 w⟩
instance Try.fld96_1 : FldF Try.prog 96 1 1 1 false := ⟨_, _, Try.underlying96, rfl, rfl, by decide, fun w => ElF.size (e := Try.elf12) w, fun w => Try.isAgg12 w⟩
instance Try.fld96_2 : FldF Try.prog 96 2 2 1 false := ⟨_, _, Try.underlying96, rfl, rfl, by decide, fun w => ElF.size (e := Try.elf88) w, fun w => Try.isAgg88 w⟩
instance Try.fld96_3 : FldF Try.prog 96 3 3 1 false := ⟨_, _, Try.underlying96, rfl, rfl, by decide, fun w => ElF.size (e := Try.elf89) w, fun w => Try.isAgg89 w⟩
instance Try.fld96_4 : FldF Try.prog 96 4 4 1 false := ⟨_, _, Try.underlying96, rfl, rfl, by decide, fun w => ElF.size (e := Try.elf5) w, fun w => Try.isAgg5 w⟩
instance Try.fld96_5 : FldF Try.prog 96 5 5 1 false := ⟨_, _, Try.underlying96, rfl, rfl, by decide, fun w => ElF.size (e := Try.elf5) w, fun w => Try.isAgg5 w⟩
instance Try.fld96_6 : FldF Try.prog 96 6 6 1 false := ⟨_, _, Try.underlying96, rfl, rfl, by decide, fun w => ElF.size (e := Try.elf90) w, fun w => Try.isAgg90 w⟩
instance Try.fld96_7 : FldF Try.prog 96 7 7 1 false := ⟨_, _, Try.underlying96, rfl, rfl, by decide, fun w => ElF.size (e := Try.elf91) w, fun w => Try.isAgg91 w⟩
instance Try.fld96_8 : FldF Try.prog 96 8 8 1 false := ⟨_, _, Try.underlying96, rfl, rfl, by decide, fun w => ElF.size (e := Try.elf92) w, fun w => Try.isAgg92 w⟩
instance Try.fld96_9 : FldF Try.prog 96 9 9 1 false := ⟨_, _, Try.underlying96, rfl, rfl, by decide, fun w => ElF.size (e := Try.elf93) w, fun w => Try.isAgg93 w⟩
instance Try.fld96_10 : FldF Try.prog 96 10 10 1 false := ⟨_, _, Try.underlying96, rfl, rfl, by decide, fun w => ElF.size (e := Try.elf94) w, fun w => Try.isAgg94 w⟩
instance Try.agf97 : AgF Try.prog 97 false := ⟨Try.isAgg97⟩
instance Try.elf97 : ElF Try.prog 97 (.pointer none) 1 8 := ⟨Try.t97, Try.type97, rfl, rfl, rfl, rfl, by simp [Value.cells, Value.oneCell']⟩
instance Try.str7 : StrF Try.prog 7 (.agg #[.int .i64 0, .int .i64 0, .bool false, .int .u8 0]) [(0, 1), (1, 1), (2, 1), (3, 1)] := ⟨Try.zeroValue7, _, Try.underlying7, fun w => by simp [ElF.size (e := Try.elf2), ElF.size (e := Try.elf3), ElF.size (e := Try.elf4), ElF.size (e := Try.elf6)]⟩
instance Try.str8 : StrF Try.prog 8 (.agg #[.int .i64 0, .int .i64 0, .bool false, .int .u8 0]) [(0, 1), (1, 1), (2, 1), (3, 1)] := ⟨Try.zeroValue8, _, Try.underlying8, fun w => by simp [ElF.size (e := Try.elf2), ElF.size (e := Try.elf3), ElF.size (e := Try.elf4), ElF.size (e := Try.elf6)]⟩
instance Try.str13 : StrF Try.prog 13 (.agg #[.string ⟨#[]⟩, .int .u64 0]) [(0, 1), (1, 1)] := ⟨Try.zeroValue13, _, Try.underlying13, fun w => by simp [ElF.size (e := Try.elf9), ElF.size (e := Try.elf12)]⟩
instance Try.str14 : StrF Try.prog 14 (.agg #[.string ⟨#[]⟩, .int .u64 0]) [(0, 1), (1, 1)] := ⟨Try.zeroValue14, _, Try.underlying14, fun w => by simp [ElF.size (e := Try.elf9), ElF.size (e := Try.elf12)]⟩
instance Try.str18 : StrF Try.prog 18 (.agg #[.pointer none]) [(0, 1)] := ⟨Try.zeroValue18, _, Try.underlying18, fun w => by simp [ElF.size (e := Try.elf17)]⟩
instance Try.str19 : StrF Try.prog 19 (.agg #[.pointer none]) [(0, 1)] := ⟨Try.zeroValue19, _, Try.underlying19, fun w => by simp [ElF.size (e := Try.elf17)]⟩
instance Try.str26 : StrF Try.prog 26 (.agg #[.pointer none, .pointer none]) [(0, 1), (1, 1)] := ⟨Try.zeroValue26, _, Try.underlying26, fun w => by simp [ElF.size (e := Try.elf24), ElF.size (e := Try.elf25)]⟩
instance Try.str27 : StrF Try.prog 27 (.agg #[.pointer none, .pointer none]) [(0, 1), (1, 1)] := ⟨Try.zeroValue27, _, Try.underlying27, fun w => by simp [ElF.size (e := Try.elf24), ElF.size (e := Try.elf25)]⟩
instance Try.str31 : StrF Try.prog 31 (.agg #[.int .i64 0, .bool false, .string ⟨#[]⟩, .string ⟨#[]⟩, .int .i64 0]) [(0, 1), (1, 1), (2, 1), (3, 1), (4, 1)] := ⟨Try.zeroValue31, _, Try.underlying31, fun w => by simp [ElF.size (e := Try.elf2), ElF.size (e := Try.elf3), ElF.size (e := Try.elf4), ElF.size (e := Try.elf9)]⟩
instance Try.str32 : StrF Try.prog 32 (.agg #[.int .i64 0, .bool false, .string ⟨#[]⟩, .string ⟨#[]⟩, .int .i64 0]) [(0, 1), (1, 1), (2, 1), (3, 1), (4, 1)] := ⟨Try.zeroValue32, _, Try.underlying32, fun w => by simp [ElF.size (e := Try.elf2), ElF.size (e := Try.elf3), ElF.size (e := Try.elf4), ElF.size (e := Try.elf9)]⟩
instance Try.eqt32 : EqT Try.prog 32 [.int .i64, .bool, .str, .str, .int .i64] := ⟨by kernel_rfl, eqd_struct Try.underlying32 Try.stoodInHeld32 (eqf_cons (ks1 := [.int .i64]) (ks2 := [.bool, .str, .str, .int .i64]) (by kernel_rfl) rfl (eqd_int (t := 3)) Try.isAgg3 (fun w => ElF.size (e := Try.elf3) w) (fun _ => rfl) (eqf_cons (ks1 := [.bool]) (ks2 := [.str, .str, .int .i64]) (by kernel_rfl) rfl (eqd_bool (t := 4)) Try.isAgg4 (fun w => ElF.size (e := Try.elf4) w) (fun _ => rfl) (eqf_cons (ks1 := [.str]) (ks2 := [.str, .int .i64]) (by kernel_rfl) rfl (eqd_str (t := 9)) Try.isAgg9 (fun w => ElF.size (e := Try.elf9) w) (fun _ => rfl) (eqf_cons (ks1 := [.str]) (ks2 := [.int .i64]) (by kernel_rfl) rfl (eqd_str (t := 9)) Try.isAgg9 (fun w => ElF.size (e := Try.elf9) w) (fun _ => rfl) (eqf_cons (ks1 := [.int .i64]) (ks2 := []) (by kernel_rfl) rfl (eqd_int (t := 2)) Try.isAgg2 (fun w => ElF.size (e := Try.elf2) w) (fun _ => rfl) eqf_nil)))))⟩
instance Try.key32 : KeyF Try.prog 32 [.int .i64, .bool, .str, .str, .int .i64] := ⟨fun e us w h => chk_struct (n := 9999) Try.underlying32 (fun f hf => by simp only [List.mem_cons, List.not_mem_nil, or_false] at hf; rcases hf with rfl | rfl | rfl | rfl | rfl; exact chkd_int (t := 3) (fun w => Try.isAgg3 w); exact chkd_bool (t := 4) (fun w => Try.isAgg4 w); exact chkd_str (t := 9) (fun w => Try.isAgg9 w); exact chkd_str (t := 9) (fun w => Try.isAgg9 w); exact chkd_int (t := 2) (fun w => Try.isAgg2 w)) e us (fun f hf => by have hl := fitsB_len h; simp only [List.length_cons, List.length_nil] at hl; simp only [List.mem_cons, List.not_mem_nil, or_false] at hf; rcases hf with rfl | rfl | rfl | rfl | rfl <;> (simp only; omega)) w, Try.eqt32.h, ⟨_, Try.underlying32⟩⟩
instance Try.str44 : StrF Try.prog 44 (.agg #[.string ⟨#[]⟩, .string ⟨#[]⟩]) [(0, 1), (1, 1)] := ⟨Try.zeroValue44, _, Try.underlying44, fun w => by simp [ElF.size (e := Try.elf9)]⟩
instance Try.str45 : StrF Try.prog 45 (.agg #[.string ⟨#[]⟩, .string ⟨#[]⟩]) [(0, 1), (1, 1)] := ⟨Try.zeroValue45, _, Try.underlying45, fun w => by simp [ElF.size (e := Try.elf9)]⟩
instance Try.eqt45 : EqT Try.prog 45 [.str, .str] := ⟨by kernel_rfl, eqd_struct Try.underlying45 Try.stoodInHeld45 (eqf_cons (ks1 := [.str]) (ks2 := [.str]) (by kernel_rfl) rfl (eqd_str (t := 9)) Try.isAgg9 (fun w => ElF.size (e := Try.elf9) w) (fun _ => rfl) (eqf_cons (ks1 := [.str]) (ks2 := []) (by kernel_rfl) rfl (eqd_str (t := 9)) Try.isAgg9 (fun w => ElF.size (e := Try.elf9) w) (fun _ => rfl) eqf_nil))⟩
instance Try.key45 : KeyF Try.prog 45 [.str, .str] := ⟨fun e us w h => chk_struct (n := 9999) Try.underlying45 (fun f hf => by simp only [List.mem_cons, List.not_mem_nil, or_false] at hf; rcases hf with rfl | rfl; exact chkd_str (t := 9) (fun w => Try.isAgg9 w); exact chkd_str (t := 9) (fun w => Try.isAgg9 w)) e us (fun f hf => by have hl := fitsB_len h; simp only [List.length_cons, List.length_nil] at hl; simp only [List.mem_cons, List.not_mem_nil, or_false] at hf; rcases hf with rfl | rfl <;> (simp only; omega)) w, Try.eqt45.h, ⟨_, Try.underlying45⟩⟩
instance Try.str62 : StrF Try.prog 62 (.agg #[.int .i64 0, .int .i64 0, .slice none 0 0]) [(0, 1), (1, 1), (2, 1)] := ⟨Try.zeroValue62, _, Try.underlying62, fun w => by simp [ElF.size (e := Try.elf2), ElF.size (e := Try.elf61)]⟩
instance Try.str63 : StrF Try.prog 63 (.agg #[.int .i64 0, .int .i64 0, .slice none 0 0]) [(0, 1), (1, 1), (2, 1)] := ⟨Try.zeroValue63, _, Try.underlying63, fun w => by simp [ElF.size (e := Try.elf2), ElF.size (e := Try.elf61)]⟩
instance Try.str65 : StrF Try.prog 65 (.agg #[.string ⟨#[]⟩, .string ⟨#[]⟩]) [(0, 1), (1, 1)] := ⟨Try.zeroValue65, _, Try.underlying65, fun w => by simp [ElF.size (e := Try.elf9)]⟩
instance Try.str66 : StrF Try.prog 66 (.agg #[.string ⟨#[]⟩, .string ⟨#[]⟩]) [(0, 1), (1, 1)] := ⟨Try.zeroValue66, _, Try.underlying66, fun w => by simp [ElF.size (e := Try.elf9)]⟩
instance Try.eqt66 : EqT Try.prog 66 [.str, .str] := ⟨by kernel_rfl, eqd_struct Try.underlying66 Try.stoodInHeld66 (eqf_cons (ks1 := [.str]) (ks2 := [.str]) (by kernel_rfl) rfl (eqd_str (t := 9)) Try.isAgg9 (fun w => ElF.size (e := Try.elf9) w) (fun _ => rfl) (eqf_cons (ks1 := [.str]) (ks2 := []) (by kernel_rfl) rfl (eqd_str (t := 9)) Try.isAgg9 (fun w => ElF.size (e := Try.elf9) w) (fun _ => rfl) eqf_nil))⟩
instance Try.key66 : KeyF Try.prog 66 [.str, .str] := ⟨fun e us w h => chk_struct (n := 9999) Try.underlying66 (fun f hf => by simp only [List.mem_cons, List.not_mem_nil, or_false] at hf; rcases hf with rfl | rfl; exact chkd_str (t := 9) (fun w => Try.isAgg9 w); exact chkd_str (t := 9) (fun w => Try.isAgg9 w)) e us (fun f hf => by have hl := fitsB_len h; simp only [List.length_cons, List.length_nil] at hl; simp only [List.mem_cons, List.not_mem_nil, or_false] at hf; rcases hf with rfl | rfl <;> (simp only; omega)) w, Try.eqt66.h, ⟨_, Try.underlying66⟩⟩
instance Try.str68 : StrF Try.prog 68 (.agg #[.int .i64 0, .slice none 0 0]) [(0, 1), (1, 1)] := ⟨Try.zeroValue68, _, Try.underlying68, fun w => by simp [ElF.size (e := Try.elf2), ElF.size (e := Try.elf67)]⟩
instance Try.str69 : StrF Try.prog 69 (.agg #[.int .i64 0, .slice none 0 0]) [(0, 1), (1, 1)] := ⟨Try.zeroValue69, _, Try.underlying69, fun w => by simp [ElF.size (e := Try.elf2), ElF.size (e := Try.elf67)]⟩
instance Try.str75 : StrF Try.prog 75 (.agg #[.string ⟨#[]⟩, .string ⟨#[]⟩]) [(0, 1), (1, 1)] := ⟨Try.zeroValue75, _, Try.underlying75, fun w => by simp [ElF.size (e := Try.elf9)]⟩
instance Try.eqt75 : EqT Try.prog 75 [.str, .str] := ⟨by kernel_rfl, eqd_struct Try.underlying75 Try.stoodInHeld75 (eqf_cons (ks1 := [.str]) (ks2 := [.str]) (by kernel_rfl) rfl (eqd_str (t := 9)) Try.isAgg9 (fun w => ElF.size (e := Try.elf9) w) (fun _ => rfl) (eqf_cons (ks1 := [.str]) (ks2 := []) (by kernel_rfl) rfl (eqd_str (t := 9)) Try.isAgg9 (fun w => ElF.size (e := Try.elf9) w) (fun _ => rfl) eqf_nil))⟩
instance Try.key75 : KeyF Try.prog 75 [.str, .str] := ⟨fun e us w h => chk_struct (n := 9999) Try.underlying75 (fun f hf => by simp only [List.mem_cons, List.not_mem_nil, or_false] at hf; rcases hf with rfl | rfl; exact chkd_str (t := 9) (fun w => Try.isAgg9 w); exact chkd_str (t := 9) (fun w => Try.isAgg9 w)) e us (fun f hf => by have hl := fitsB_len h; simp only [List.length_cons, List.length_nil] at hl; simp only [List.mem_cons, List.not_mem_nil, or_false] at hf; rcases hf with rfl | rfl <;> (simp only; omega)) w, Try.eqt75.h, ⟨_, Try.underlying75⟩⟩
instance Try.str83 : StrF Try.prog 83 (.agg #[.pointer none, .pointer none, .pointer none, .string ⟨#[]⟩]) [(0, 1), (1, 1), (2, 1), (3, 1)] := ⟨Try.zeroValue83, _, Try.underlying83, fun w => by simp [ElF.size (e := Try.elf9), ElF.size (e := Try.elf17)]⟩
instance Try.str84 : StrF Try.prog 84 (.agg #[.pointer none, .pointer none, .pointer none, .string ⟨#[]⟩]) [(0, 1), (1, 1), (2, 1), (3, 1)] := ⟨Try.zeroValue84, _, Try.underlying84, fun w => by simp [ElF.size (e := Try.elf9), ElF.size (e := Try.elf17)]⟩
instance Try.str95 : StrF Try.prog 95 (.agg #[.int .u64 0, .int .u64 0, .int .u32 0, .int .u8 0, .int .u8 0, .int .u8 0, .int .u8 0, .nilFunc, .pointer none, .int .i32 0, .int .i32 0]) [(0, 1), (1, 1), (2, 1), (3, 1), (4, 1), (5, 1), (6, 1), (7, 1), (8, 1), (9, 1), (10, 1)] := ⟨Try.zeroValue95, _, Try.underlying95, fun w => by simp [ElF.size (e := Try.elf5), ElF.size (e := Try.elf12), ElF.size (e := Try.elf88), ElF.size (e := Try.elf89), ElF.size (e := Try.elf90), ElF.size (e := Try.elf91), ElF.size (e := Try.elf92), ElF.size (e := Try.elf93), ElF.size (e := Try.elf94)]⟩
instance Try.str96 : StrF Try.prog 96 (.agg #[.int .u64 0, .int .u64 0, .int .u32 0, .int .u8 0, .int .u8 0, .int .u8 0, .int .u8 0, .nilFunc, .pointer none, .int .i32 0, .int .i32 0]) [(0, 1), (1, 1), (2, 1), (3, 1), (4, 1), (5, 1), (6, 1), (7, 1), (8, 1), (9, 1), (10, 1)] := ⟨Try.zeroValue96, _, Try.underlying96, fun w => by simp [ElF.size (e := Try.elf5), ElF.size (e := Try.elf12), ElF.size (e := Try.elf88), ElF.size (e := Try.elf89), ElF.size (e := Try.elf90), ElF.size (e := Try.elf91), ElF.size (e := Try.elf92), ElF.size (e := Try.elf93), ElF.size (e := Try.elf94)]⟩
instance Try.mix : Mix Try.prog := ⟨by kernel_rfl⟩
instance Try.ent2 : Ent Try.prog 2 := ent_of Try.func2 (by kernel_rfl) rfl -- gosem.cut.init
instance Try.ent3 : Ent Try.prog 3 := ent_of Try.func3 (by kernel_rfl) rfl -- herald/heraldlaw04.TableAll
instance Try.ent4 : Ent Try.prog 4 := ent_of Try.func4 (by kernel_rfl) rfl -- herald/heraldlaw04.TableLast
instance Try.ent5 : Ent Try.prog 5 := ent_of Try.func5 (by kernel_rfl) rfl -- herald/heraldlaw04.TableFinds
instance Try.ent6 : Ent Try.prog 6 := ent_of Try.func6 (by kernel_rfl) rfl -- herald/heraldlaw04.TableFixed
instance Try.ent7 : Ent Try.prog 7 := ent_of Try.func7 (by kernel_rfl) rfl -- herald/heraldlaw04.TableCopies
instance Try.ent8 : Ent Try.prog 8 := ent_of Try.func8 (by kernel_rfl) rfl -- herald/heraldlaw04.head
instance Try.ent9 : Ent Try.prog 9 := ent_of Try.func9 (by kernel_rfl) rfl -- herald/heraldlaw04.made
instance Try.ent10 : Ent Try.prog 10 := ent_of Try.func10 (by kernel_rfl) rfl -- (*herald/table.Table).Copy
instance Try.ent11 : Ent Try.prog 11 := ent_of Try.func11 (by kernel_rfl) rfl -- (*herald/heraldref04.Table).Copy
instance Try.ent12 : Ent Try.prog 12 := ent_of Try.func12 (by kernel_rfl) rfl -- (herald/heraldlaw04.Both).plays
instance Try.ent13 : Ent Try.prog 13 := ent_of Try.func13 (by kernel_rfl) rfl -- (herald/heraldlaw04.Both).tells
instance Try.ent14 : Ent Try.prog 14 := ent_of Try.func14 (by kernel_rfl) rfl -- (herald/heraldlaw04.Both).whole
instance Try.ent15 : Ent Try.prog 15 := ent_of Try.func15 (by kernel_rfl) rfl -- herald/heraldlaw04.bounded
instance Try.ent16 : Ent Try.prog 16 := ent_of Try.func16 (by kernel_rfl) rfl -- herald/table.New
instance Try.ent17 : Ent Try.prog 17 := ent_of Try.func17 (by kernel_rfl) rfl -- (*herald/table.Table).Add
instance Try.ent18 : Ent Try.prog 18 := ent_of Try.func18 (by kernel_rfl) rfl -- herald/heraldlaw04.last
instance Try.ent19 : Ent Try.prog 19 := ent_of Try.func19 (by kernel_rfl) rfl -- herald/heraldlaw04.holds
instance Try.ent20 : Ent Try.prog 20 := ent_of Try.func20 (by kernel_rfl) rfl -- (*herald/table.Table).Resize
instance Try.ent21 : Ent Try.prog 21 := ent_of Try.func21 (by kernel_rfl) rfl -- (*herald/table.Table).Max
instance Try.ent22 : Ent Try.prog 22 := ent_of Try.func22 (by kernel_rfl) rfl -- (*herald/table.Table).Size
instance Try.ent23 : Ent Try.prog 23 := ent_of Try.func23 (by kernel_rfl) rfl -- (*herald/table.Table).Find
instance Try.ent24 : Ent Try.prog 24 := ent_of Try.func24 (by kernel_rfl) rfl -- (*herald/table.Table).Len
instance Try.ent25 : Ent Try.prog 25 := ent_of Try.func25 (by kernel_rfl) rfl -- (*herald/table.Table).At
instance Try.ent26 : Ent Try.prog 26 := ent_of Try.func26 (by kernel_rfl) rfl -- herald/heraldref04.New
instance Try.ent27 : Ent Try.prog 27 := ent_of Try.func27 (by kernel_rfl) rfl -- slices.Clone[[]herald/table.entry,herald/table.entry]
instance Try.ent28 : Ent Try.prog 28 := ent_of Try.func28 (by kernel_rfl) rfl -- (*herald/heraldref04.Table).Add
instance Try.ent29 : Ent Try.prog 29 := ent_of Try.func29 (by kernel_rfl) rfl -- (*herald/heraldref04.Table).Resize
instance Try.ent30 : Ent Try.prog 30 := ent_of Try.func30 (by kernel_rfl) rfl -- (*herald/heraldref04.Table).At
instance Try.ent31 : Ent Try.prog 31 := ent_of Try.func31 (by kernel_rfl) rfl -- (*herald/heraldref04.Table).Find
instance Try.ent32 : Ent Try.prog 32 := ent_of Try.func32 (by kernel_rfl) rfl -- (*herald/heraldref04.Table).Size
instance Try.ent33 : Ent Try.prog 33 := ent_of Try.func33 (by kernel_rfl) rfl -- (*herald/heraldref04.Table).Len
instance Try.ent34 : Ent Try.prog 34 := ent_of Try.func34 (by kernel_rfl) rfl -- (*herald/heraldref04.Table).Max
instance Try.ent35 : Ent Try.prog 35 := ent_of Try.func35 (by kernel_rfl) rfl -- herald/table.bad
instance Try.ent36 : Ent Try.prog 36 := ent_of Try.func36 (by kernel_rfl) rfl -- (*herald/table.Table).shrink
instance Try.ent37 : Ent Try.prog 37 := ent_of Try.func37 (by kernel_rfl) rfl -- (herald/table.entry).size
instance Try.ent38 : Ent Try.prog 38 := ent_of Try.func38 (by kernel_rfl) rfl -- (herald/heraldlaw04.Entry).size
instance Try.ent39 : Ent Try.prog 39 := ent_of Try.func39 (by kernel_rfl) rfl -- (*herald/table.Table).all
instance Try.ent40 : Ent Try.prog 40 := ent_of Try.func40 (by kernel_rfl) rfl -- herald/table.fixed
instance Try.ent41 : Ent Try.prog 41 := ent_of Try.func41 (by kernel_rfl) rfl -- herald/heraldref04.good
instance Try.ent42 : Ent Try.prog 42 := ent_of Try.func42 (by kernel_rfl) rfl -- herald/heraldref04.size
instance Try.ent43 : Ent Try.prog 43 := ent_of Try.func43 (by kernel_rfl) rfl -- herald/heraldref04.shrunk
instance Try.ent44 : Ent Try.prog 44 := ent_of Try.func44 (by kernel_rfl) rfl -- herald/heraldref04.Static
instance Try.ent45 : Ent Try.prog 45 := ent_of Try.func45 (by kernel_rfl) rfl -- herald/heraldref04.sum
end Go.Proofs
