/- Facts on the program's types and functions, as instances: printed by a program (wip/aw/gen.py) out of the seat's translation. -/
import Derived.Test.YtkidjeejhhfbpaaProg
import Derived.Test.YtkidjeejhhfbpaaAw34
import Derived.KernelRfl
set_option maxRecDepth 100000
namespace Go.Proofs
open Go.Proofs.YtkidjeejhhfbpaaA
instance Try.agf1 : AgF Try.prog 1 false := ⟨Try.isAgg1⟩
instance Try.elf1 : ElF Try.prog 1 (.nilFunc) 1 8 := ⟨Try.t1, Try.type1, rfl, rfl, rfl, rfl, by simp [Value.cells, Value.oneCell']⟩
instance Try.und2 : Und Try.prog 2 (.int .i64) := ⟨Try.underlying2⟩
instance Try.agf2 : AgF Try.prog 2 false := ⟨Try.isAgg2⟩
instance Try.elf2 : ElF Try.prog 2 (.int .i64 0) 1 8 := ⟨Try.t2, Try.type2, rfl, rfl, rfl, rfl, by simp [Value.cells, Value.oneCell']⟩
instance Try.und3 : Und Try.prog 3 (.int .i64) := ⟨Try.underlying3⟩
instance Try.agf3 : AgF Try.prog 3 false := ⟨Try.isAgg3⟩
instance Try.elf3 : ElF Try.prog 3 (.int .i64 0) 1 8 := ⟨Try.t3, Try.type3, rfl, rfl, rfl, rfl, by simp [Value.cells, Value.oneCell']⟩
instance Try.und4 : Und Try.prog 4 (.bool) := ⟨Try.underlying4⟩
instance Try.agf4 : AgF Try.prog 4 false := ⟨Try.isAgg4⟩
instance Try.elf4 : ElF Try.prog 4 (.bool false) 1 1 := ⟨Try.t4, Try.type4, rfl, rfl, rfl, rfl, by simp [Value.cells, Value.oneCell']⟩
instance Try.und5 : Und Try.prog 5 (.int .u8) := ⟨Try.underlying5⟩
instance Try.agf5 : AgF Try.prog 5 false := ⟨Try.isAgg5⟩
instance Try.elf5 : ElF Try.prog 5 (.int .u8 0) 1 1 := ⟨Try.t5, Try.type5, rfl, rfl, rfl, rfl, by simp [Value.cells, Value.oneCell']⟩
instance Try.und6 : Und Try.prog 6 (.int .u8) := ⟨Try.underlying6⟩
instance Try.agf6 : AgF Try.prog 6 false := ⟨Try.isAgg6⟩
instance Try.elf6 : ElF Try.prog 6 (.int .u8 0) 1 1 := ⟨Try.t6, Try.type6, rfl, rfl, rfl, rfl, by simp [Value.cells, Value.oneCell']⟩
instance Try.agf7 : AgF Try.prog 7 true := ⟨Try.isAgg7⟩
instance Try.elf7 : ElF Try.prog 7 (.agg #[.int .i64 0, .int .i64 0, .bool false, .int .u8 0]) 4 24 := ⟨Try.t7, Try.type7, rfl, rfl, rfl, rfl, by simp [Value.cells, Value.oneCell']⟩
instance Try.fld7_0 : FldF Try.prog 7 0 0 1 false := ⟨_, _, Try.underlying7, rfl, rfl, by decide, fun w => ElF.size (e := Try.elf2) w, fun w => Try.isAgg2 w⟩
instance Try.fld7_1 : FldF Try.prog 7 1 1 1 false := ⟨_, _, Try.underlying7, rfl, rfl, by decide, fun w => ElF.size (e := Try.elf3) w, fun w => Try.isAgg3 w⟩
instance Try.fld7_2 : FldF Try.prog 7 2 2 1 false := ⟨_, _, Try.underlying7, rfl, rfl, by decide, fun w => ElF.size (e := Try.elf4) w, fun w => Try.isAgg4 w⟩
instance Try.fld7_3 : FldF Try.prog 7 3 3 1 false := ⟨_, _, Try.underlying7, rfl, rfl, by decide, fun w => ElF.size (e := Try.elf6) w, fun w => Try.isAgg6 w⟩
instance Try.agf8 : AgF Try.prog 8 true := ⟨Try.isAgg8⟩
instance Try.elf8 : ElF Try.prog 8 (.agg #[.int .i64 0, .int .i64 0, .bool false, .int .u8 0]) 4 24 := ⟨Try.t8, Try.type8, rfl, rfl, rfl, rfl, by simp [Value.cells, Value.oneCell']⟩
instance Try.fld8_0 : FldF Try.prog 8 0 0 1 false := ⟨_, _, Try.underlying8, rfl, rfl, by decide, fun w => ElF.size (e := Try.elf2) w, fun w => Try.isAgg2 w⟩
instance Try.fld8_1 : FldF Try.prog 8 1 1 1 false := ⟨_, _, Try.underlying8, rfl, rfl, by decide, fun w => ElF.size (e := Try.elf3) w, fun w => Try.isAgg3 w⟩
instance Try.fld8_2 : FldF Try.prog 8 2 2 1 false := ⟨_, _, Try.underlying8, rfl, rfl, by decide, fun w => ElF.size (e := Try.elf4) w, fun w => Try.isAgg4 w⟩
instance Try.fld8_3 : FldF Try.prog 8 3 3 1 false := ⟨_, _, Try.underlying8, rfl, rfl, by decide, fun w => ElF.size (e := Try.elf6) w, fun w => Try.isAgg6 w⟩
instance Try.und9 : Und Try.prog 9 (.string) := ⟨Try.underlying9⟩
instance Try.agf9 : AgF Try.prog 9 false := ⟨Try.isAgg9⟩
instance Try.elf9 : ElF Try.prog 9 (.string ⟨#[]⟩) 1 16 := ⟨Try.t9, Try.type9, rfl, rfl, rfl, rfl, by simp [Value.cells, Value.oneCell']⟩
instance Try.und10 : Und Try.prog 10 (.string) := ⟨Try.underlying10⟩
instance Try.agf10 : AgF Try.prog 10 false := ⟨Try.isAgg10⟩
instance Try.elf10 : ElF Try.prog 10 (.string ⟨#[]⟩) 1 16 := ⟨Try.t10, Try.type10, rfl, rfl, rfl, rfl, by simp [Value.cells, Value.oneCell']⟩
instance Try.und11 : Und Try.prog 11 (.string) := ⟨Try.underlying11⟩
instance Try.agf11 : AgF Try.prog 11 false := ⟨Try.isAgg11⟩
instance Try.elf11 : ElF Try.prog 11 (.string ⟨#[]⟩) 1 16 := ⟨Try.t11, Try.type11, rfl, rfl, rfl, rfl, by simp [Value.cells, Value.oneCell']⟩
instance Try.und12 : Und Try.prog 12 (.int .u64) := ⟨Try.underlying12⟩
instance Try.agf12 : AgF Try.prog 12 false := ⟨Try.isAgg12⟩
instance Try.elf12 : ElF Try.prog 12 (.int .u64 0) 1 8 := ⟨Try.t12, Try.type12, rfl, rfl, rfl, rfl, by simp [Value.cells, Value.oneCell']⟩
instance Try.agf13 : AgF Try.prog 13 true := ⟨Try.isAgg13⟩
instance Try.elf13 : ElF Try.prog 13 (.agg #[.string ⟨#[]⟩, .int .u64 0]) 2 24 := ⟨Try.t13, Try.type13, rfl, rfl, rfl, rfl, by simp [Value.cells, Value.oneCell']⟩
instance Try.fld13_0 : FldF Try.prog 13 0 0 1 false := ⟨_, _, Try.underlying13, rfl, rfl, by decide, fun w => ElF.size (e := Try.elf9) w, fun w => Try.isAgg9 w⟩
instance Try.fld13_1 : FldF Try.prog 13 1 1 1 false := ⟨_, _, Try.underlying13, rfl, rfl, by decide, fun w => ElF.size (e := Try.elf12) w, fun w => Try.isAgg12 w⟩
instance Try.agf14 : AgF Try.prog 14 true := ⟨Try.isAgg14⟩
instance Try.elf14 : ElF Try.prog 14 (.agg #[.string ⟨#[]⟩, .int .u64 0]) 2 24 := ⟨Try.t14, Try.type14, rfl, rfl, rfl, rfl, by simp [Value.cells, Value.oneCell']⟩
instance Try.fld14_0 : FldF Try.prog 14 0 0 1 false := ⟨_, _, Try.underlying14, rfl, rfl, by decide, fun w => ElF.size (e := Try.elf9) w, fun w => Try.isAgg9 w⟩
instance Try.fld14_1 : FldF Try.prog 14 1 1 1 false := ⟨_, _, Try.underlying14, rfl, rfl, by decide, fun w => ElF.size (e := Try.elf12) w, fun w => Try.isAgg12 w⟩
instance Try.und15 : Und Try.prog 15 (.pointer 73) := ⟨Try.underlying15⟩
instance Try.agf15 : AgF Try.prog 15 false := ⟨Try.isAgg15⟩
instance Try.elf15 : ElF Try.prog 15 (.pointer none) 1 8 := ⟨Try.t15, Try.type15, rfl, rfl, rfl, rfl, by simp [Value.cells, Value.oneCell']⟩
instance Try.und16 : Und Try.prog 16 (.pointer 76) := ⟨Try.underlying16⟩
instance Try.agf16 : AgF Try.prog 16 false := ⟨Try.isAgg16⟩
instance Try.elf16 : ElF Try.prog 16 (.pointer none) 1 8 := ⟨Try.t16, Try.type16, rfl, rfl, rfl, rfl, by simp [Value.cells, Value.oneCell']⟩
instance Try.und17 : Und Try.prog 17 (.pointer 86) := ⟨Try.underlying17⟩
instance Try.agf17 : AgF Try.prog 17 false := ⟨Try.isAgg17⟩
instance Try.elf17 : ElF Try.prog 17 (.pointer none) 1 8 := ⟨Try.t17, Try.type17, rfl, rfl, rfl, rfl, by simp [Value.cells, Value.oneCell']⟩
instance Try.agf18 : AgF Try.prog 18 true := ⟨Try.isAgg18⟩
instance Try.elf18 : ElF Try.prog 18 (.agg #[.pointer none]) 1 8 := ⟨Try.t18, Try.type18, rfl, rfl, rfl, rfl, by simp [Value.cells, Value.oneCell']⟩
instance Try.fld18_0 : FldF Try.prog 18 0 0 1 false := ⟨_, _, Try.underlying18, rfl, rfl, by decide, fun w => ElF.size (e := Try.elf17) w, fun w => Try.isAgg17 w⟩
instance Try.agf19 : AgF Try.prog 19 true := ⟨Try.isAgg19⟩
instance Try.elf19 : ElF Try.prog 19 (.agg #[.pointer none]) 1 8 := ⟨Try.t19, Try.type19, rfl, rfl, rfl, rfl, by simp [Value.cells, Value.oneCell']⟩
instance Try.fld19_0 : FldF Try.prog 19 0 0 1 false := ⟨_, _, Try.underlying19, rfl, rfl, by decide, fun w => ElF.size (e := Try.elf17) w, fun w => Try.isAgg17 w⟩
instance Try.agf20 : AgF Try.prog 20 false := ⟨Try.isAgg20⟩
instance Try.elf20 : ElF Try.prog 20 (.nilIface) 1 16 := ⟨Try.t20, Try.type20, rfl, rfl, rfl, rfl, by simp [Value.cells, Value.oneCell']⟩
instance Try.und21 : Und Try.prog 21 (.int .i32) := ⟨Try.underlying21⟩
instance Try.agf21 : AgF Try.prog 21 false := ⟨Try.isAgg21⟩
instance Try.elf21 : ElF Try.prog 21 (.int .i32 0) 1 4 := ⟨Try.t21, Try.type21, rfl, rfl, rfl, rfl, by simp [Value.cells, Value.oneCell']⟩
instance Try.und22 : Und Try.prog 22 (.slice 37) := ⟨Try.underlying22⟩
instance Try.agf22 : AgF Try.prog 22 false := ⟨Try.isAgg22⟩
instance Try.elf22 : ElF Try.prog 22 (.slice none 0 0) 1 24 := ⟨Try.t22, Try.type22, rfl, rfl, rfl, rfl, by simp [Value.cells, Value.oneCell']⟩
instance Try.und23 : Und Try.prog 23 (.slice 35) := ⟨Try.underlying23⟩
instance Try.agf23 : AgF Try.prog 23 false := ⟨Try.isAgg23⟩
instance Try.elf23 : ElF Try.prog 23 (.slice none 0 0) 1 24 := ⟨Try.t23, Try.type23, rfl, rfl, rfl, rfl, by simp [Value.cells, Value.oneCell']⟩
instance Try.agf24 : AgF Try.prog 24 false := ⟨Try.isAgg24⟩
instance Try.elf24 : ElF Try.prog 24 (.nilFunc) 1 8 := ⟨Try.t24, Try.type24, rfl, rfl, rfl, rfl, by simp [Value.cells, Value.oneCell']⟩
instance Try.und25 : Und Try.prog 25 (.pointer 55) := ⟨Try.underlying25⟩
instance Try.agf25 : AgF Try.prog 25 false := ⟨Try.isAgg25⟩
instance Try.elf25 : ElF Try.prog 25 (.pointer none) 1 8 := ⟨Try.t25, Try.type25, rfl, rfl, rfl, rfl, by simp [Value.cells, Value.oneCell']⟩
instance Try.und26 : Und Try.prog 26 (.int .i64) := ⟨Try.underlying26⟩
instance Try.agf26 : AgF Try.prog 26 false := ⟨Try.isAgg26⟩
instance Try.elf26 : ElF Try.prog 26 (.int .i64 0) 1 8 := ⟨Try.t26, Try.type26, rfl, rfl, rfl, rfl, by simp [Value.cells, Value.oneCell']⟩
instance Try.agf28 : AgF Try.prog 28 false := ⟨Try.isAgg28⟩
instance Try.elf28 : ElF Try.prog 28 (.nilFunc) 1 8 := ⟨Try.t28, Try.type28, rfl, rfl, rfl, rfl, by simp [Value.cells, Value.oneCell']⟩
instance Try.und29 : Und Try.prog 29 (.pointer 60) := ⟨Try.underlying29⟩
instance Try.agf29 : AgF Try.prog 29 false := ⟨Try.isAgg29⟩
instance Try.elf29 : ElF Try.prog 29 (.pointer none) 1 8 := ⟨Try.t29, Try.type29, rfl, rfl, rfl, rfl, by simp [Value.cells, Value.oneCell']⟩
instance Try.agf31 : AgF Try.prog 31 false := ⟨Try.isAgg31⟩
instance Try.elf31 : ElF Try.prog 31 (.nilFunc) 1 8 := ⟨Try.t31, Try.type31, rfl, rfl, rfl, rfl, by simp [Value.cells, Value.oneCell']⟩
instance Try.agf32 : AgF Try.prog 32 false := ⟨Try.isAgg32⟩
instance Try.elf32 : ElF Try.prog 32 (.nilFunc) 1 8 := ⟨Try.t32, Try.type32, rfl, rfl, rfl, rfl, by simp [Value.cells, Value.oneCell']⟩
instance Try.agf33 : AgF Try.prog 33 false := ⟨Try.isAgg33⟩
instance Try.elf33 : ElF Try.prog 33 (.nilFunc) 1 8 := ⟨Try.t33, Try.type33, rfl, rfl, rfl, rfl, by simp [Value.cells, Value.oneCell']⟩
instance Try.agf34 : AgF Try.prog 34 true := ⟨Try.isAgg34⟩
instance Try.elf34 : ElF Try.prog 34 (.agg #[.string ⟨#[]⟩, .string ⟨#[]⟩]) 2 32 := ⟨Try.t34, Try.type34, rfl, rfl, rfl, rfl, by simp [Value.cells, Value.oneCell']⟩
instance Try.fld34_0 : FldF Try.prog 34 0 0 1 false := ⟨_, _, Try.underlying34, rfl, rfl, by decide, fun w => ElF.size (e := Try.elf9) w, fun w => Try.isAgg9 w⟩
instance Try.fld34_1 : FldF Try.prog 34 1 1 1 false := ⟨_, _, Try.underlying34, rfl, rfl, by decide, fun w => ElF.size (e := Try.elf9) w, fun w => Try.isAgg9 w⟩
instance Try.agf35 : AgF Try.prog 35 true := ⟨Try.isAgg35⟩
instance Try.elf35 : ElF Try.prog 35 (.agg #[.string ⟨#[]⟩, .string ⟨#[]⟩]) 2 32 := ⟨Try.t35, Try.type35, rfl, rfl, rfl, rfl, by simp [Value.cells, Value.oneCell']⟩
instance Try.fld35_0 : FldF Try.prog 35 0 0 1 false := ⟨_, _, Try.underlying35, rfl, rfl, by decide, fun w => ElF.size (e := Try.elf9) w, fun w => Try.isAgg9 w⟩
instance Try.fld35_1 : FldF Try.prog 35 1 1 1 false := ⟨_, _, Try.underlying35, rfl, rfl, by decide, fun w => ElF.size (e := Try.elf9) w, fun w => Try.isAgg9 w⟩
instance Try.agf36 : AgF Try.prog 36 true := ⟨Try.isAgg36⟩
instance Try.elf36 : ElF Try.prog 36 (.agg #[.string ⟨#[]⟩, .string ⟨#[]⟩, .slice none 0 0]) 3 56 := ⟨Try.t36, Try.type36, rfl, rfl, rfl, rfl, by simp [Value.cells, Value.oneCell']⟩
instance Try.fld36_0 : FldF Try.prog 36 0 0 2 true := ⟨_, _, Try.underlying36, rfl, rfl, by decide, fun w => ElF.size (e := Try.elf35) w, fun w => Try.isAgg35 w⟩
instance Try.fld36_1 : FldF Try.prog 36 1 2 1 false := ⟨_, _, Try.underlying36, rfl, rfl, by decide, fun w => ElF.size (e := Try.elf23) w, fun w => Try.isAgg23 w⟩
instance Try.agf37 : AgF Try.prog 37 true := ⟨Try.isAgg37⟩
instance Try.elf37 : ElF Try.prog 37 (.agg #[.string ⟨#[]⟩, .string ⟨#[]⟩, .slice none 0 0]) 3 56 := ⟨Try.t37, Try.type37, rfl, rfl, rfl, rfl, by simp [Value.cells, Value.oneCell']⟩
instance Try.fld37_0 : FldF Try.prog 37 0 0 2 true := ⟨_, _, Try.underlying37, rfl, rfl, by decide, fun w => ElF.size (e := Try.elf35) w, fun w => Try.isAgg35 w⟩
instance Try.fld37_1 : FldF Try.prog 37 1 2 1 false := ⟨_, _, Try.underlying37, rfl, rfl, by decide, fun w => ElF.size (e := Try.elf23) w, fun w => Try.isAgg23 w⟩
instance Try.agf38 : AgF Try.prog 38 false := ⟨Try.isAgg38⟩
instance Try.elf38 : ElF Try.prog 38 (.nilFunc) 1 8 := ⟨Try.t38, Try.type38, rfl, rfl, rfl, rfl, by simp [Value.cells, Value.oneCell']⟩
instance Try.agf39 : AgF Try.prog 39 false := ⟨Try.isAgg39⟩
instance Try.elf39 : ElF Try.prog 39 (.nilFunc) 1 8 := ⟨Try.t39, Try.type39, rfl, rfl, rfl, rfl, by simp [Value.cells, Value.oneCell']⟩
instance Try.agf40 : AgF Try.prog 40 false := ⟨Try.isAgg40⟩
instance Try.elf40 : ElF Try.prog 40 (.nilFunc) 1 8 := ⟨Try.t40, Try.type40, rfl, rfl, rfl, rfl, by simp [Value.cells, Value.oneCell']⟩
instance Try.agf41 : AgF Try.prog 41 false := ⟨Try.isAgg41⟩
instance Try.elf41 : ElF Try.prog 41 (.nilFunc) 1 8 := ⟨Try.t41, Try.type41, rfl, rfl, rfl, rfl, by simp [Value.cells, Value.oneCell']⟩
instance Try.und42 : Und Try.prog 42 (.slice 64) := ⟨Try.underlying42⟩
instance Try.agf42 : AgF Try.prog 42 false := ⟨Try.isAgg42⟩
instance Try.elf42 : ElF Try.prog 42 (.slice none 0 0) 1 24 := ⟨Try.t42, Try.type42, rfl, rfl, rfl, rfl, by simp [Value.cells, Value.oneCell']⟩
instance Try.agf43 : AgF Try.prog 43 false := ⟨Try.isAgg43⟩
instance Try.elf43 : ElF Try.prog 43 (.nilFunc) 1 8 := ⟨Try.t43, Try.type43, rfl, rfl, rfl, rfl, by simp [Value.cells, Value.oneCell']⟩
instance Try.agf44 : AgF Try.prog 44 false := ⟨Try.isAgg44⟩
instance Try.elf44 : ElF Try.prog 44 (.nilFunc) 1 8 := ⟨Try.t44, Try.type44, rfl, rfl, rfl, rfl, by simp [Value.cells, Value.oneCell']⟩
instance Try.agf45 : AgF Try.prog 45 false := ⟨Try.isAgg45⟩
instance Try.elf45 : ElF Try.prog 45 (.nilFunc) 1 8 := ⟨Try.t45, Try.type45, rfl, rfl, rfl, rfl, by simp [Value.cells, Value.oneCell']⟩
instance Try.agf46 : AgF Try.prog 46 false := ⟨Try.isAgg46⟩
instance Try.elf46 : ElF Try.prog 46 (.nilFunc) 1 8 := ⟨Try.t46, Try.type46, rfl, rfl, rfl, rfl, by simp [Value.cells, Value.oneCell']⟩
instance Try.agf47 : AgF Try.prog 47 false := ⟨Try.isAgg47⟩
instance Try.elf47 : ElF Try.prog 47 (.nilFunc) 1 8 := ⟨Try.t47, Try.type47, rfl, rfl, rfl, rfl, by simp [Value.cells, Value.oneCell']⟩
instance Try.agf48 : AgF Try.prog 48 false := ⟨Try.isAgg48⟩
instance Try.elf48 : ElF Try.prog 48 (.nilFunc) 1 8 := ⟨Try.t48, Try.type48, rfl, rfl, rfl, rfl, by simp [Value.cells, Value.oneCell']⟩
instance Try.agf49 : AgF Try.prog 49 false := ⟨Try.isAgg49⟩
instance Try.elf49 : ElF Try.prog 49 (.nilFunc) 1 8 := ⟨Try.t49, Try.type49, rfl, rfl, rfl, rfl, by simp [Value.cells, Value.oneCell']⟩
instance Try.agf50 : AgF Try.prog 50 false := ⟨Try.isAgg50⟩
instance Try.elf50 : ElF Try.prog 50 (.nilFunc) 1 8 := ⟨Try.t50, Try.type50, rfl, rfl, rfl, rfl, by simp [Value.cells, Value.oneCell']⟩
instance Try.agf51 : AgF Try.prog 51 false := ⟨Try.isAgg51⟩
instance Try.elf51 : ElF Try.prog 51 (.nilFunc) 1 8 := ⟨Try.t51, Try.type51, rfl, rfl, rfl, rfl, by simp [Value.cells, Value.oneCell']⟩
instance Try.agf52 : AgF Try.prog 52 false := ⟨Try.isAgg52⟩
instance Try.elf52 : ElF Try.prog 52 (.nilFunc) 1 8 := ⟨Try.t52, Try.type52, rfl, rfl, rfl, rfl, by simp [Value.cells, Value.oneCell']⟩
instance Try.und53 : Und Try.prog 53 (.map 35 23) := ⟨Try.underlying53⟩
instance Try.agf53 : AgF Try.prog 53 false := ⟨Try.isAgg53⟩
instance Try.elf53 : ElF Try.prog 53 (.map none) 1 8 := ⟨Try.t53, Try.type53, rfl, rfl, rfl, rfl, by simp [Value.cells, Value.oneCell']⟩
instance Try.agf54 : AgF Try.prog 54 true := ⟨Try.isAgg54⟩
instance Try.elf54 : ElF Try.prog 54 (.agg #[.map none]) 1 8 := ⟨Try.t54, Try.type54, rfl, rfl, rfl, rfl, by simp [Value.cells, Value.oneCell']⟩
instance Try.fld54_0 : FldF Try.prog 54 0 0 1 false := ⟨_, _, Try.underlying54, rfl, rfl, by decide, fun w => ElF.size (e := Try.elf53) w, fun w => Try.isAgg53 w⟩
instance Try.agf55 : AgF Try.prog 55 true := ⟨Try.isAgg55⟩
instance Try.elf55 : ElF Try.prog 55 (.agg #[.map none]) 1 8 := ⟨Try.t55, Try.type55, rfl, rfl, rfl, rfl, by simp [Value.cells, Value.oneCell']⟩
instance Try.fld55_0 : FldF Try.prog 55 0 0 1 false := ⟨_, _, Try.underlying55, rfl, rfl, by decide, fun w => ElF.size (e := Try.elf53) w, fun w => Try.isAgg53 w⟩
instance Try.agf57 : AgF Try.prog 57 false := ⟨Try.isAgg57⟩
instance Try.elf57 : ElF Try.prog 57 (.nilFunc) 1 8 := ⟨Try.t57, Try.type57, rfl, rfl, rfl, rfl, by simp [Value.cells, Value.oneCell']⟩
instance Try.agf58 : AgF Try.prog 58 false := ⟨Try.isAgg58⟩
instance Try.elf58 : ElF Try.prog 58 (.nilFunc) 1 8 := ⟨Try.t58, Try.type58, rfl, rfl, rfl, rfl, by simp [Value.cells, Value.oneCell']⟩
instance Try.agf59 : AgF Try.prog 59 true := ⟨Try.isAgg59⟩
instance Try.elf59 : ElF Try.prog 59 (.agg #[.slice none 0 0]) 1 24 := ⟨Try.t59, Try.type59, rfl, rfl, rfl, rfl, by simp [Value.cells, Value.oneCell']⟩
instance Try.fld59_0 : FldF Try.prog 59 0 0 1 false := ⟨_, _, Try.underlying59, rfl, rfl, by decide, fun w => ElF.size (e := Try.elf22) w, fun w => Try.isAgg22 w⟩
instance Try.agf60 : AgF Try.prog 60 true := ⟨Try.isAgg60⟩
instance Try.elf60 : ElF Try.prog 60 (.agg #[.slice none 0 0]) 1 24 := ⟨Try.t60, Try.type60, rfl, rfl, rfl, rfl, by simp [Value.cells, Value.oneCell']⟩
instance Try.fld60_0 : FldF Try.prog 60 0 0 1 false := ⟨_, _, Try.underlying60, rfl, rfl, by decide, fun w => ElF.size (e := Try.elf22) w, fun w => Try.isAgg22 w⟩
instance Try.agf61 : AgF Try.prog 61 false := ⟨Try.isAgg61⟩
instance Try.elf61 : ElF Try.prog 61 (.nilFunc) 1 8 := ⟨Try.t61, Try.type61, rfl, rfl, rfl, rfl, by simp [Value.cells, Value.oneCell']⟩
instance Try.agf62 : AgF Try.prog 62 false := ⟨Try.isAgg62⟩
instance Try.elf62 : ElF Try.prog 62 (.nilFunc) 1 8 := ⟨Try.t62, Try.type62, rfl, rfl, rfl, rfl, by simp [Value.cells, Value.oneCell']⟩
instance Try.agf63 : AgF Try.prog 63 true := ⟨Try.isAgg63⟩
instance Try.elf63 : ElF Try.prog 63 (.agg #[.int .i64 0, .int .i64 0]) 2 16 := ⟨Try.t63, Try.type63, rfl, rfl, rfl, rfl, by simp [Value.cells, Value.oneCell']⟩
instance Try.fld63_0 : FldF Try.prog 63 0 0 1 false := ⟨_, _, Try.underlying63, rfl, rfl, by decide, fun w => ElF.size (e := Try.elf3) w, fun w => Try.isAgg3 w⟩
instance Try.fld63_1 : FldF Try.prog 63 1 1 1 false := ⟨_, _, Try.underlying63, rfl, rfl, by decide, fun w => ElF.size (e := Try.elf3) w, fun w => Try.isAgg3 w⟩
instance Try.agf64 : AgF Try.prog 64 true := ⟨Try.isAgg64⟩
instance Try.elf64 : ElF Try.prog 64 (.agg #[.int .i64 0, .int .i64 0]) 2 16 := ⟨Try.t64, Try.type64, rfl, rfl, rfl, rfl, by simp [Value.cells, Value.oneCell']⟩
instance Try.fld64_0 : FldF Try.prog 64 0 0 1 false := ⟨_, _, Try.underlying64, rfl, rfl, by decide, fun w => ElF.size (e := Try.elf3) w, fun w => Try.isAgg3 w⟩
instance Try.fld64_1 : FldF Try.prog 64 1 1 1 false := ⟨_, _, Try.underlying64, rfl, rfl, by decide, fun w => ElF.size (e := Try.elf3) w, fun w => Try.isAgg3 w⟩
instance Try.und65 : Und Try.prog 65 (.slice 5) := ⟨Try.underlying65⟩
instance Try.agf65 : AgF Try.prog 65 false := ⟨Try.isAgg65⟩
instance Try.elf65 : ElF Try.prog 65 (.slice none 0 0) 1 24 := ⟨Try.t65, Try.type65, rfl, rfl, rfl, rfl, by simp [Value.cells, Value.oneCell']⟩
instance Try.agf66 : AgF Try.prog 66 false := ⟨Try.isAgg66⟩
instance Try.elf66 : ElF Try.prog 66 (.nilFunc) 1 8 := ⟨Try.t66, Try.type66, rfl, rfl, rfl, rfl, by simp [Value.cells, Value.oneCell']⟩
instance Try.agf67 : AgF Try.prog 67 false := ⟨Try.isAgg67⟩
instance Try.elf67 : ElF Try.prog 67 (.nilFunc) 1 8 := ⟨Try.t67, Try.type67, rfl, rfl, rfl, rfl, by simp [Value.cells, Value.oneCell']⟩
instance Try.agf68 : AgF Try.prog 68 false := ⟨Try.isAgg68⟩
instance Try.elf68 : ElF Try.prog 68 (.nilFunc) 1 8 := ⟨Try.t68, Try.type68, rfl, rfl, rfl, rfl, by simp [Value.cells, Value.oneCell']⟩
instance Try.agf69 : AgF Try.prog 69 false := ⟨Try.isAgg69⟩
instance Try.elf69 : ElF Try.prog 69 (.nilFunc) 1 8 := ⟨Try.t69, Try.type69, rfl, rfl, rfl, rfl, by simp [Value.cells, Value.oneCell']⟩
instance Try.agf70 : AgF Try.prog 70 false := ⟨Try.isAgg70⟩
instance Try.elf70 : ElF Try.prog 70 (.nilFunc) 1 8 := ⟨Try.t70, Try.type70, rfl, rfl, rfl, rfl, by simp [Value.cells, Value.oneCell']⟩
instance Try.agf71 : AgF Try.prog 71 false := ⟨Try.isAgg71⟩
instance Try.elf71 : ElF Try.prog 71 (.nilFunc) 1 8 := ⟨Try.t71, Try.type71, rfl, rfl, rfl, rfl, by simp [Value.cells, Value.oneCell']⟩
instance Try.agf72 : AgF Try.prog 72 true := ⟨Try.isAgg72⟩
instance Try.elf72 : ElF Try.prog 72 (.agg #[.pointer none, .pointer none, .pointer none, .string ⟨#[]⟩]) 4 40 := ⟨Try.t72, Try.type72, rfl, rfl, rfl, rfl, by simp [Value.cells, Value.oneCell']⟩
instance Try.fld72_0 : FldF Try.prog 72 0 0 1 false := ⟨_, _, Try.underlying72, rfl, rfl, by decide, fun w => ElF.size (e := Try.elf17) w, fun w => Try.isAgg17 w⟩
instance Try.fld72_1 : FldF Try.prog 72 1 1 1 false := ⟨_, _, Try.underlying72, rfl, rfl, by decide, fun w => ElF.size (e := Try.elf17) w, fun w => Try.isAgg17 w⟩
instance Try.fld72_2 : FldF Try.prog 72 2 2 1 false := ⟨_, _, Try.underlying72, rfl, rfl, by decide, fun w => ElF.size (e := Try.elf17) w, fun w => Try.isAgg17 w⟩
instance Try.fld72_3 : FldF Try.prog 72 3 3 1 false := ⟨_, _, Try.underlying72, rfl, rfl, by decide, fun w => ElF.size (e := Try.elf9) w, fun w => Try.isAgg9 w⟩
instance Try.agf73 : AgF Try.prog 73 true := ⟨Try.isAgg73⟩
instance Try.elf73 : ElF Try.prog 73 (.agg #[.pointer none, .pointer none, .pointer none, .string ⟨#[]⟩]) 4 40 := ⟨Try.t73, Try.type73, rfl, rfl, rfl, rfl, by simp [Value.cells, Value.oneCell']⟩
instance Try.fld73_0 : FldF Try.prog 73 0 0 1 false := ⟨_, _, Try.underlying73, rfl, rfl, by decide, fun w => ElF.size (e := Try.elf17) w, fun w => Try.isAgg17 w⟩
instance Try.fld73_1 : FldF Try.prog 73 1 1 1 false := ⟨_, _, Try.underlying73, rfl, rfl, by decide, fun w => ElF.size (e := Try.elf17) w, fun w => Try.isAgg17 w⟩
instance Try.fld73_2 : FldF Try.prog 73 2 2 1 false := ⟨_, _, Try.underlying73, rfl, rfl, by decide, fun w => ElF.size (e := Try.elf17) w, fun w => Try.isAgg17 w⟩
instance Try.fld73_3 : FldF Try.prog 73 3 3 1 false := ⟨_, _, Try.underlying73, rfl, rfl, by decide, fun w => ElF.size (e := Try.elf9) w, fun w => Try.isAgg9 w⟩
instance Try.und74 : Und Try.prog 74 (.array 0 16) := ⟨Try.underlying74⟩
instance Try.agf74 : AgF Try.prog 74 true := ⟨Try.isAgg74⟩
instance Try.agf75 : AgF Try.prog 75 true := ⟨Try.isAgg75⟩
instance Try.agf76 : AgF Try.prog 76 true := ⟨Try.isAgg76⟩
instance Try.agf77 : AgF Try.prog 77 false := ⟨Try.isAgg77⟩
instance Try.elf77 : ElF Try.prog 77 (.nilFunc) 1 8 := ⟨Try.t77, Try.type77, rfl, rfl, rfl, rfl, by simp [Value.cells, Value.oneCell']⟩
instance Try.und78 : Und Try.prog 78 (.int .u32) := ⟨Try.underlying78⟩
instance Try.agf78 : AgF Try.prog 78 false := ⟨Try.isAgg78⟩
instance Try.elf78 : ElF Try.prog 78 (.int .u32 0) 1 4 := ⟨Try.t78, Try.type78, rfl, rfl, rfl, rfl, by simp [Value.cells, Value.oneCell']⟩
instance Try.und79 : Und Try.prog 79 (.int .u8) := ⟨Try.underlying79⟩
instance Try.agf79 : AgF Try.prog 79 false := ⟨Try.isAgg79⟩
instance Try.elf79 : ElF Try.prog 79 (.int .u8 0) 1 1 := ⟨Try.t79, Try.type79, rfl, rfl, rfl, rfl, by simp [Value.cells, Value.oneCell']⟩
instance Try.und80 : Und Try.prog 80 (.int .u8) := ⟨Try.underlying80⟩
instance Try.agf80 : AgF Try.prog 80 false := ⟨Try.isAgg80⟩
instance Try.elf80 : ElF Try.prog 80 (.int .u8 0) 1 1 := ⟨Try.t80, Try.type80, rfl, rfl, rfl, rfl, by simp [Value.cells, Value.oneCell']⟩
instance Try.agf81 : AgF Try.prog 81 false := ⟨Try.isAgg81⟩
instance Try.elf81 : ElF Try.prog 81 (.nilFunc) 1 8 := ⟨Try.t81, Try.type81, rfl, rfl, rfl, rfl, by simp [Value.cells, Value.oneCell']⟩
instance Try.und82 : Und Try.prog 82 (.pointer 5) := ⟨Try.underlying82⟩
instance Try.agf82 : AgF Try.prog 82 false := ⟨Try.isAgg82⟩
instance Try.elf82 : ElF Try.prog 82 (.pointer none) 1 8 := ⟨Try.t82, Try.type82, rfl, rfl, rfl, rfl, by simp [Value.cells, Value.oneCell']⟩
instance Try.und83 : Und Try.prog 83 (.int .i32) := ⟨Try.underlying83⟩
instance Try.agf83 : AgF Try.prog 83 false := ⟨Try.isAgg83⟩
instance Try.elf83 : ElF Try.prog 83 (.int .i32 0) 1 4 := ⟨Try.t83, Try.type83, rfl, rfl, rfl, rfl, by simp [Value.cells, Value.oneCell']⟩
instance Try.und84 : Und Try.prog 84 (.int .i32) := ⟨Try.underlying84⟩
instance Try.agf84 : AgF Try.prog 84 false := ⟨Try.isAgg84⟩
instance Try.elf84 : ElF Try.prog 84 (.int .i32 0) 1 4 := ⟨Try.t84, Try.type84, rfl, rfl, rfl, rfl, by simp [Value.cells, Value.oneCell']⟩
instance Try.agf85 : AgF Try.prog 85 true := ⟨Try.isAgg85⟩
instance Try.elf85 : ElF Try.prog 85 (.agg #[.int .u64 0, .int .u64 0, .int .u32 0, .int .u8 0, .int .u8 0, .int .u8 0, .int .u8 0, .nilFunc, .pointer none, .int .i32 0, .int .i32 0]) 11 48 := ⟨Try.t85, Try.type85, rfl, rfl, rfl, rfl, by simp [Value.cells, Value.oneCell']⟩
instance Try.fld85_0 : FldF Try.prog 85 0 0 1 false := ⟨_, _, Try.underlying85, rfl, rfl, by decide, fun w => ElF.size (e := Try.elf12) w, fun w => Try.isAgg12 w⟩
instance Try.fld85_1 : FldF Try.prog 85 1 1 1 false := ⟨_, _, Try.underlying85, rfl, rfl, by decide, fun w => ElF.size (e := Try.elf12) w, fun w => Try.isAgg12 w⟩
instance Try.fld85_2 : FldF Try.prog 85 2 2 1 false := ⟨_, _, Try.underlying85, rfl, rfl, by decide, fun w => ElF.size (e := Try.elf78) w, fun w => Try.isAgg78 w⟩
instance Try.fld85_3 : FldF Try.prog 85 3 3 1 false := ⟨_, _, Try.underlying85, rfl, rfl, by decide, fun w => ElF.size (e := Try.elf79) w, fun w => Try.isAgg79 w⟩
instance Try.fld85_4 : FldF Try.prog 85 4 4 1 false := ⟨_, _, Try.underlying85, rfl, rfl, by decide, fun w => ElF.size (e := Try.elf5) w, fun w => Try.isAgg5 w⟩
instance Try.fld85_5 : FldF Try.prog 85 5 5 1 false := ⟨_, _, Try.underlying85, rfl, rfl, by decide, fun w => ElF.size (e := Try.elf5) w, fun w => Try.isAgg5 w⟩
instance Try.fld85_6 : FldF Try.prog 85 6 6 1 false := ⟨_, _, Try.underlying85, rfl, rfl, by decide, fun w => ElF.size (e := Try.elf80) w, fun w => Try.isAgg80 w⟩
instance Try.fld85_7 : FldF Try.prog 85 7 7 1 false := ⟨_, _, Try.underlying85, rfl, rfl, by decide, fun w => ElF.size (e := Try.elf81) w, fun w => Try.isAgg81 w⟩
instance Try.fld85_8 : FldF Try.prog 85 8 8 1 false := ⟨_, _, Try.underlying85, rfl, rfl, by decide, fun w => ElF.size (e := Try.elf82) w, fun w => Try.isAgg82 w⟩
instance Try.fld85_9 : FldF Try.prog 85 9 9 1 false := ⟨_, _, Try.underlying85, rfl, rfl, by decide, fun w => ElF.size (e := Try.elf83) w, fun w => Try.isAgg83 w⟩
instance Try.fld85_10 : FldF Try.prog 85 10 10 1 false := ⟨_, _, Try.underlying85, rfl, rfl, by decide, fun w => ElF.size (e := Try.elf84) w, fun w => Try.isAgg84 w⟩
instance Try.agf86 : AgF Try.prog 86 true := ⟨Try.isAgg86⟩
instance Try.elf86 : ElF Try.prog 86 (.agg #[.int .u64 0, .int .u64 0, .int .u32 0, .int .u8 0, .int .u8 0, .int .u8 0, .int .u8 0, .nilFunc, .pointer none, .int .i32 0, .int .i32 0]) 11 48 := ⟨Try.t86, Try.type86, rfl, rfl, rfl, rfl, by simp [Value.cells, Value.oneCell']⟩
instance Try.fld86_0 : FldF Try.prog 86 0 0 1 false := ⟨_, _, Try.underlying86, rfl, rfl, by decide, fun w => ElF.size (e := Try.elf12) w, fun w => Try.isAgg12 w⟩
instance Try.fld86_1 : FldF Try.prog 86 1 1 1 false := ⟨_, _, Try.underlying86, rfl, rfl, by decide, fun w => ElF.size (e := Try.elf12) w, fun w => Try.isAgg12 w⟩
instance Try.fld86_2 : FldF Try.prog 86 2 2 1 false := ⟨_, _, Try.underlying86, rfl, rfl, by decide, fun w => ElF.size (e := Try.elf78) w, fun w => Try.isAgg78 w⟩
instance Try.fld86_3 : FldF Try.prog 86 3 3 1 false := ⟨_, _, Try.underlying86, rfl, rfl, by decide, fun w => ElF.size (e := Try.elf79) w, fun w => Try.isAgg79 w⟩
instance Try.fld86_4 : FldF Try.prog 86 4 4 1 false := ⟨_, _, Try.underlying86, rfl, rfl, by decide, fun w => ElF.size (e := Try.elf5) w, fun w => Try.isAgg5 w⟩
instance Try.fld86_5 : FldF Try.prog 86 5 5 1 false := ⟨_, _, Try.underlying86, rfl, rfl, by decide, fun w => ElF.size (e := Try.elf5) w, fun w => Try.isAgg5 w⟩
instance Try.fld86_6 : FldF Try.prog 86 6 6 1 false := ⟨_, _, Try.underlying86, rfl, rfl, by decide, fun w => ElF.size (e := Try.elf80) w, fun w => Try.isAgg80 w⟩
instance Try.fld86_7 : FldF Try.prog 86 7 7 1 false := ⟨_, _, Try.underlying86, rfl, rfl, by decide, fun w => ElF.size (e := Try.elf81) w, fun w => Try.isAgg81 w⟩
instance Try.fld86_8 : FldF Try.prog 86 8 8 1 false := ⟨_, _, Try.underlying86, rfl, rfl, by decide, fun w => ElF.size (e := Try.elf82) w, fun w => Try.isAgg82 w⟩
instance Try.fld86_9 : FldF Try.prog 86 9 9 1 false := ⟨_, _, Try.underlying86, rfl, rfl, by decide, fun w => ElF.size (e := Try.elf83) w, fun w => Try.isAgg83 w⟩
instance Try.fld86_10 : FldF Try.prog 86 10 10 1 false := ⟨_, _, Try.underlying86, rfl, rfl, by decide, fun w => ElF.size (e := Try.elf84) w, fun w => Try.isAgg84 w⟩
instance Try.agf87 : AgF Try.prog 87 false := ⟨Try.isAgg87⟩
instance Try.elf87 : ElF Try.prog 87 (.pointer none) 1 8 := ⟨Try.t87, Try.type87, rfl, rfl, rfl, rfl, by simp [Value.cells, Value.oneCell']⟩
instance Try.str7 : StrF Try.prog 7 (.agg #[.int .i64 0, .int .i64 0, .bool false, .int .u8 0]) [(0, 1), (1, 1), (2, 1), (3, 1)] := ⟨Try.zeroValue7, _, Try.underlying7, fun w => by simp [ElF.size (e := Try.elf2), ElF.size (e := Try.elf3), ElF.size (e := Try.elf4), ElF.size (e := Try.elf6)]⟩
instance Try.str8 : StrF Try.prog 8 (.agg #[.int .i64 0, .int .i64 0, .bool false, .int .u8 0]) [(0, 1), (1, 1), (2, 1), (3, 1)] := ⟨Try.zeroValue8, _, Try.underlying8, fun w => by simp [ElF.size (e := Try.elf2), ElF.size (e := Try.elf3), ElF.size (e := Try.elf4), ElF.size (e := Try.elf6)]⟩
instance Try.str13 : StrF Try.prog 13 (.agg #[.string ⟨#[]⟩, .int .u64 0]) [(0, 1), (1, 1)] := ⟨Try.zeroValue13, _, Try.underlying13, fun w => by simp [ElF.size (e := Try.elf9), ElF.size (e := Try.elf12)]⟩
instance Try.str14 : StrF Try.prog 14 (.agg #[.string ⟨#[]⟩, .int .u64 0]) [(0, 1), (1, 1)] := ⟨Try.zeroValue14, _, Try.underlying14, fun w => by simp [ElF.size (e := Try.elf9), ElF.size (e := Try.elf12)]⟩
instance Try.str18 : StrF Try.prog 18 (.agg #[.pointer none]) [(0, 1)] := ⟨Try.zeroValue18, _, Try.underlying18, fun w => by simp [ElF.size (e := Try.elf17)]⟩
instance Try.str19 : StrF Try.prog 19 (.agg #[.pointer none]) [(0, 1)] := ⟨Try.zeroValue19, _, Try.underlying19, fun w => by simp [ElF.size (e := Try.elf17)]⟩
instance Try.str34 : StrF Try.prog 34 (.agg #[.string ⟨#[]⟩, .string ⟨#[]⟩]) [(0, 1), (1, 1)] := ⟨Try.zeroValue34, _, Try.underlying34, fun w => by simp [ElF.size (e := Try.elf9)]⟩
instance Try.str35 : StrF Try.prog 35 (.agg #[.string ⟨#[]⟩, .string ⟨#[]⟩]) [(0, 1), (1, 1)] := ⟨Try.zeroValue35, _, Try.underlying35, fun w => by simp [ElF.size (e := Try.elf9)]⟩
instance Try.eqt35 : EqT Try.prog 35 [.str, .str] := ⟨by kernel_rfl, eqd_struct Try.underlying35 Try.stoodInHeld35 (eqf_cons (ks1 := [.str]) (ks2 := [.str]) (by kernel_rfl) rfl (eqd_str (t := 9)) Try.isAgg9 (fun w => ElF.size (e := Try.elf9) w) (fun _ => rfl) (eqf_cons (ks1 := [.str]) (ks2 := []) (by kernel_rfl) rfl (eqd_str (t := 9)) Try.isAgg9 (fun w => ElF.size (e := Try.elf9) w) (fun _ => rfl) eqf_nil))⟩
instance Try.key35 : KeyF Try.prog 35 [.str, .str] := ⟨fun e us w h => chk_struct (n := 9999) Try.underlying35 (fun f hf => by simp only [List.mem_cons, List.not_mem_nil, or_false] at hf; rcases hf with rfl | rfl; exact chkd_str (t := 9) (fun w => Try.isAgg9 w); exact chkd_str (t := 9) (fun w => Try.isAgg9 w)) e us (fun f hf => by have hl := fitsB_len h; simp only [List.length_cons, List.length_nil] at hl; simp only [List.mem_cons, List.not_mem_nil, or_false] at hf; rcases hf with rfl | rfl <;> (simp only; omega)) w, Try.eqt35.h, ⟨_, Try.underlying35⟩⟩
instance Try.str36 : StrF Try.prog 36 (.agg #[.string ⟨#[]⟩, .string ⟨#[]⟩, .slice none 0 0]) [(0, 2), (2, 1)] := ⟨Try.zeroValue36, _, Try.underlying36, fun w => by simp [ElF.size (e := Try.elf23), ElF.size (e := Try.elf35)]⟩
instance Try.str37 : StrF Try.prog 37 (.agg #[.string ⟨#[]⟩, .string ⟨#[]⟩, .slice none 0 0]) [(0, 2), (2, 1)] := ⟨Try.zeroValue37, _, Try.underlying37, fun w => by simp [ElF.size (e := Try.elf23), ElF.size (e := Try.elf35)]⟩
instance Try.str54 : StrF Try.prog 54 (.agg #[.map none]) [(0, 1)] := ⟨Try.zeroValue54, _, Try.underlying54, fun w => by simp [ElF.size (e := Try.elf53)]⟩
instance Try.str55 : StrF Try.prog 55 (.agg #[.map none]) [(0, 1)] := ⟨Try.zeroValue55, _, Try.underlying55, fun w => by simp [ElF.size (e := Try.elf53)]⟩
instance Try.str59 : StrF Try.prog 59 (.agg #[.slice none 0 0]) [(0, 1)] := ⟨Try.zeroValue59, _, Try.underlying59, fun w => by simp [ElF.size (e := Try.elf22)]⟩
instance Try.str60 : StrF Try.prog 60 (.agg #[.slice none 0 0]) [(0, 1)] := ⟨Try.zeroValue60, _, Try.underlying60, fun w => by simp [ElF.size (e := Try.elf22)]⟩
instance Try.str63 : StrF Try.prog 63 (.agg #[.int .i64 0, .int .i64 0]) [(0, 1), (1, 1)] := ⟨Try.zeroValue63, _, Try.underlying63, fun w => by simp [ElF.size (e := Try.elf3)]⟩
instance Try.str64 : StrF Try.prog 64 (.agg #[.int .i64 0, .int .i64 0]) [(0, 1), (1, 1)] := ⟨Try.zeroValue64, _, Try.underlying64, fun w => by simp [ElF.size (e := Try.elf3)]⟩
instance Try.eqt64 : EqT Try.prog 64 [.int .i64, .int .i64] := ⟨by kernel_rfl, eqd_struct Try.underlying64 Try.stoodInHeld64 (eqf_cons (ks1 := [.int .i64]) (ks2 := [.int .i64]) (by kernel_rfl) rfl (eqd_int (t := 3)) Try.isAgg3 (fun w => ElF.size (e := Try.elf3) w) (fun _ => rfl) (eqf_cons (ks1 := [.int .i64]) (ks2 := []) (by kernel_rfl) rfl (eqd_int (t := 3)) Try.isAgg3 (fun w => ElF.size (e := Try.elf3) w) (fun _ => rfl) eqf_nil))⟩
instance Try.key64 : KeyF Try.prog 64 [.int .i64, .int .i64] := ⟨fun e us w h => chk_struct (n := 9999) Try.underlying64 (fun f hf => by simp only [List.mem_cons, List.not_mem_nil, or_false] at hf; rcases hf with rfl | rfl; exact chkd_int (t := 3) (fun w => Try.isAgg3 w); exact chkd_int (t := 3) (fun w => Try.isAgg3 w)) e us (fun f hf => by have hl := fitsB_len h; simp only [List.length_cons, List.length_nil] at hl; simp only [List.mem_cons, List.not_mem_nil, or_false] at hf; rcases hf with rfl | rfl <;> (simp only; omega)) w, Try.eqt64.h, ⟨_, Try.underlying64⟩⟩
instance Try.str72 : StrF Try.prog 72 (.agg #[.pointer none, .pointer none, .pointer none, .string ⟨#[]⟩]) [(0, 1), (1, 1), (2, 1), (3, 1)] := ⟨Try.zeroValue72, _, Try.underlying72, fun w => by simp [ElF.size (e := Try.elf9), ElF.size (e := Try.elf17)]⟩
instance Try.str73 : StrF Try.prog 73 (.agg #[.pointer none, .pointer none, .pointer none, .string ⟨#[]⟩]) [(0, 1), (1, 1), (2, 1), (3, 1)] := ⟨Try.zeroValue73, _, Try.underlying73, fun w => by simp [ElF.size (e := Try.elf9), ElF.size (e := Try.elf17)]⟩
instance Try.str85 : StrF Try.prog 85 (.agg #[.int .u64 0, .int .u64 0, .int .u32 0, .int .u8 0, .int .u8 0, .int .u8 0, .int .u8 0, .nilFunc, .pointer none, .int .i32 0, .int .i32 0]) [(0, 1), (1, 1), (2, 1), (3, 1), (4, 1), (5, 1), (6, 1), (7, 1), (8, 1), (9, 1), (10, 1)] := ⟨Try.zeroValue85, _, Try.underlying85, fun w => by simp [ElF.size (e := Try.elf5), ElF.size (e := Try.elf12), ElF.size (e := Try.elf78), ElF.size (e := Try.elf79), ElF.size (e := Try.elf80), ElF.size (e := Try.elf81), ElF.size (e := Try.elf82), ElF.size (e := Try.elf83), ElF.size (e := Try.elf84)]⟩
instance Try.str86 : StrF Try.prog 86 (.agg #[.int .u64 0, .int .u64 0, .int .u32 0, .int .u8 0, .int .u8 0, .int .u8 0, .int .u8 0, .nilFunc, .pointer none, .int .i32 0, .int .i32 0]) [(0, 1), (1, 1), (2, 1), (3, 1), (4, 1), (5, 1), (6, 1), (7, 1), (8, 1), (9, 1), (10, 1)] := ⟨Try.zeroValue86, _, Try.underlying86, fun w => by simp [ElF.size (e := Try.elf5), ElF.size (e := Try.elf12), ElF.size (e := Try.elf78), ElF.size (e := Try.elf79), ElF.size (e := Try.elf80), ElF.size (e := Try.elf81), ElF.size (e := Try.elf82), ElF.size (e := Try.elf83), ElF.size (e := Try.elf84)]⟩
instance Try.mix : Mix Try.prog := ⟨by kernel_rfl⟩
instance Try.ent2 : Ent Try.prog 2 := ent_of Try.func2 (by kernel_rfl) rfl -- gosem.cut.init
instance Try.ent3 : Ent Try.prog 3 := ent_of Try.func3 (by kernel_rfl) rfl -- herald/heraldlaw18.ManifestPlans
instance Try.ent4 : Ent Try.prog 4 := ent_of Try.func4 (by kernel_rfl) rfl -- herald/heraldlaw18.ManifestReaches
instance Try.ent5 : Ent Try.prog 5 := ent_of Try.func5 (by kernel_rfl) rfl -- herald/heraldlaw18.ManifestDown
instance Try.ent6 : Ent Try.prog 6 := ent_of Try.func6 (by kernel_rfl) rfl -- herald/heraldlaw18.ManifestCuts
instance Try.ent7 : Ent Try.prog 7 := ent_of Try.func7 (by kernel_rfl) rfl -- herald/heraldlaw18.lent
instance Try.ent8 : Ent Try.prog 8 := ent_of Try.func8 (by kernel_rfl) rfl -- herald/manifest.Of
instance Try.ent9 : Ent Try.prog 9 := ent_of Try.func9 (by kernel_rfl) rfl -- herald/heraldref18.Of
instance Try.ent10 : Ent Try.prog 10 := ent_of Try.func10 (by kernel_rfl) rfl -- herald/heraldlaw18.own
instance Try.ent11 : Ent Try.prog 11 := ent_of Try.func11 (by kernel_rfl) rfl -- herald/heraldlaw18.kept
instance Try.ent12 : Ent Try.prog 12 := ent_of Try.func12 (by kernel_rfl) rfl -- herald/heraldlaw18.first
instance Try.ent13 : Ent Try.prog 13 := ent_of Try.func13 (by kernel_rfl) rfl -- herald/heraldlaw18.at
instance Try.ent14 : Ent Try.prog 14 := ent_of Try.func14 (by kernel_rfl) rfl -- herald/heraldlaw18.same
instance Try.ent15 : Ent Try.prog 15 := ent_of Try.func15 (by kernel_rfl) rfl -- (*herald/manifest.Manifest).Plan
instance Try.ent16 : Ent Try.prog 16 := ent_of Try.func16 (by kernel_rfl) rfl -- (*herald/heraldref18.Manifest).Plan
instance Try.ent17 : Ent Try.prog 17 := ent_of Try.func17 (by kernel_rfl) rfl -- herald/heraldlaw18.made
instance Try.ent18 : Ent Try.prog 18 := ent_of Try.func18 (by kernel_rfl) rfl -- herald/heraldlaw18.page
instance Try.ent19 : Ent Try.prog 19 := ent_of Try.func19 (by kernel_rfl) rfl -- herald/heraldlaw18.in
instance Try.ent20 : Ent Try.prog 20 := ent_of Try.func20 (by kernel_rfl) rfl -- herald/heraldlaw18.names
instance Try.ent21 : Ent Try.prog 21 := ent_of Try.func21 (by kernel_rfl) rfl -- slices.ContainsFunc[[]herald/api.Rule,herald/api.Rule]
instance Try.ent22 : Ent Try.prog 22 := ent_of Try.func22 (by kernel_rfl) rfl -- herald/manifest.Of$1
instance Try.ent23 : Ent Try.prog 23 := ent_of Try.func23 (by kernel_rfl) rfl -- herald/manifest.Of$2
instance Try.ent24 : Ent Try.prog 24 := ent_of Try.func24 (by kernel_rfl) rfl -- herald/manifest.right
instance Try.ent25 : Ent Try.prog 25 := ent_of Try.func25 (by kernel_rfl) rfl -- herald/manifest.Of$3
instance Try.ent26 : Ent Try.prog 26 := ent_of Try.func26 (by kernel_rfl) rfl -- slices.ContainsFunc[[]herald/api.Target,herald/api.Target]
instance Try.ent27 : Ent Try.prog 27 := ent_of Try.func27 (by kernel_rfl) rfl -- herald/manifest.twice
instance Try.ent28 : Ent Try.prog 28 := ent_of Try.func28 (by kernel_rfl) rfl -- slices.Clone[[]herald/api.Target,herald/api.Target]
instance Try.ent29 : Ent Try.prog 29 := ent_of Try.func29 (by kernel_rfl) rfl -- herald/heraldref18.Right
instance Try.ent30 : Ent Try.prog 30 := ent_of Try.func30 (by kernel_rfl) rfl -- herald/heraldref18.In
instance Try.ent31 : Ent Try.prog 31 := ent_of Try.func31 (by kernel_rfl) rfl -- (*herald/manifest.Manifest).walk
instance Try.ent32 : Ent Try.prog 32 := ent_of Try.func32 (by kernel_rfl) rfl -- (*herald/heraldref18.Manifest).Names
instance Try.ent33 : Ent Try.prog 33 := ent_of Try.func33 (by kernel_rfl) rfl -- slices.IndexFunc[[]herald/api.Rule,herald/api.Rule]
instance Try.ent34 : Ent Try.prog 34 := ent_of Try.func34 (by kernel_rfl) rfl -- herald/manifest.plain
instance Try.ent35 : Ent Try.prog 35 := ent_of Try.func35 (by kernel_rfl) rfl -- slices.IndexFunc[[]herald/api.Target,herald/api.Target]
instance Try.ent36 : Ent Try.prog 36 := ent_of Try.func36 (by kernel_rfl) rfl -- slices.Contains[[]herald/api.Target,herald/api.Target]
instance Try.ent37 : Ent Try.prog 37 := ent_of Try.func37 (by kernel_rfl) rfl -- herald/heraldref18.text
instance Try.ent38 : Ent Try.prog 38 := ent_of Try.func38 (by kernel_rfl) rfl -- slices.Index[[]herald/api.Target,herald/api.Target]
end Go.Proofs
