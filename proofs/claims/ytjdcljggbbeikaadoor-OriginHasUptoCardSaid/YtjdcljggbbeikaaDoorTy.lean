/- Facts on the program's types and functions, as instances: printed by a program (wip/aw/gen.py) out of the seat's translation. -/
import Derived.Test.YtjdcljggbbeikaaDoorProg
import Derived.Test.YtjdcljggbbeikaaDoorG5
import Derived.KernelRfl
set_option maxRecDepth 100000
namespace Go.Proofs
open Go.Proofs.YtjdcljggbbeikaaDoorA
instance Tryd.agf1 : AgF Tryd.prog 1 false := ⟨Tryd.isAgg1⟩
instance Tryd.elf1 : ElF Tryd.prog 1 (.nilFunc) 1 8 := ⟨Tryd.t1, Tryd.type1, rfl, rfl, rfl, rfl, by simp [Value.cells, Value.oneCell']⟩
instance Tryd.und2 : Und Tryd.prog 2 (.int .i64) := ⟨Tryd.underlying2⟩
instance Tryd.agf2 : AgF Tryd.prog 2 false := ⟨Tryd.isAgg2⟩
instance Tryd.elf2 : ElF Tryd.prog 2 (.int .i64 0) 1 8 := ⟨Tryd.t2, Tryd.type2, rfl, rfl, rfl, rfl, by simp [Value.cells, Value.oneCell']⟩
instance Tryd.und3 : Und Tryd.prog 3 (.int .i64) := ⟨Tryd.underlying3⟩
instance Tryd.agf3 : AgF Tryd.prog 3 false := ⟨Tryd.isAgg3⟩
instance Tryd.elf3 : ElF Tryd.prog 3 (.int .i64 0) 1 8 := ⟨Tryd.t3, Tryd.type3, rfl, rfl, rfl, rfl, by simp [Value.cells, Value.oneCell']⟩
instance Tryd.und4 : Und Tryd.prog 4 (.bool) := ⟨Tryd.underlying4⟩
instance Tryd.agf4 : AgF Tryd.prog 4 false := ⟨Tryd.isAgg4⟩
instance Tryd.elf4 : ElF Tryd.prog 4 (.bool false) 1 1 := ⟨Tryd.t4, Tryd.type4, rfl, rfl, rfl, rfl, by simp [Value.cells, Value.oneCell']⟩
instance Tryd.und5 : Und Tryd.prog 5 (.int .u8) := ⟨Tryd.underlying5⟩
instance Tryd.agf5 : AgF Tryd.prog 5 false := ⟨Tryd.isAgg5⟩
instance Tryd.elf5 : ElF Tryd.prog 5 (.int .u8 0) 1 1 := ⟨Tryd.t5, Tryd.type5, rfl, rfl, rfl, rfl, by simp [Value.cells, Value.oneCell']⟩
instance Tryd.und6 : Und Tryd.prog 6 (.int .u8) := ⟨Tryd.underlying6⟩
instance Tryd.agf6 : AgF Tryd.prog 6 false := ⟨Tryd.isAgg6⟩
instance Tryd.elf6 : ElF Tryd.prog 6 (.int .u8 0) 1 1 := ⟨Tryd.t6, Tryd.type6, rfl, rfl, rfl, rfl, by simp [Value.cells, Value.oneCell']⟩
instance Tryd.agf7 : AgF Tryd.prog 7 true := ⟨Tryd.isAgg7⟩
instance Tryd.elf7 : ElF Tryd.prog 7 (.agg #[.int .i64 0, .int .i64 0, .bool false, .int .u8 0]) 4 24 := ⟨Tryd.t7, Tryd.type7, rfl, rfl, rfl, rfl, by simp [Value.cells, Value.oneCell']⟩
instance Tryd.fld7_0 : FldF Tryd.prog 7 0 0 1 false := ⟨_, _, Tryd.underlying7, rfl, rfl, by decide, fun w => ElF.size (e := Tryd.elf2) w, fun w => Tryd.isAgg2 w⟩
instance Tryd.fld7_1 : FldF Tryd.prog 7 1 1 1 false := ⟨_, _, Tryd.underlying7, rfl, rfl, by decide, fun w => ElF.size (e := Tryd.elf3) w, fun w => Tryd.isAgg3 w⟩
instance Tryd.fld7_2 : FldF Tryd.prog 7 2 2 1 false := ⟨_, _, Tryd.underlying7, rfl, rfl, by decide, fun w => ElF.size (e := Tryd.elf4) w, fun w => Tryd.isAgg4 w⟩
instance Tryd.fld7_3 : FldF Tryd.prog 7 3 3 1 false := ⟨_, _, Tryd.underlying7, rfl, rfl, by decide, fun w => ElF.size (e := Tryd.elf6) w, fun w => Tryd.isAgg6 w⟩
instance Tryd.agf8 : AgF Tryd.prog 8 true := ⟨Tryd.isAgg8⟩
instance Tryd.elf8 : ElF Tryd.prog 8 (.agg #[.int .i64 0, .int .i64 0, .bool false, .int .u8 0]) 4 24 := ⟨Tryd.t8, Tryd.type8, rfl, rfl, rfl, rfl, by simp [Value.cells, Value.oneCell']⟩
instance Tryd.fld8_0 : FldF Tryd.prog 8 0 0 1 false := ⟨_, _, Tryd.underlying8, rfl, rfl, by decide, fun w => ElF.size (e := Tryd.elf2) w, fun w => Tryd.isAgg2 w⟩
instance Tryd.fld8_1 : FldF Tryd.prog 8 1 1 1 false := ⟨_, _, Tryd.underlying8, rfl, rfl, by decide, fun w => ElF.size (e := Tryd.elf3) w, fun w => Tryd.isAgg3 w⟩
instance Tryd.fld8_2 : FldF Tryd.prog 8 2 2 1 false := ⟨_, _, Tryd.underlying8, rfl, rfl, by decide, fun w => ElF.size (e := Tryd.elf4) w, fun w => Tryd.isAgg4 w⟩
instance Tryd.fld8_3 : FldF Tryd.prog 8 3 3 1 false := ⟨_, _, Tryd.underlying8, rfl, rfl, by decide, fun w => ElF.size (e := Tryd.elf6) w, fun w => Tryd.isAgg6 w⟩
instance Tryd.und9 : Und Tryd.prog 9 (.string) := ⟨Tryd.underlying9⟩
instance Tryd.agf9 : AgF Tryd.prog 9 false := ⟨Tryd.isAgg9⟩
instance Tryd.elf9 : ElF Tryd.prog 9 (.string ⟨#[]⟩) 1 16 := ⟨Tryd.t9, Tryd.type9, rfl, rfl, rfl, rfl, by simp [Value.cells, Value.oneCell']⟩
instance Tryd.und10 : Und Tryd.prog 10 (.string) := ⟨Tryd.underlying10⟩
instance Tryd.agf10 : AgF Tryd.prog 10 false := ⟨Tryd.isAgg10⟩
instance Tryd.elf10 : ElF Tryd.prog 10 (.string ⟨#[]⟩) 1 16 := ⟨Tryd.t10, Tryd.type10, rfl, rfl, rfl, rfl, by simp [Value.cells, Value.oneCell']⟩
instance Tryd.und11 : Und Tryd.prog 11 (.string) := ⟨Tryd.underlying11⟩
instance Tryd.agf11 : AgF Tryd.prog 11 false := ⟨Tryd.isAgg11⟩
instance Tryd.elf11 : ElF Tryd.prog 11 (.string ⟨#[]⟩) 1 16 := ⟨Tryd.t11, Tryd.type11, rfl, rfl, rfl, rfl, by simp [Value.cells, Value.oneCell']⟩
instance Tryd.und12 : Und Tryd.prog 12 (.int .u64) := ⟨Tryd.underlying12⟩
instance Tryd.agf12 : AgF Tryd.prog 12 false := ⟨Tryd.isAgg12⟩
instance Tryd.elf12 : ElF Tryd.prog 12 (.int .u64 0) 1 8 := ⟨Tryd.t12, Tryd.type12, rfl, rfl, rfl, rfl, by simp [Value.cells, Value.oneCell']⟩
instance Tryd.agf13 : AgF Tryd.prog 13 true := ⟨Tryd.isAgg13⟩
instance Tryd.elf13 : ElF Tryd.prog 13 (.agg #[.string ⟨#[]⟩, .int .u64 0]) 2 24 := ⟨Tryd.t13, Tryd.type13, rfl, rfl, rfl, rfl, by simp [Value.cells, Value.oneCell']⟩
instance Tryd.fld13_0 : FldF Tryd.prog 13 0 0 1 false := ⟨_, _, Tryd.underlying13, rfl, rfl, by decide, fun w => ElF.size (e := Tryd.elf9) w, fun w => Tryd.isAgg9 w⟩
instance Tryd.fld13_1 : FldF Tryd.prog 13 1 1 1 false := ⟨_, _, Tryd.underlying13, rfl, rfl, by decide, fun w => ElF.size (e := Tryd.elf12) w, fun w => Tryd.isAgg12 w⟩
instance Tryd.agf14 : AgF Tryd.prog 14 true := ⟨Tryd.isAgg14⟩
instance Tryd.elf14 : ElF Tryd.prog 14 (.agg #[.string ⟨#[]⟩, .int .u64 0]) 2 24 := ⟨Tryd.t14, Tryd.type14, rfl, rfl, rfl, rfl, by simp [Value.cells, Value.oneCell']⟩
instance Tryd.fld14_0 : FldF Tryd.prog 14 0 0 1 false := ⟨_, _, Tryd.underlying14, rfl, rfl, by decide, fun w => ElF.size (e := Tryd.elf9) w, fun w => Tryd.isAgg9 w⟩
instance Tryd.fld14_1 : FldF Tryd.prog 14 1 1 1 false := ⟨_, _, Tryd.underlying14, rfl, rfl, by decide, fun w => ElF.size (e := Tryd.elf12) w, fun w => Tryd.isAgg12 w⟩
instance Tryd.und15 : Und Tryd.prog 15 (.pointer 101) := ⟨Tryd.underlying15⟩
instance Tryd.agf15 : AgF Tryd.prog 15 false := ⟨Tryd.isAgg15⟩
instance Tryd.elf15 : ElF Tryd.prog 15 (.pointer none) 1 8 := ⟨Tryd.t15, Tryd.type15, rfl, rfl, rfl, rfl, by simp [Value.cells, Value.oneCell']⟩
instance Tryd.und16 : Und Tryd.prog 16 (.pointer 104) := ⟨Tryd.underlying16⟩
instance Tryd.agf16 : AgF Tryd.prog 16 false := ⟨Tryd.isAgg16⟩
instance Tryd.elf16 : ElF Tryd.prog 16 (.pointer none) 1 8 := ⟨Tryd.t16, Tryd.type16, rfl, rfl, rfl, rfl, by simp [Value.cells, Value.oneCell']⟩
instance Tryd.und17 : Und Tryd.prog 17 (.pointer 113) := ⟨Tryd.underlying17⟩
instance Tryd.agf17 : AgF Tryd.prog 17 false := ⟨Tryd.isAgg17⟩
instance Tryd.elf17 : ElF Tryd.prog 17 (.pointer none) 1 8 := ⟨Tryd.t17, Tryd.type17, rfl, rfl, rfl, rfl, by simp [Value.cells, Value.oneCell']⟩
instance Tryd.agf18 : AgF Tryd.prog 18 true := ⟨Tryd.isAgg18⟩
instance Tryd.elf18 : ElF Tryd.prog 18 (.agg #[.pointer none]) 1 8 := ⟨Tryd.t18, Tryd.type18, rfl, rfl, rfl, rfl, by simp [Value.cells, Value.oneCell']⟩
instance Tryd.fld18_0 : FldF Tryd.prog 18 0 0 1 false := ⟨_, _, Tryd.underlying18, rfl, rfl, by decide, fun w => ElF.size (e := Tryd.elf17) w, fun w => Tryd.isAgg17 w⟩
instance Tryd.agf19 : AgF Tryd.prog 19 true := ⟨Tryd.isAgg19⟩
instance Tryd.elf19 : ElF Tryd.prog 19 (.agg #[.pointer none]) 1 8 := ⟨Tryd.t19, Tryd.type19, rfl, rfl, rfl, rfl, by simp [Value.cells, Value.oneCell']⟩
instance Tryd.fld19_0 : FldF Tryd.prog 19 0 0 1 false := ⟨_, _, Tryd.underlying19, rfl, rfl, by decide, fun w => ElF.size (e := Tryd.elf17) w, fun w => Tryd.isAgg17 w⟩
instance Tryd.agf20 : AgF Tryd.prog 20 false := ⟨Tryd.isAgg20⟩
instance Tryd.elf20 : ElF Tryd.prog 20 (.nilIface) 1 16 := ⟨Tryd.t20, Tryd.type20, rfl, rfl, rfl, rfl, by simp [Value.cells, Value.oneCell']⟩
instance Tryd.und21 : Und Tryd.prog 21 (.int .i32) := ⟨Tryd.underlying21⟩
instance Tryd.agf21 : AgF Tryd.prog 21 false := ⟨Tryd.isAgg21⟩
instance Tryd.elf21 : ElF Tryd.prog 21 (.int .i32 0) 1 4 := ⟨Tryd.t21, Tryd.type21, rfl, rfl, rfl, rfl, by simp [Value.cells, Value.oneCell']⟩
instance Tryd.agf22 : AgF Tryd.prog 22 true := ⟨Tryd.isAgg22⟩
instance Tryd.elf22 : ElF Tryd.prog 22 (.agg #[.string ⟨#[]⟩, .string ⟨#[]⟩, .int .i64 0]) 3 40 := ⟨Tryd.t22, Tryd.type22, rfl, rfl, rfl, rfl, by simp [Value.cells, Value.oneCell']⟩
instance Tryd.fld22_0 : FldF Tryd.prog 22 0 0 1 false := ⟨_, _, Tryd.underlying22, rfl, rfl, by decide, fun w => ElF.size (e := Tryd.elf9) w, fun w => Tryd.isAgg9 w⟩
instance Tryd.fld22_1 : FldF Tryd.prog 22 1 1 1 false := ⟨_, _, Tryd.underlying22, rfl, rfl, by decide, fun w => ElF.size (e := Tryd.elf9) w, fun w => Tryd.isAgg9 w⟩
instance Tryd.fld22_2 : FldF Tryd.prog 22 2 2 1 false := ⟨_, _, Tryd.underlying22, rfl, rfl, by decide, fun w => ElF.size (e := Tryd.elf3) w, fun w => Tryd.isAgg3 w⟩
instance Tryd.agf23 : AgF Tryd.prog 23 true := ⟨Tryd.isAgg23⟩
instance Tryd.elf23 : ElF Tryd.prog 23 (.agg #[.string ⟨#[]⟩, .string ⟨#[]⟩, .int .i64 0]) 3 40 := ⟨Tryd.t23, Tryd.type23, rfl, rfl, rfl, rfl, by simp [Value.cells, Value.oneCell']⟩
instance Tryd.fld23_0 : FldF Tryd.prog 23 0 0 1 false := ⟨_, _, Tryd.underlying23, rfl, rfl, by decide, fun w => ElF.size (e := Tryd.elf9) w, fun w => Tryd.isAgg9 w⟩
instance Tryd.fld23_1 : FldF Tryd.prog 23 1 1 1 false := ⟨_, _, Tryd.underlying23, rfl, rfl, by decide, fun w => ElF.size (e := Tryd.elf9) w, fun w => Tryd.isAgg9 w⟩
instance Tryd.fld23_2 : FldF Tryd.prog 23 2 2 1 false := ⟨_, _, Tryd.underlying23, rfl, rfl, by decide, fun w => ElF.size (e := Tryd.elf3) w, fun w => Tryd.isAgg3 w⟩
instance Tryd.und24 : Und Tryd.prog 24 (.int .i64) := ⟨Tryd.underlying24⟩
instance Tryd.agf24 : AgF Tryd.prog 24 false := ⟨Tryd.isAgg24⟩
instance Tryd.elf24 : ElF Tryd.prog 24 (.int .i64 0) 1 8 := ⟨Tryd.t24, Tryd.type24, rfl, rfl, rfl, rfl, by simp [Value.cells, Value.oneCell']⟩
instance Tryd.agf26 : AgF Tryd.prog 26 false := ⟨Tryd.isAgg26⟩
instance Tryd.elf26 : ElF Tryd.prog 26 (.nilFunc) 1 8 := ⟨Tryd.t26, Tryd.type26, rfl, rfl, rfl, rfl, by simp [Value.cells, Value.oneCell']⟩
instance Tryd.agf27 : AgF Tryd.prog 27 false := ⟨Tryd.isAgg27⟩
instance Tryd.elf27 : ElF Tryd.prog 27 (.nilFunc) 1 8 := ⟨Tryd.t27, Tryd.type27, rfl, rfl, rfl, rfl, by simp [Value.cells, Value.oneCell']⟩
instance Tryd.agf28 : AgF Tryd.prog 28 false := ⟨Tryd.isAgg28⟩
instance Tryd.elf28 : ElF Tryd.prog 28 (.nilFunc) 1 8 := ⟨Tryd.t28, Tryd.type28, rfl, rfl, rfl, rfl, by simp [Value.cells, Value.oneCell']⟩
instance Tryd.agf30 : AgF Tryd.prog 30 false := ⟨Tryd.isAgg30⟩
instance Tryd.elf30 : ElF Tryd.prog 30 (.nilFunc) 1 8 := ⟨Tryd.t30, Tryd.type30, rfl, rfl, rfl, rfl, by simp [Value.cells, Value.oneCell']⟩
instance Tryd.agf31 : AgF Tryd.prog 31 false := ⟨Tryd.isAgg31⟩
instance Tryd.elf31 : ElF Tryd.prog 31 (.nilFunc) 1 8 := ⟨Tryd.t31, Tryd.type31, rfl, rfl, rfl, rfl, by simp [Value.cells, Value.oneCell']⟩
instance Tryd.und32 : Und Tryd.prog 32 (.int .u64) := ⟨Tryd.underlying32⟩
instance Tryd.agf32 : AgF Tryd.prog 32 false := ⟨Tryd.isAgg32⟩
instance Tryd.elf32 : ElF Tryd.prog 32 (.int .u64 0) 1 8 := ⟨Tryd.t32, Tryd.type32, rfl, rfl, rfl, rfl, by simp [Value.cells, Value.oneCell']⟩
instance Tryd.agf33 : AgF Tryd.prog 33 false := ⟨Tryd.isAgg33⟩
instance Tryd.elf33 : ElF Tryd.prog 33 (.nilFunc) 1 8 := ⟨Tryd.t33, Tryd.type33, rfl, rfl, rfl, rfl, by simp [Value.cells, Value.oneCell']⟩
instance Tryd.agf34 : AgF Tryd.prog 34 false := ⟨Tryd.isAgg34⟩
instance Tryd.elf34 : ElF Tryd.prog 34 (.nilFunc) 1 8 := ⟨Tryd.t34, Tryd.type34, rfl, rfl, rfl, rfl, by simp [Value.cells, Value.oneCell']⟩
instance Tryd.und35 : Und Tryd.prog 35 (.slice 5) := ⟨Tryd.underlying35⟩
instance Tryd.agf35 : AgF Tryd.prog 35 false := ⟨Tryd.isAgg35⟩
instance Tryd.elf35 : ElF Tryd.prog 35 (.slice none 0 0) 1 24 := ⟨Tryd.t35, Tryd.type35, rfl, rfl, rfl, rfl, by simp [Value.cells, Value.oneCell']⟩
instance Tryd.agf36 : AgF Tryd.prog 36 false := ⟨Tryd.isAgg36⟩
instance Tryd.elf36 : ElF Tryd.prog 36 (.nilFunc) 1 8 := ⟨Tryd.t36, Tryd.type36, rfl, rfl, rfl, rfl, by simp [Value.cells, Value.oneCell']⟩
instance Tryd.und37 : Und Tryd.prog 37 (.slice 23) := ⟨Tryd.underlying37⟩
instance Tryd.agf37 : AgF Tryd.prog 37 false := ⟨Tryd.isAgg37⟩
instance Tryd.elf37 : ElF Tryd.prog 37 (.slice none 0 0) 1 24 := ⟨Tryd.t37, Tryd.type37, rfl, rfl, rfl, rfl, by simp [Value.cells, Value.oneCell']⟩
instance Tryd.und38 : Und Tryd.prog 38 (.pointer 63) := ⟨Tryd.underlying38⟩
instance Tryd.agf38 : AgF Tryd.prog 38 false := ⟨Tryd.isAgg38⟩
instance Tryd.elf38 : ElF Tryd.prog 38 (.pointer none) 1 8 := ⟨Tryd.t38, Tryd.type38, rfl, rfl, rfl, rfl, by simp [Value.cells, Value.oneCell']⟩
instance Tryd.agf40 : AgF Tryd.prog 40 false := ⟨Tryd.isAgg40⟩
instance Tryd.elf40 : ElF Tryd.prog 40 (.nilFunc) 1 8 := ⟨Tryd.t40, Tryd.type40, rfl, rfl, rfl, rfl, by simp [Value.cells, Value.oneCell']⟩
instance Tryd.agf41 : AgF Tryd.prog 41 false := ⟨Tryd.isAgg41⟩
instance Tryd.elf41 : ElF Tryd.prog 41 (.nilFunc) 1 8 := ⟨Tryd.t41, Tryd.type41, rfl, rfl, rfl, rfl, by simp [Value.cells, Value.oneCell']⟩
instance Tryd.agf42 : AgF Tryd.prog 42 false := ⟨Tryd.isAgg42⟩
instance Tryd.elf42 : ElF Tryd.prog 42 (.nilFunc) 1 8 := ⟨Tryd.t42, Tryd.type42, rfl, rfl, rfl, rfl, by simp [Value.cells, Value.oneCell']⟩
instance Tryd.und43 : Und Tryd.prog 43 (.slice 50) := ⟨Tryd.underlying43⟩
instance Tryd.agf43 : AgF Tryd.prog 43 false := ⟨Tryd.isAgg43⟩
instance Tryd.elf43 : ElF Tryd.prog 43 (.slice none 0 0) 1 24 := ⟨Tryd.t43, Tryd.type43, rfl, rfl, rfl, rfl, by simp [Value.cells, Value.oneCell']⟩
instance Tryd.und44 : Und Tryd.prog 44 (.pointer 66) := ⟨Tryd.underlying44⟩
instance Tryd.agf44 : AgF Tryd.prog 44 false := ⟨Tryd.isAgg44⟩
instance Tryd.elf44 : ElF Tryd.prog 44 (.pointer none) 1 8 := ⟨Tryd.t44, Tryd.type44, rfl, rfl, rfl, rfl, by simp [Value.cells, Value.oneCell']⟩
instance Tryd.agf46 : AgF Tryd.prog 46 false := ⟨Tryd.isAgg46⟩
instance Tryd.elf46 : ElF Tryd.prog 46 (.nilFunc) 1 8 := ⟨Tryd.t46, Tryd.type46, rfl, rfl, rfl, rfl, by simp [Value.cells, Value.oneCell']⟩
instance Tryd.agf47 : AgF Tryd.prog 47 false := ⟨Tryd.isAgg47⟩
instance Tryd.elf47 : ElF Tryd.prog 47 (.nilFunc) 1 8 := ⟨Tryd.t47, Tryd.type47, rfl, rfl, rfl, rfl, by simp [Value.cells, Value.oneCell']⟩
instance Tryd.agf48 : AgF Tryd.prog 48 false := ⟨Tryd.isAgg48⟩
instance Tryd.elf48 : ElF Tryd.prog 48 (.nilFunc) 1 8 := ⟨Tryd.t48, Tryd.type48, rfl, rfl, rfl, rfl, by simp [Value.cells, Value.oneCell']⟩
instance Tryd.agf49 : AgF Tryd.prog 49 true := ⟨Tryd.isAgg49⟩
instance Tryd.elf49 : ElF Tryd.prog 49 (.agg #[.string ⟨#[]⟩, .string ⟨#[]⟩]) 2 32 := ⟨Tryd.t49, Tryd.type49, rfl, rfl, rfl, rfl, by simp [Value.cells, Value.oneCell']⟩
instance Tryd.fld49_0 : FldF Tryd.prog 49 0 0 1 false := ⟨_, _, Tryd.underlying49, rfl, rfl, by decide, fun w => ElF.size (e := Tryd.elf9) w, fun w => Tryd.isAgg9 w⟩
instance Tryd.fld49_1 : FldF Tryd.prog 49 1 1 1 false := ⟨_, _, Tryd.underlying49, rfl, rfl, by decide, fun w => ElF.size (e := Tryd.elf9) w, fun w => Tryd.isAgg9 w⟩
instance Tryd.agf50 : AgF Tryd.prog 50 true := ⟨Tryd.isAgg50⟩
instance Tryd.elf50 : ElF Tryd.prog 50 (.agg #[.string ⟨#[]⟩, .string ⟨#[]⟩]) 2 32 := ⟨Tryd.t50, Tryd.type50, rfl, rfl, rfl, rfl, by simp [Value.cells, Value.oneCell']⟩
instance Tryd.fld50_0 : FldF Tryd.prog 50 0 0 1 false := ⟨_, _, Tryd.underlying50, rfl, rfl, by decide, fun w => ElF.size (e := Tryd.elf9) w, fun w => Tryd.isAgg9 w⟩
instance Tryd.fld50_1 : FldF Tryd.prog 50 1 1 1 false := ⟨_, _, Tryd.underlying50, rfl, rfl, by decide, fun w => ElF.size (e := Tryd.elf9) w, fun w => Tryd.isAgg9 w⟩
instance Tryd.agf51 : AgF Tryd.prog 51 false := ⟨Tryd.isAgg51⟩
instance Tryd.elf51 : ElF Tryd.prog 51 (.nilFunc) 1 8 := ⟨Tryd.t51, Tryd.type51, rfl, rfl, rfl, rfl, by simp [Value.cells, Value.oneCell']⟩
instance Tryd.agf52 : AgF Tryd.prog 52 false := ⟨Tryd.isAgg52⟩
instance Tryd.elf52 : ElF Tryd.prog 52 (.nilFunc) 1 8 := ⟨Tryd.t52, Tryd.type52, rfl, rfl, rfl, rfl, by simp [Value.cells, Value.oneCell']⟩
instance Tryd.agf54 : AgF Tryd.prog 54 false := ⟨Tryd.isAgg54⟩
instance Tryd.elf54 : ElF Tryd.prog 54 (.nilFunc) 1 8 := ⟨Tryd.t54, Tryd.type54, rfl, rfl, rfl, rfl, by simp [Value.cells, Value.oneCell']⟩
instance Tryd.agf56 : AgF Tryd.prog 56 false := ⟨Tryd.isAgg56⟩
instance Tryd.elf56 : ElF Tryd.prog 56 (.nilFunc) 1 8 := ⟨Tryd.t56, Tryd.type56, rfl, rfl, rfl, rfl, by simp [Value.cells, Value.oneCell']⟩
instance Tryd.agf57 : AgF Tryd.prog 57 false := ⟨Tryd.isAgg57⟩
instance Tryd.elf57 : ElF Tryd.prog 57 (.nilFunc) 1 8 := ⟨Tryd.t57, Tryd.type57, rfl, rfl, rfl, rfl, by simp [Value.cells, Value.oneCell']⟩
instance Tryd.agf58 : AgF Tryd.prog 58 false := ⟨Tryd.isAgg58⟩
instance Tryd.elf58 : ElF Tryd.prog 58 (.nilFunc) 1 8 := ⟨Tryd.t58, Tryd.type58, rfl, rfl, rfl, rfl, by simp [Value.cells, Value.oneCell']⟩
instance Tryd.agf59 : AgF Tryd.prog 59 false := ⟨Tryd.isAgg59⟩
instance Tryd.elf59 : ElF Tryd.prog 59 (.nilFunc) 1 8 := ⟨Tryd.t59, Tryd.type59, rfl, rfl, rfl, rfl, by simp [Value.cells, Value.oneCell']⟩
instance Tryd.agf60 : AgF Tryd.prog 60 false := ⟨Tryd.isAgg60⟩
instance Tryd.elf60 : ElF Tryd.prog 60 (.nilFunc) 1 8 := ⟨Tryd.t60, Tryd.type60, rfl, rfl, rfl, rfl, by simp [Value.cells, Value.oneCell']⟩
instance Tryd.und61 : Und Tryd.prog 61 (.map 23 3) := ⟨Tryd.underlying61⟩
instance Tryd.agf61 : AgF Tryd.prog 61 false := ⟨Tryd.isAgg61⟩
instance Tryd.elf61 : ElF Tryd.prog 61 (.map none) 1 8 := ⟨Tryd.t61, Tryd.type61, rfl, rfl, rfl, rfl, by simp [Value.cells, Value.oneCell']⟩
instance Tryd.agf62 : AgF Tryd.prog 62 true := ⟨Tryd.isAgg62⟩
instance Tryd.elf62 : ElF Tryd.prog 62 (.agg #[.slice none 0 0, .map none]) 2 32 := ⟨Tryd.t62, Tryd.type62, rfl, rfl, rfl, rfl, by simp [Value.cells, Value.oneCell']⟩
instance Tryd.fld62_0 : FldF Tryd.prog 62 0 0 1 false := ⟨_, _, Tryd.underlying62, rfl, rfl, by decide, fun w => ElF.size (e := Tryd.elf37) w, fun w => Tryd.isAgg37 w⟩
instance Tryd.fld62_1 : FldF Tryd.prog 62 1 1 1 false := ⟨_, _, Tryd.underlying62, rfl, rfl, by decide, fun w => ElF.size (e := Tryd.elf61) w, fun w => Tryd.isAgg61 w⟩
instance Tryd.agf63 : AgF Tryd.prog 63 true := ⟨Tryd.isAgg63⟩
instance Tryd.elf63 : ElF Tryd.prog 63 (.agg #[.slice none 0 0, .map none]) 2 32 := ⟨Tryd.t63, Tryd.type63, rfl, rfl, rfl, rfl, by simp [Value.cells, Value.oneCell']⟩
instance Tryd.fld63_0 : FldF Tryd.prog 63 0 0 1 false := ⟨_, _, Tryd.underlying63, rfl, rfl, by decide, fun w => ElF.size (e := Tryd.elf37) w, fun w => Tryd.isAgg37 w⟩
instance Tryd.fld63_1 : FldF Tryd.prog 63 1 1 1 false := ⟨_, _, Tryd.underlying63, rfl, rfl, by decide, fun w => ElF.size (e := Tryd.elf61) w, fun w => Tryd.isAgg61 w⟩
instance Tryd.agf64 : AgF Tryd.prog 64 false := ⟨Tryd.isAgg64⟩
instance Tryd.elf64 : ElF Tryd.prog 64 (.nilFunc) 1 8 := ⟨Tryd.t64, Tryd.type64, rfl, rfl, rfl, rfl, by simp [Value.cells, Value.oneCell']⟩
instance Tryd.agf65 : AgF Tryd.prog 65 true := ⟨Tryd.isAgg65⟩
instance Tryd.elf65 : ElF Tryd.prog 65 (.agg #[.slice none 0 0]) 1 24 := ⟨Tryd.t65, Tryd.type65, rfl, rfl, rfl, rfl, by simp [Value.cells, Value.oneCell']⟩
instance Tryd.fld65_0 : FldF Tryd.prog 65 0 0 1 false := ⟨_, _, Tryd.underlying65, rfl, rfl, by decide, fun w => ElF.size (e := Tryd.elf37) w, fun w => Tryd.isAgg37 w⟩
instance Tryd.agf66 : AgF Tryd.prog 66 true := ⟨Tryd.isAgg66⟩
instance Tryd.elf66 : ElF Tryd.prog 66 (.agg #[.slice none 0 0]) 1 24 := ⟨Tryd.t66, Tryd.type66, rfl, rfl, rfl, rfl, by simp [Value.cells, Value.oneCell']⟩
instance Tryd.fld66_0 : FldF Tryd.prog 66 0 0 1 false := ⟨_, _, Tryd.underlying66, rfl, rfl, by decide, fun w => ElF.size (e := Tryd.elf37) w, fun w => Tryd.isAgg37 w⟩
instance Tryd.agf67 : AgF Tryd.prog 67 false := ⟨Tryd.isAgg67⟩
instance Tryd.elf67 : ElF Tryd.prog 67 (.nilFunc) 1 8 := ⟨Tryd.t67, Tryd.type67, rfl, rfl, rfl, rfl, by simp [Value.cells, Value.oneCell']⟩
instance Tryd.agf68 : AgF Tryd.prog 68 false := ⟨Tryd.isAgg68⟩
instance Tryd.elf68 : ElF Tryd.prog 68 (.nilFunc) 1 8 := ⟨Tryd.t68, Tryd.type68, rfl, rfl, rfl, rfl, by simp [Value.cells, Value.oneCell']⟩
instance Tryd.und69 : Und Tryd.prog 69 (.slice 9) := ⟨Tryd.underlying69⟩
instance Tryd.agf69 : AgF Tryd.prog 69 false := ⟨Tryd.isAgg69⟩
instance Tryd.elf69 : ElF Tryd.prog 69 (.slice none 0 0) 1 24 := ⟨Tryd.t69, Tryd.type69, rfl, rfl, rfl, rfl, by simp [Value.cells, Value.oneCell']⟩
instance Tryd.agf70 : AgF Tryd.prog 70 false := ⟨Tryd.isAgg70⟩
instance Tryd.elf70 : ElF Tryd.prog 70 (.nilFunc) 1 8 := ⟨Tryd.t70, Tryd.type70, rfl, rfl, rfl, rfl, by simp [Value.cells, Value.oneCell']⟩
instance Tryd.agf71 : AgF Tryd.prog 71 false := ⟨Tryd.isAgg71⟩
instance Tryd.elf71 : ElF Tryd.prog 71 (.nilFunc) 1 8 := ⟨Tryd.t71, Tryd.type71, rfl, rfl, rfl, rfl, by simp [Value.cells, Value.oneCell']⟩
instance Tryd.agf72 : AgF Tryd.prog 72 false := ⟨Tryd.isAgg72⟩
instance Tryd.elf72 : ElF Tryd.prog 72 (.nilFunc) 1 8 := ⟨Tryd.t72, Tryd.type72, rfl, rfl, rfl, rfl, by simp [Value.cells, Value.oneCell']⟩
instance Tryd.agf73 : AgF Tryd.prog 73 false := ⟨Tryd.isAgg73⟩
instance Tryd.elf73 : ElF Tryd.prog 73 (.nilFunc) 1 8 := ⟨Tryd.t73, Tryd.type73, rfl, rfl, rfl, rfl, by simp [Value.cells, Value.oneCell']⟩
instance Tryd.agf74 : AgF Tryd.prog 74 false := ⟨Tryd.isAgg74⟩
instance Tryd.elf74 : ElF Tryd.prog 74 (.nilFunc) 1 8 := ⟨Tryd.t74, Tryd.type74, rfl, rfl, rfl, rfl, by simp [Value.cells, Value.oneCell']⟩
instance Tryd.und75 : Und Tryd.prog 75 (.array 24 5) := ⟨Tryd.underlying75⟩
instance Tryd.agf75 : AgF Tryd.prog 75 true := ⟨Tryd.isAgg75⟩
instance Tryd.elf75 : ElF Tryd.prog 75 (.agg #[.int .u8 0, .int .u8 0, .int .u8 0, .int .u8 0, .int .u8 0, .int .u8 0, .int .u8 0, .int .u8 0, .int .u8 0, .int .u8 0, .int .u8 0, .int .u8 0, .int .u8 0, .int .u8 0, .int .u8 0, .int .u8 0, .int .u8 0, .int .u8 0, .int .u8 0, .int .u8 0, .int .u8 0, .int .u8 0, .int .u8 0, .int .u8 0]) 24 24 := ⟨Tryd.t75, Tryd.type75, rfl, rfl, rfl, rfl, by simp [Value.cells, Value.oneCell']⟩
instance Tryd.und76 : Und Tryd.prog 76 (.int .u64) := ⟨Tryd.underlying76⟩
instance Tryd.agf76 : AgF Tryd.prog 76 false := ⟨Tryd.isAgg76⟩
instance Tryd.elf76 : ElF Tryd.prog 76 (.int .u64 0) 1 8 := ⟨Tryd.t76, Tryd.type76, rfl, rfl, rfl, rfl, by simp [Value.cells, Value.oneCell']⟩
instance Tryd.agf77 : AgF Tryd.prog 77 false := ⟨Tryd.isAgg77⟩
instance Tryd.elf77 : ElF Tryd.prog 77 (.nilFunc) 1 8 := ⟨Tryd.t77, Tryd.type77, rfl, rfl, rfl, rfl, by simp [Value.cells, Value.oneCell']⟩
instance Tryd.agf78 : AgF Tryd.prog 78 false := ⟨Tryd.isAgg78⟩
instance Tryd.elf78 : ElF Tryd.prog 78 (.nilFunc) 1 8 := ⟨Tryd.t78, Tryd.type78, rfl, rfl, rfl, rfl, by simp [Value.cells, Value.oneCell']⟩
instance Tryd.agf80 : AgF Tryd.prog 80 false := ⟨Tryd.isAgg80⟩
instance Tryd.elf80 : ElF Tryd.prog 80 (.nilFunc) 1 8 := ⟨Tryd.t80, Tryd.type80, rfl, rfl, rfl, rfl, by simp [Value.cells, Value.oneCell']⟩
instance Tryd.und81 : Und Tryd.prog 81 (.int .u32) := ⟨Tryd.underlying81⟩
instance Tryd.agf81 : AgF Tryd.prog 81 false := ⟨Tryd.isAgg81⟩
instance Tryd.elf81 : ElF Tryd.prog 81 (.int .u32 0) 1 4 := ⟨Tryd.t81, Tryd.type81, rfl, rfl, rfl, rfl, by simp [Value.cells, Value.oneCell']⟩
instance Tryd.agf83 : AgF Tryd.prog 83 false := ⟨Tryd.isAgg83⟩
instance Tryd.elf83 : ElF Tryd.prog 83 (.nilFunc) 1 8 := ⟨Tryd.t83, Tryd.type83, rfl, rfl, rfl, rfl, by simp [Value.cells, Value.oneCell']⟩
instance Tryd.agf84 : AgF Tryd.prog 84 false := ⟨Tryd.isAgg84⟩
instance Tryd.elf84 : ElF Tryd.prog 84 (.nilFunc) 1 8 := ⟨Tryd.t84, Tryd.type84, rfl, rfl, rfl, rfl, by simp [Value.cells, Value.oneCell']⟩
instance Tryd.agf85 : AgF Tryd.prog 85 false := ⟨Tryd.isAgg85⟩
instance Tryd.elf85 : ElF Tryd.prog 85 (.nilFunc) 1 8 := ⟨Tryd.t85, Tryd.type85, rfl, rfl, rfl, rfl, by simp [Value.cells, Value.oneCell']⟩
instance Tryd.und86 : Und Tryd.prog 86 (.array 20 76) := ⟨Tryd.underlying86⟩
instance Tryd.agf86 : AgF Tryd.prog 86 true := ⟨Tryd.isAgg86⟩
instance Tryd.elf86 : ElF Tryd.prog 86 (.agg #[.int .u64 0, .int .u64 0, .int .u64 0, .int .u64 0, .int .u64 0, .int .u64 0, .int .u64 0, .int .u64 0, .int .u64 0, .int .u64 0, .int .u64 0, .int .u64 0, .int .u64 0, .int .u64 0, .int .u64 0, .int .u64 0, .int .u64 0, .int .u64 0, .int .u64 0, .int .u64 0]) 20 160 := ⟨Tryd.t86, Tryd.type86, rfl, rfl, rfl, rfl, by simp [Value.cells, Value.oneCell']⟩
instance Tryd.und87 : Und Tryd.prog 87 (.array 65 5) := ⟨Tryd.underlying87⟩
instance Tryd.agf87 : AgF Tryd.prog 87 true := ⟨Tryd.isAgg87⟩
instance Tryd.elf87 : ElF Tryd.prog 87 (.agg #[.int .u8 0, .int .u8 0, .int .u8 0, .int .u8 0, .int .u8 0, .int .u8 0, .int .u8 0, .int .u8 0, .int .u8 0, .int .u8 0, .int .u8 0, .int .u8 0, .int .u8 0, .int .u8 0, .int .u8 0, .int .u8 0, .int .u8 0, .int .u8 0, .int .u8 0, .int .u8 0, .int .u8 0, .int .u8 0, .int .u8 0, .int .u8 0, .int .u8 0, .int .u8 0, .int .u8 0, .int .u8 0, .int .u8 0, .int .u8 0, .int .u8 0, .int .u8 0, .int .u8 0, .int .u8 0, .int .u8 0, .int .u8 0, .int .u8 0, .int .u8 0, .int .u8 0, .int .u8 0, .int .u8 0, .int .u8 0, .int .u8 0, .int .u8 0, .int .u8 0, .int .u8 0, .int .u8 0, .int .u8 0, .int .u8 0, .int .u8 0, .int .u8 0, .int .u8 0, .int .u8 0, .int .u8 0, .int .u8 0, .int .u8 0, .int .u8 0, .int .u8 0, .int .u8 0, .int .u8 0, .int .u8 0, .int .u8 0, .int .u8 0, .int .u8 0, .int .u8 0]) 65 65 := ⟨Tryd.t87, Tryd.type87, rfl, rfl, rfl, rfl, by simp [Value.cells, Value.oneCell']⟩
instance Tryd.agf88 : AgF Tryd.prog 88 false := ⟨Tryd.isAgg88⟩
instance Tryd.elf88 : ElF Tryd.prog 88 (.nilFunc) 1 8 := ⟨Tryd.t88, Tryd.type88, rfl, rfl, rfl, rfl, by simp [Value.cells, Value.oneCell']⟩
instance Tryd.agf89 : AgF Tryd.prog 89 false := ⟨Tryd.isAgg89⟩
instance Tryd.elf89 : ElF Tryd.prog 89 (.nilFunc) 1 8 := ⟨Tryd.t89, Tryd.type89, rfl, rfl, rfl, rfl, by simp [Value.cells, Value.oneCell']⟩
instance Tryd.agf91 : AgF Tryd.prog 91 false := ⟨Tryd.isAgg91⟩
instance Tryd.elf91 : ElF Tryd.prog 91 (.nilFunc) 1 8 := ⟨Tryd.t91, Tryd.type91, rfl, rfl, rfl, rfl, by simp [Value.cells, Value.oneCell']⟩
instance Tryd.agf92 : AgF Tryd.prog 92 false := ⟨Tryd.isAgg92⟩
instance Tryd.elf92 : ElF Tryd.prog 92 (.nilFunc) 1 8 := ⟨Tryd.t92, Tryd.type92, rfl, rfl, rfl, rfl, by simp [Value.cells, Value.oneCell']⟩
instance Tryd.und93 : Und Tryd.prog 93 (.array 32 5) := ⟨Tryd.underlying93⟩
instance Tryd.agf93 : AgF Tryd.prog 93 true := ⟨Tryd.isAgg93⟩
instance Tryd.elf93 : ElF Tryd.prog 93 (.agg #[.int .u8 0, .int .u8 0, .int .u8 0, .int .u8 0, .int .u8 0, .int .u8 0, .int .u8 0, .int .u8 0, .int .u8 0, .int .u8 0, .int .u8 0, .int .u8 0, .int .u8 0, .int .u8 0, .int .u8 0, .int .u8 0, .int .u8 0, .int .u8 0, .int .u8 0, .int .u8 0, .int .u8 0, .int .u8 0, .int .u8 0, .int .u8 0, .int .u8 0, .int .u8 0, .int .u8 0, .int .u8 0, .int .u8 0, .int .u8 0, .int .u8 0, .int .u8 0]) 32 32 := ⟨Tryd.t93, Tryd.type93, rfl, rfl, rfl, rfl, by simp [Value.cells, Value.oneCell']⟩
instance Tryd.und94 : Und Tryd.prog 94 (.array 64 5) := ⟨Tryd.underlying94⟩
instance Tryd.agf94 : AgF Tryd.prog 94 true := ⟨Tryd.isAgg94⟩
instance Tryd.elf94 : ElF Tryd.prog 94 (.agg #[.int .u8 0, .int .u8 0, .int .u8 0, .int .u8 0, .int .u8 0, .int .u8 0, .int .u8 0, .int .u8 0, .int .u8 0, .int .u8 0, .int .u8 0, .int .u8 0, .int .u8 0, .int .u8 0, .int .u8 0, .int .u8 0, .int .u8 0, .int .u8 0, .int .u8 0, .int .u8 0, .int .u8 0, .int .u8 0, .int .u8 0, .int .u8 0, .int .u8 0, .int .u8 0, .int .u8 0, .int .u8 0, .int .u8 0, .int .u8 0, .int .u8 0, .int .u8 0, .int .u8 0, .int .u8 0, .int .u8 0, .int .u8 0, .int .u8 0, .int .u8 0, .int .u8 0, .int .u8 0, .int .u8 0, .int .u8 0, .int .u8 0, .int .u8 0, .int .u8 0, .int .u8 0, .int .u8 0, .int .u8 0, .int .u8 0, .int .u8 0, .int .u8 0, .int .u8 0, .int .u8 0, .int .u8 0, .int .u8 0, .int .u8 0, .int .u8 0, .int .u8 0, .int .u8 0, .int .u8 0, .int .u8 0, .int .u8 0, .int .u8 0, .int .u8 0]) 64 64 := ⟨Tryd.t94, Tryd.type94, rfl, rfl, rfl, rfl, by simp [Value.cells, Value.oneCell']⟩
instance Tryd.und95 : Und Tryd.prog 95 (.array 256 5) := ⟨Tryd.underlying95⟩
instance Tryd.agf95 : AgF Tryd.prog 95 true := ⟨Tryd.isAgg95⟩
instance Tryd.elf95 : ElF Tryd.prog 95 (.agg (Array.replicate 256 (.int .u8 0))) 256 256 := ⟨Tryd.t95, Tryd.type95, by kernel_rfl, by kernel_rfl, by kernel_rfl, by kernel_rfl, by kernel_rfl⟩
instance Tryd.agf96 : AgF Tryd.prog 96 true := ⟨Tryd.isAgg96⟩
instance Tryd.elf96 : ElF Tryd.prog 96 (.agg #[.int .u8 0, .int .u8 0]) 2 2 := ⟨Tryd.t96, Tryd.type96, rfl, rfl, rfl, rfl, by simp [Value.cells, Value.oneCell']⟩
instance Tryd.fld96_0 : FldF Tryd.prog 96 0 0 1 false := ⟨_, _, Tryd.underlying96, rfl, rfl, by decide, fun w => ElF.size (e := Tryd.elf5) w, fun w => Tryd.isAgg5 w⟩
instance Tryd.fld96_1 : FldF Tryd.prog 96 1 1 1 false := ⟨_, _, Tryd.underlying96, rfl, rfl, by decide, fun w => ElF.size (e := Tryd.elf5) w, fun w => Tryd.isAgg5 w⟩
instance Tryd.agf97 : AgF Tryd.prog 97 true := ⟨Tryd.isAgg97⟩
instance Tryd.elf97 : ElF Tryd.prog 97 (.agg #[.int .u8 0, .int .u8 0]) 2 2 := ⟨Tryd.t97, Tryd.type97, rfl, rfl, rfl, rfl, by simp [Value.cells, Value.oneCell']⟩
instance Tryd.fld97_0 : FldF Tryd.prog 97 0 0 1 false := ⟨_, _, Tryd.underlying97, rfl, rfl, by decide, fun w => ElF.size (e := Tryd.elf5) w, fun w => Tryd.isAgg5 w⟩
instance Tryd.fld97_1 : FldF Tryd.prog 97 1 1 1 false := ⟨_, _, Tryd.underlying97, rfl, rfl, by decide, fun w => ElF.size (e := Tryd.elf5) w, fun w => Tryd.isAgg5 w⟩
instance Tryd.und98 : Und Tryd.prog 98 (.array 16 97) := ⟨Tryd.underlying98⟩
instance Tryd.agf98 : AgF Tryd.prog 98 true := ⟨Tryd.isAgg98⟩
instance Tryd.elf98 : ElF Tryd.prog 98 (.agg #[.int .u8 0, .int .u8 0, .int .u8 0, .int .u8 0, .int .u8 0, .int .u8 0, .int .u8 0, .int .u8 0, .int .u8 0, .int .u8 0, .int .u8 0, .int .u8 0, .int .u8 0, .int .u8 0, .int .u8 0, .int .u8 0, .int .u8 0, .int .u8 0, .int .u8 0, .int .u8 0, .int .u8 0, .int .u8 0, .int .u8 0, .int .u8 0, .int .u8 0, .int .u8 0, .int .u8 0, .int .u8 0, .int .u8 0, .int .u8 0, .int .u8 0, .int .u8 0]) 32 32 := ⟨Tryd.t98, Tryd.type98, rfl, rfl, rfl, rfl, by simp [Value.cells, Value.oneCell']⟩
instance Tryd.agf99 : AgF Tryd.prog 99 false := ⟨Tryd.isAgg99⟩
instance Tryd.elf99 : ElF Tryd.prog 99 (.nilFunc) 1 8 := ⟨Tryd.t99, Tryd.type99, rfl, rfl, rfl, rfl, by simp [Value.cells, Value.oneCell']⟩
instance Tryd.agf100 : AgF Tryd.prog 100 true := ⟨Tryd.isAgg100⟩
instance Tryd.elf100 : ElF Tryd.prog 100 (.agg #[.pointer none, .pointer none, .pointer none, .string ⟨#[]⟩]) 4 40 := ⟨Tryd.t100, Tryd.type100, rfl, rfl, rfl, rfl, by simp [Value.cells, Value.oneCell']⟩
instance Tryd.fld100_0 : FldF Tryd.prog 100 0 0 1 false := ⟨_, _, Tryd.underlying100, rfl, rfl, by decide, fun w => ElF.size (e := Tryd.elf17) w, fun w => Tryd.isAgg17 w⟩
instance Tryd.fld100_1 : FldF Tryd.prog 100 1 1 1 false := ⟨_, _, Tryd.underlying100, rfl, rfl, by decide, fun w => ElF.size (e := Tryd.elf17) w, fun w => Tryd.isAgg17 w⟩
instance Tryd.fld100_2 : FldF Tryd.prog 100 2 2 1 false := ⟨_, _, Tryd.underlying100, rfl, rfl, by decide, fun w => ElF.size (e := Tryd.elf17) w, fun w => Tryd.isAgg17 w⟩
instance Tryd.fld100_3 : FldF Tryd.prog 100 3 3 1 false := ⟨_, _, Tryd.underlying100, rfl, rfl, by decide, fun w => ElF.size (e := Tryd.elf9) w, fun w => Tryd.isAgg9 w⟩
instance Tryd.agf101 : AgF Tryd.prog 101 true := ⟨Tryd.isAgg101⟩
instance Tryd.elf101 : ElF Tryd.prog 101 (.agg #[.pointer none, .pointer none, .pointer none, .string ⟨#[]⟩]) 4 40 := ⟨Tryd.t101, Tryd.type101, rfl, rfl, rfl, rfl, by simp [Value.cells, Value.oneCell']⟩
instance Tryd.fld101_0 : FldF Tryd.prog 101 0 0 1 false := ⟨_, _, Tryd.underlying101, rfl, rfl, by decide, fun w => ElF.size (e := Tryd.elf17) w, fun w => Tryd.isAgg17 w⟩
instance Tryd.fld101_1 : FldF Tryd.prog 101 1 1 1 false := ⟨_, _, Tryd.underlying101, rfl, rfl, by decide, fun w => ElF.size (e := Tryd.elf17) w, fun w => Tryd.isAgg17 w⟩
instance Tryd.fld101_2 : FldF Tryd.prog 101 2 2 1 false := ⟨_, _, Tryd.underlying101, rfl, rfl, by decide, fun w => ElF.size (e := Tryd.elf17) w, fun w => Tryd.isAgg17 w⟩
instance Tryd.fld101_3 : FldF Tryd.prog 101 3 3 1 false := ⟨_, _, Tryd.underlying101, rfl, rfl, by decide, fun w => ElF.size (e := Tryd.elf9) w, fun w => Tryd.isAgg9 w⟩
instance Tryd.und102 : Und Tryd.prog 102 (.array 0 16) := ⟨Tryd.underlying102⟩
instance Tryd.agf102 : AgF Tryd.prog 102 true := ⟨Tryd.isAgg102⟩
instance Tryd.agf103 : AgF Tryd.prog 103 true := ⟨Tryd.isAgg103⟩
instance Tryd.agf104 : AgF Tryd.prog 104 true := ⟨Tryd.isAgg104⟩
instance Tryd.agf105 : AgF Tryd.prog 105 false := ⟨Tryd.isAgg105⟩
instance Tryd.elf105 : ElF Tryd.prog 105 (.nilFunc) 1 8 := ⟨Tryd.t105, Tryd.type105, rfl, rfl, rfl, rfl, by simp [Value.cells, Value.oneCell']⟩
instance Tryd.und106 : Und Tryd.prog 106 (.int .u8) := ⟨Tryd.underlying106⟩
instance Tryd.agf106 : AgF Tryd.prog 106 false := ⟨Tryd.isAgg106⟩
instance Tryd.elf106 : ElF Tryd.prog 106 (.int .u8 0) 1 1 := ⟨Tryd.t106, Tryd.type106, rfl, rfl, rfl, rfl, by simp [Value.cells, Value.oneCell']⟩
instance Tryd.und107 : Und Tryd.prog 107 (.int .u8) := ⟨Tryd.underlying107⟩
instance Tryd.agf107 : AgF Tryd.prog 107 false := ⟨Tryd.isAgg107⟩
instance Tryd.elf107 : ElF Tryd.prog 107 (.int .u8 0) 1 1 := ⟨Tryd.t107, Tryd.type107, rfl, rfl, rfl, rfl, by simp [Value.cells, Value.oneCell']⟩
instance Tryd.agf108 : AgF Tryd.prog 108 false := ⟨Tryd.isAgg108⟩
instance Tryd.elf108 : ElF Tryd.prog 108 (.nilFunc) 1 8 := ⟨Tryd.t108, Tryd.type108, rfl, rfl, rfl, rfl, by simp [Value.cells, Value.oneCell']⟩
instance Tryd.und109 : Und Tryd.prog 109 (.pointer 5) := ⟨Tryd.underlying109⟩
instance Tryd.agf109 : AgF Tryd.prog 109 false := ⟨Tryd.isAgg109⟩
instance Tryd.elf109 : ElF Tryd.prog 109 (.pointer none) 1 8 := ⟨Tryd.t109, Tryd.type109, rfl, rfl, rfl, rfl, by simp [Value.cells, Value.oneCell']⟩
instance Tryd.und110 : Und Tryd.prog 110 (.int .i32) := ⟨Tryd.underlying110⟩
instance Tryd.agf110 : AgF Tryd.prog 110 false := ⟨Tryd.isAgg110⟩
instance Tryd.elf110 : ElF Tryd.prog 110 (.int .i32 0) 1 4 := ⟨Tryd.t110, Tryd.type110, rfl, rfl, rfl, rfl, by simp [Value.cells, Value.oneCell']⟩
instance Tryd.und111 : Und Tryd.prog 111 (.int .i32) := ⟨Tryd.underlying111⟩
instance Tryd.agf111 : AgF Tryd.prog 111 false := ⟨Tryd.isAgg111⟩
instance Tryd.elf111 : ElF Tryd.prog 111 (.int .i32 0) 1 4 := ⟨Tryd.t111, Tryd.type111, rfl, rfl, rfl, rfl, by simp [Value.cells, Value.oneCell']⟩
instance Tryd.agf112 : AgF Tryd.prog 112 true := ⟨Tryd.isAgg112⟩
instance Tryd.elf112 : ElF Tryd.prog 112 (.agg #[.int .u64 0, .int .u64 0, .int .u32 0, .int .u8 0, .int .u8 0, .int .u8 0, .int .u8 0, .nilFunc, .pointer none, .int .i32 0, .int .i32 0]) 11 48 := ⟨Tryd.t112, Tryd.type112, rfl, rfl, rfl, rfl, by simp [Value.cells, Value.oneCell']⟩
instance Tryd.fld112_0 : FldF Tryd.prog 112 0 0 1 false := ⟨_, _, Tryd.underlying112, rfl, rfl, by decide, fun w => ElF.size (e := Tryd.elf12) w, fun w => Tryd.isAgg12 w⟩
instance Tryd.fld112_1 : FldF Tryd.prog 112 1 1 1 false := ⟨_, _, Tryd.underlying112, rfl, rfl, by decide, fun w => ElF.size (e := Tryd.elf12) w, fun w => Tryd.isAgg12 w⟩
instance Tryd.fld112_2 : FldF Tryd.prog 112 2 2 1 false := ⟨_, _, Tryd.underlying112, rfl, rfl, by decide, fun w => ElF.size (e := Tryd.elf81) w, fun w => Tryd.isAgg81 w⟩
instance Tryd.fld112_3 : FldF Tryd.prog 112 3 3 1 false := ⟨_, _, Tryd.underlying112, rfl, rfl, by decide, fun w => ElF.size (e := Tryd.elf106) w, fun w => Tryd.isAgg106 w⟩
instance Tryd.fld112_4 : FldF Tryd.prog 112 4 4 1 false := ⟨_, _, Tryd.underlying112, rfl, rfl, by decide, fun w => ElF.size (e := Tryd.elf5) w, fun w => Tryd.isAgg5 w⟩
instance Tryd.fld112_5 : FldF Tryd.prog 112 5 5 1 false := ⟨_, _, Tryd.underlying112, rfl, rfl, by decide, fun w => ElF.size (e := Tryd.elf5) w, fun w => Tryd.isAgg5 w⟩
instance Tryd.fld112_6 : FldF Tryd.prog 112 6 6 1 false := ⟨_, _, Tryd.underlying112, rfl, rfl, by decide, fun w => ElF.size (e := Tryd.elf107) w, fun w => Tryd.isAgg107 w⟩
instance Tryd.fld112_7 : FldF Tryd.prog 112 7 7 1 false := ⟨_, _, Tryd.underlying112, rfl, rfl, by decide, fun w => ElF.size (e := Tryd.elf108) w, fun w => Tryd.isAgg108 w⟩
instance Tryd.fld112_8 : FldF Tryd.prog 112 8 8 1 false := ⟨_, _, Tryd.underlying112, rfl, rfl, by decide, fun w => ElF.size (e := Tryd.elf109) w, fun w => Tryd.isAgg109 w⟩
instance Tryd.fld112_9 : FldF Tryd.prog 112 9 9 1 false := ⟨_, _, Tryd.underlying112, rfl, rfl, by decide, fun w => ElF.size (e := Tryd.elf110) w, fun w => Tryd.isAgg110 w⟩
instance Tryd.fld112_10 : FldF Tryd.prog 112 10 10 1 false := ⟨_, _, Tryd.underlying112, rfl, rfl, by decide, fun w => ElF.size (e := Tryd.elf111) w, fun w => Tryd.isAgg111 w⟩
instance Tryd.agf113 : AgF Tryd.prog 113 true := ⟨Tryd.isAgg113⟩
instance Tryd.elf113 : ElF Tryd.prog 113 (.agg #[.int .u64 0, .int .u64 0, .int .u32 0, .int .u8 0, .int .u8 0, .int .u8 0, .int .u8 0, .nilFunc, .pointer none, .int .i32 0, .int .i32 0]) 11 48 := ⟨Tryd.t113, Tryd.type113, rfl, rfl, rfl, rfl, by simp [Value.cells, Value.oneCell']⟩
instance Tryd.fld113_0 : FldF Tryd.prog 113 0 0 1 false := ⟨_, _, Tryd.underlying113, rfl, rfl, by decide, fun w => ElF.size (e := Tryd.elf12) w, fun w => Tryd.isAgg12 w⟩
instance Tryd.fld113_1 : FldF Tryd.prog 113 1 1 1 false := ⟨_, _, Tryd.underlying113, rfl, rfl, by decide, fun w => ElF.size (e := Tryd.elf12) w, fun w => Tryd.isAgg12 w⟩
instance Tryd.fld113_2 : FldF Tryd.prog 113 2 2 1 false := ⟨_, _, Tryd.underlying113, rfl, rfl, by decide, fun w => ElF.size (e := Tryd.elf81) w, fun w => Tryd.isAgg81 w⟩
instance Tryd.fld113_3 : FldF Tryd.prog 113 3 3 1 false := ⟨_, _, Tryd.underlying113, rfl, rfl, by decide, fun w => ElF.size (e := Tryd.elf106) w, fun w => Tryd.isAgg106 w⟩
instance Tryd.fld113_4 : FldF Tryd.prog 113 4 4 1 false := ⟨_, _, Tryd.underlying113, rfl, rfl, by decide, fun w => ElF.size (e := Tryd.elf5) w, fun w => Tryd.isAgg5 w⟩
instance Tryd.fld113_5 : FldF Tryd.prog 113 5 5 1 false := ⟨_, _, Tryd.underlying113, rfl, rfl, by decide, fun w => ElF.size (e := Tryd.elf5) w, fun w => Tryd.isAgg5 w⟩
instance Tryd.fld113_6 : FldF Tryd.prog 113 6 6 1 false := ⟨_, _, Tryd.underlying113, rfl, rfl, by decide, fun w => ElF.size (e := Tryd.elf107) w, fun w => Tryd.isAgg107 w⟩
instance Tryd.fld113_7 : FldF Tryd.prog 113 7 7 1 false := ⟨_, _, Tryd.underlying113, rfl, rfl, by decide, fun w => ElF.size (e := Tryd.elf108) w, fun w => Tryd.isAgg108 w⟩
instance Tryd.fld113_8 : FldF Tryd.prog 113 8 8 1 false := ⟨_, _, Tryd.underlying113, rfl, rfl, by decide, fun w => ElF.size (e := Tryd.elf109) w, fun w => Tryd.isAgg109 w⟩
instance Tryd.fld113_9 : FldF Tryd.prog 113 9 9 1 false := ⟨_, _, Tryd.underlying113, rfl, rfl, by decide, fun w => ElF.size (e := Tryd.elf110) w, fun w => Tryd.isAgg110 w⟩
instance Tryd.fld113_10 : FldF Tryd.prog 113 10 10 1 false := ⟨_, _, Tryd.underlying113, rfl, rfl, by decide, fun w => ElF.size (e := Tryd.elf111) w, fun w => Tryd.isAgg111 w⟩
instance Tryd.agf114 : AgF Tryd.prog 114 false := ⟨Tryd.isAgg114⟩
instance Tryd.elf114 : ElF Tryd.prog 114 (.pointer none) 1 8 := ⟨Tryd.t114, Tryd.type114, rfl, rfl, rfl, rfl, by simp [Value.cells, Value.oneCell']⟩
instance Tryd.str7 : StrF Tryd.prog 7 (.agg #[.int .i64 0, .int .i64 0, .bool false, .int .u8 0]) [(0, 1), (1, 1), (2, 1), (3, 1)] := ⟨Tryd.zeroValue7, _, Tryd.underlying7, fun w => by simp [ElF.size (e := Tryd.elf2), ElF.size (e := Tryd.elf3), ElF.size (e := Tryd.elf4), ElF.size (e := Tryd.elf6)]⟩
instance Tryd.str8 : StrF Tryd.prog 8 (.agg #[.int .i64 0, .int .i64 0, .bool false, .int .u8 0]) [(0, 1), (1, 1), (2, 1), (3, 1)] := ⟨Tryd.zeroValue8, _, Tryd.underlying8, fun w => by simp [ElF.size (e := Tryd.elf2), ElF.size (e := Tryd.elf3), ElF.size (e := Tryd.elf4), ElF.size (e := Tryd.elf6)]⟩
instance Tryd.str13 : StrF Tryd.prog 13 (.agg #[.string ⟨#[]⟩, .int .u64 0]) [(0, 1), (1, 1)] := ⟨Tryd.zeroValue13, _, Tryd.underlying13, fun w => by simp [ElF.size (e := Tryd.elf9), ElF.size (e := Tryd.elf12)]⟩
instance Tryd.str14 : StrF Tryd.prog 14 (.agg #[.string ⟨#[]⟩, .int .u64 0]) [(0, 1), (1, 1)] := ⟨Tryd.zeroValue14, _, Tryd.underlying14, fun w => by simp [ElF.size (e := Tryd.elf9), ElF.size (e := Tryd.elf12)]⟩
instance Tryd.str18 : StrF Tryd.prog 18 (.agg #[.pointer none]) [(0, 1)] := ⟨Tryd.zeroValue18, _, Tryd.underlying18, fun w => by simp [ElF.size (e := Tryd.elf17)]⟩
instance Tryd.str19 : StrF Tryd.prog 19 (.agg #[.pointer none]) [(0, 1)] := ⟨Tryd.zeroValue19, _, Tryd.underlying19, fun w => by simp [ElF.size (e := Tryd.elf17)]⟩
instance Tryd.str22 : StrF Tryd.prog 22 (.agg #[.string ⟨#[]⟩, .string ⟨#[]⟩, .int .i64 0]) [(0, 1), (1, 1), (2, 1)] := ⟨Tryd.zeroValue22, _, Tryd.underlying22, fun w => by simp [ElF.size (e := Tryd.elf3), ElF.size (e := Tryd.elf9)]⟩
instance Tryd.str23 : StrF Tryd.prog 23 (.agg #[.string ⟨#[]⟩, .string ⟨#[]⟩, .int .i64 0]) [(0, 1), (1, 1), (2, 1)] := ⟨Tryd.zeroValue23, _, Tryd.underlying23, fun w => by simp [ElF.size (e := Tryd.elf3), ElF.size (e := Tryd.elf9)]⟩
instance Tryd.eqt23 : EqT Tryd.prog 23 [.str, .str, .int .i64] := ⟨by kernel_rfl, eqd_struct Tryd.underlying23 Tryd.stoodInHeld23 (eqf_cons (ks1 := [.str]) (ks2 := [.str, .int .i64]) (by kernel_rfl) rfl (eqd_str (t := 9)) Tryd.isAgg9 (fun w => ElF.size (e := Tryd.elf9) w) (fun _ => rfl) (eqf_cons (ks1 := [.str]) (ks2 := [.int .i64]) (by kernel_rfl) rfl (eqd_str (t := 9)) Tryd.isAgg9 (fun w => ElF.size (e := Tryd.elf9) w) (fun _ => rfl) (eqf_cons (ks1 := [.int .i64]) (ks2 := []) (by kernel_rfl) rfl (eqd_int (t := 3)) Tryd.isAgg3 (fun w => ElF.size (e := Tryd.elf3) w) (fun _ => rfl) eqf_nil)))⟩
instance Tryd.key23 : KeyF Tryd.prog 23 [.str, .str, .int .i64] := ⟨fun e us w h => chk_struct (n := 9999) Tryd.underlying23 (fun f hf => by simp only [List.mem_cons, List.not_mem_nil, or_false] at hf; rcases hf with rfl | rfl | rfl; exact chkd_str (t := 9) (fun w => Tryd.isAgg9 w); exact chkd_str (t := 9) (fun w => Tryd.isAgg9 w); exact chkd_int (t := 3) (fun w => Tryd.isAgg3 w)) e us (fun f hf => by have hl := fitsB_len h; simp only [List.length_cons, List.length_nil] at hl; simp only [List.mem_cons, List.not_mem_nil, or_false] at hf; rcases hf with rfl | rfl | rfl <;> (simp only; omega)) w, Tryd.eqt23.h, ⟨_, Tryd.underlying23⟩⟩
instance Tryd.str49 : StrF Tryd.prog 49 (.agg #[.string ⟨#[]⟩, .string ⟨#[]⟩]) [(0, 1), (1, 1)] := ⟨Tryd.zeroValue49, _, Tryd.underlying49, fun w => by simp [ElF.size (e := Tryd.elf9)]⟩
instance Tryd.str50 : StrF Tryd.prog 50 (.agg #[.string ⟨#[]⟩, .string ⟨#[]⟩]) [(0, 1), (1, 1)] := ⟨Tryd.zeroValue50, _, Tryd.underlying50, fun w => by simp [ElF.size (e := Tryd.elf9)]⟩
instance Tryd.eqt50 : EqT Tryd.prog 50 [.str, .str] := ⟨by kernel_rfl, eqd_struct Tryd.underlying50 Tryd.stoodInHeld50 (eqf_cons (ks1 := [.str]) (ks2 := [.str]) (by kernel_rfl) rfl (eqd_str (t := 9)) Tryd.isAgg9 (fun w => ElF.size (e := Tryd.elf9) w) (fun _ => rfl) (eqf_cons (ks1 := [.str]) (ks2 := []) (by kernel_rfl) rfl (eqd_str (t := 9)) Tryd.isAgg9 (fun w => ElF.size (e := Tryd.elf9) w) (fun _ => rfl) eqf_nil))⟩
instance Tryd.key50 : KeyF Tryd.prog 50 [.str, .str] := ⟨fun e us w h => chk_struct (n := 9999) Tryd.underlying50 (fun f hf => by simp only [List.mem_cons, List.not_mem_nil, or_false] at hf; rcases hf with rfl | rfl; exact chkd_str (t := 9) (fun w => Tryd.isAgg9 w); exact chkd_str (t := 9) (fun w => Tryd.isAgg9 w)) e us (fun f hf => by have hl := fitsB_len h; simp only [List.length_cons, List.length_nil] at hl; simp only [List.mem_cons, List.not_mem_nil, or_false] at hf; rcases hf with rfl | rfl <;> (simp only; omega)) w, Tryd.eqt50.h, ⟨_, Tryd.underlying50⟩⟩
instance Tryd.str62 : StrF Tryd.prog 62 (.agg #[.slice none 0 0, .map none]) [(0, 1), (1, 1)] := ⟨Tryd.zeroValue62, _, Tryd.underlying62, fun w => by simp [ElF.size (e := Tryd.elf37), ElF.size (e := Tryd.elf61)]⟩
instance Tryd.str63 : StrF Tryd.prog 63 (.agg #[.slice none 0 0, .map none]) [(0, 1), (1, 1)] := ⟨Tryd.zeroValue63, _, Tryd.underlying63, fun w => by simp [ElF.size (e := Tryd.elf37), ElF.size (e := Tryd.elf61)]⟩
instance Tryd.str65 : StrF Tryd.prog 65 (.agg #[.slice none 0 0]) [(0, 1)] := ⟨Tryd.zeroValue65, _, Tryd.underlying65, fun w => by simp [ElF.size (e := Tryd.elf37)]⟩
instance Tryd.str66 : StrF Tryd.prog 66 (.agg #[.slice none 0 0]) [(0, 1)] := ⟨Tryd.zeroValue66, _, Tryd.underlying66, fun w => by simp [ElF.size (e := Tryd.elf37)]⟩
instance Tryd.str96 : StrF Tryd.prog 96 (.agg #[.int .u8 0, .int .u8 0]) [(0, 1), (1, 1)] := ⟨Tryd.zeroValue96, _, Tryd.underlying96, fun w => by simp [ElF.size (e := Tryd.elf5)]⟩
instance Tryd.str97 : StrF Tryd.prog 97 (.agg #[.int .u8 0, .int .u8 0]) [(0, 1), (1, 1)] := ⟨Tryd.zeroValue97, _, Tryd.underlying97, fun w => by simp [ElF.size (e := Tryd.elf5)]⟩
instance Tryd.str100 : StrF Tryd.prog 100 (.agg #[.pointer none, .pointer none, .pointer none, .string ⟨#[]⟩]) [(0, 1), (1, 1), (2, 1), (3, 1)] := ⟨Tryd.zeroValue100, _, Tryd.underlying100, fun w => by simp [ElF.size (e := Tryd.elf9), ElF.size (e := Tryd.elf17)]⟩
instance Tryd.str101 : StrF Tryd.prog 101 (.agg #[.pointer none, .pointer none, .pointer none, .string ⟨#[]⟩]) [(0, 1), (1, 1), (2, 1), (3, 1)] := ⟨Tryd.zeroValue101, _, Tryd.underlying101, fun w => by simp [ElF.size (e := Tryd.elf9), ElF.size (e := Tryd.elf17)]⟩
instance Tryd.str112 : StrF Tryd.prog 112 (.agg #[.int .u64 0, .int .u64 0, .int .u32 0, .int .u8 0, .int .u8 0, .int .u8 0, .int .u8 0, .nilFunc, .pointer none, .int .i32 0, .int .i32 0]) [(0, 1), (1, 1), (2, 1), (3, 1), (4, 1), (5, 1), (6, 1), (7, 1), (8, 1), (9, 1), (10, 1)] := ⟨Tryd.zeroValue112, _, Tryd.underlying112, fun w => by simp [ElF.size (e := Tryd.elf5), ElF.size (e := Tryd.elf12), ElF.size (e := Tryd.elf81), ElF.size (e := Tryd.elf106), ElF.size (e := Tryd.elf107), ElF.size (e := Tryd.elf108), ElF.size (e := Tryd.elf109), ElF.size (e := Tryd.elf110), ElF.size (e := Tryd.elf111)]⟩
instance Tryd.str113 : StrF Tryd.prog 113 (.agg #[.int .u64 0, .int .u64 0, .int .u32 0, .int .u8 0, .int .u8 0, .int .u8 0, .int .u8 0, .nilFunc, .pointer none, .int .i32 0, .int .i32 0]) [(0, 1), (1, 1), (2, 1), (3, 1), (4, 1), (5, 1), (6, 1), (7, 1), (8, 1), (9, 1), (10, 1)] := ⟨Tryd.zeroValue113, _, Tryd.underlying113, fun w => by simp [ElF.size (e := Tryd.elf5), ElF.size (e := Tryd.elf12), ElF.size (e := Tryd.elf81), ElF.size (e := Tryd.elf106), ElF.size (e := Tryd.elf107), ElF.size (e := Tryd.elf108), ElF.size (e := Tryd.elf109), ElF.size (e := Tryd.elf110), ElF.size (e := Tryd.elf111)]⟩
instance Tryd.mix : Mix Tryd.prog := ⟨by kernel_rfl⟩
instance Tryd.ent2 : Ent Tryd.prog 2 := ent_of Tryd.func2 (by kernel_rfl) rfl -- gosem.cut.init
instance Tryd.ent3 : Ent Tryd.prog 3 := ent_of Tryd.func3 (by kernel_rfl) rfl -- herald/heraldlaw15.OriginParses
instance Tryd.ent4 : Ent Tryd.prog 4 := ent_of Tryd.func4 (by kernel_rfl) rfl -- herald/heraldlaw15.OriginPrints
instance Tryd.ent5 : Ent Tryd.prog 5 := ent_of Tryd.func5 (by kernel_rfl) rfl -- herald/heraldlaw15.OriginBack
instance Tryd.ent6 : Ent Tryd.prog 6 := ent_of Tryd.func6 (by kernel_rfl) rfl -- herald/heraldlaw15.OriginHas
instance Tryd.ent7 : Ent Tryd.prog 7 := ent_of Tryd.func7 (by kernel_rfl) rfl -- herald/heraldlaw15.OriginSets
instance Tryd.ent8 : Ent Tryd.prog 8 := ent_of Tryd.func8 (by kernel_rfl) rfl -- herald/heraldlaw15.OriginFull
instance Tryd.ent9 : Ent Tryd.prog 9 := ent_of Tryd.func9 (by kernel_rfl) rfl -- herald/origin.Parse
instance Tryd.ent10 : Ent Tryd.prog 10 := ent_of Tryd.func10 (by kernel_rfl) rfl -- herald/heraldref15.Parse
instance Tryd.ent11 : Ent Tryd.prog 11 := ent_of Tryd.func11 (by kernel_rfl) rfl -- herald/heraldlaw15.first
instance Tryd.ent12 : Ent Tryd.prog 12 := ent_of Tryd.func12 (by kernel_rfl) rfl -- herald/origin.Print
instance Tryd.ent13 : Ent Tryd.prog 13 := ent_of Tryd.func13 (by kernel_rfl) rfl -- herald/heraldref15.Print
instance Tryd.ent14 : Ent Tryd.prog 14 := ent_of Tryd.func14 (by kernel_rfl) rfl -- herald/heraldlaw15.Made
instance Tryd.ent15 : Ent Tryd.prog 15 := ent_of Tryd.func15 (by kernel_rfl) rfl -- herald/heraldlaw15.spelt
instance Tryd.ent16 : Ent Tryd.prog 16 := ent_of Tryd.func16 (by kernel_rfl) rfl -- herald/origin.Of
instance Tryd.ent17 : Ent Tryd.prog 17 := ent_of Tryd.func17 (by kernel_rfl) rfl -- (*herald/origin.Set).Has
instance Tryd.ent18 : Ent Tryd.prog 18 := ent_of Tryd.func18 (by kernel_rfl) rfl -- herald/heraldref15.Of
instance Tryd.ent19 : Ent Tryd.prog 19 := ent_of Tryd.func19 (by kernel_rfl) rfl -- herald/heraldlaw15.same
instance Tryd.ent20 : Ent Tryd.prog 20 := ent_of Tryd.func20 (by kernel_rfl) rfl -- (*herald/origin.Set).List
instance Tryd.ent21 : Ent Tryd.prog 21 := ent_of Tryd.func21 (by kernel_rfl) rfl -- (*herald/heraldref15.Set).Has
instance Tryd.ent22 : Ent Tryd.prog 22 := ent_of Tryd.func22 (by kernel_rfl) rfl -- strings.Cut
instance Tryd.ent23 : Ent Tryd.prog 23 := ent_of Tryd.func23 (by kernel_rfl) rfl -- herald/origin.spelt
instance Tryd.ent24 : Ent Tryd.prog 24 := ent_of Tryd.func24 (by kernel_rfl) rfl -- herald/origin.lower
instance Tryd.ent25 : Ent Tryd.prog 25 := ent_of Tryd.func25 (by kernel_rfl) rfl -- herald/heraldref15.Spelt
instance Tryd.ent26 : Ent Tryd.prog 26 := ent_of Tryd.func26 (by kernel_rfl) rfl -- herald/heraldref15.small
instance Tryd.ent27 : Ent Tryd.prog 27 := ent_of Tryd.func27 (by kernel_rfl) rfl -- herald/origin.right
instance Tryd.ent28 : Ent Tryd.prog 28 := ent_of Tryd.func28 (by kernel_rfl) rfl -- herald/origin.usual
instance Tryd.ent29 : Ent Tryd.prog 29 := ent_of Tryd.func29 (by kernel_rfl) rfl -- strconv.Itoa
instance Tryd.ent30 : Ent Tryd.prog 30 := ent_of Tryd.func30 (by kernel_rfl) rfl -- herald/heraldref15.Right
instance Tryd.ent31 : Ent Tryd.prog 31 := ent_of Tryd.func31 (by kernel_rfl) rfl -- herald/heraldref15.usual
instance Tryd.ent32 : Ent Tryd.prog 32 := ent_of Tryd.func32 (by kernel_rfl) rfl -- herald/heraldref15.digits
instance Tryd.ent33 : Ent Tryd.prog 33 := ent_of Tryd.func33 (by kernel_rfl) rfl -- slices.Clone[[]herald/api.Origin,herald/api.Origin]
instance Tryd.ent34 : Ent Tryd.prog 34 := ent_of Tryd.func34 (by kernel_rfl) rfl -- slices.ContainsFunc[[]herald/api.Origin,herald/api.Origin]
instance Tryd.ent35 : Ent Tryd.prog 35 := ent_of Tryd.func35 (by kernel_rfl) rfl -- herald/origin.Of$1
instance Tryd.ent36 : Ent Tryd.prog 36 := ent_of Tryd.func36 (by kernel_rfl) rfl -- internal/stringslite.Cut
instance Tryd.ent37 : Ent Tryd.prog 37 := ent_of Tryd.func37 (by kernel_rfl) rfl -- herald/origin.port
instance Tryd.ent38 : Ent Tryd.prog 38 := ent_of Tryd.func38 (by kernel_rfl) rfl -- herald/heraldref15.port
instance Tryd.ent39 : Ent Tryd.prog 39 := ent_of Tryd.func39 (by kernel_rfl) rfl -- herald/origin.host
instance Tryd.ent40 : Ent Tryd.prog 40 := ent_of Tryd.func40 (by kernel_rfl) rfl -- internal/strconv.Itoa
instance Tryd.ent41 : Ent Tryd.prog 41 := ent_of Tryd.func41 (by kernel_rfl) rfl -- herald/heraldref15.Host
instance Tryd.ent42 : Ent Tryd.prog 42 := ent_of Tryd.func42 (by kernel_rfl) rfl -- slices.IndexFunc[[]herald/api.Origin,herald/api.Origin]
instance Tryd.ent43 : Ent Tryd.prog 43 := ent_of Tryd.func43 (by kernel_rfl) rfl -- internal/stringslite.Index
instance Tryd.ent44 : Ent Tryd.prog 44 := ent_of Tryd.func44 (by kernel_rfl) rfl -- strings.Split
instance Tryd.ent45 : Ent Tryd.prog 45 := ent_of Tryd.func45 (by kernel_rfl) rfl -- herald/origin.label
instance Tryd.ent46 : Ent Tryd.prog 46 := ent_of Tryd.func46 (by kernel_rfl) rfl -- internal/strconv.FormatInt
instance Tryd.ent47 : Ent Tryd.prog 47 := ent_of Tryd.func47 (by kernel_rfl) rfl -- internal/stringslite.IndexByte
instance Tryd.ent49 : Ent Tryd.prog 49 := ent_of Tryd.func49 (by kernel_rfl) rfl -- internal/bytealg.Cutover
instance Tryd.ent50 : Ent Tryd.prog 50 := ent_of Tryd.func50 (by kernel_rfl) rfl -- internal/bytealg.IndexRabinKarp[string]
instance Tryd.ent51 : Ent Tryd.prog 51 := ent_of Tryd.func51 (by kernel_rfl) rfl -- strings.genSplit
instance Tryd.ent52 : Ent Tryd.prog 52 := ent_of Tryd.func52 (by kernel_rfl) rfl -- internal/strconv.small
instance Tryd.ent53 : Ent Tryd.prog 53 := ent_of Tryd.func53 (by kernel_rfl) rfl -- internal/strconv.numDigits
instance Tryd.ent54 : Ent Tryd.prog 54 := ent_of Tryd.func54 (by kernel_rfl) rfl -- internal/strconv.formatBase10
instance Tryd.ent55 : Ent Tryd.prog 55 := ent_of Tryd.func55 (by kernel_rfl) rfl -- internal/strconv.formatBits
instance Tryd.ent57 : Ent Tryd.prog 57 := ent_of Tryd.func57 (by kernel_rfl) rfl -- internal/bytealg.hashStr[string]
instance Tryd.ent58 : Ent Tryd.prog 58 := ent_of Tryd.func58 (by kernel_rfl) rfl -- strings.explode
instance Tryd.ent59 : Ent Tryd.prog 59 := ent_of Tryd.func59 (by kernel_rfl) rfl -- strings.Count
instance Tryd.ent60 : Ent Tryd.prog 60 := ent_of Tryd.func60 (by kernel_rfl) rfl -- strings.Index
instance Tryd.ent61 : Ent Tryd.prog 61 := ent_of Tryd.func61 (by kernel_rfl) rfl -- internal/strconv.log10Pow2
instance Tryd.ent62 : Ent Tryd.prog 62 := ent_of Tryd.func62 (by kernel_rfl) rfl -- math/bits.Len64
instance Tryd.ent63 : Ent Tryd.prog 63 := ent_of Tryd.func63 (by kernel_rfl) rfl -- internal/strconv.bool2[int]
instance Tryd.ent64 : Ent Tryd.prog 64 := ent_of Tryd.func64 (by kernel_rfl) rfl -- internal/strconv.isPowerOfTwo
instance Tryd.ent65 : Ent Tryd.prog 65 := ent_of Tryd.func65 (by kernel_rfl) rfl -- math/bits.TrailingZeros
instance Tryd.ent66 : Ent Tryd.prog 66 := ent_of Tryd.func66 (by kernel_rfl) rfl -- unicode/utf8.RuneCountInString
instance Tryd.ent67 : Ent Tryd.prog 67 := ent_of Tryd.func67 (by kernel_rfl) rfl -- unicode/utf8.DecodeRuneInString
instance Tryd.ent69 : Ent Tryd.prog 69 := ent_of Tryd.func69 (by kernel_rfl) rfl -- math/bits.TrailingZeros32
instance Tryd.ent70 : Ent Tryd.prog 70 := ent_of Tryd.func70 (by kernel_rfl) rfl -- math/bits.TrailingZeros64
instance Tryd.ent71 : Ent Tryd.prog 71 := ent_of Tryd.func71 (by kernel_rfl) rfl -- unicode/utf8.decodeRuneInStringSlow
instance Tryd.ent96 : Ent Tryd.prog 96 := ent_of Tryd.func96 (by kernel_rfl) rfl -- gosem.cut.vars
end Go.Proofs
