/- Facts on the program's types and functions, as instances: printed by a program (wip/aw/gen.py) out of the seat's translation. -/
import Derived.Test.YtphkfejckafamaaDoorProg
import Derived.Test.YtphkfejckafamaaDoorG5
import Derived.KernelRfl
set_option maxRecDepth 100000
namespace Go.Proofs
open Go.Proofs.YtphkfejckafamaaDoorA
instance Tryd.agf1 : AgF Tryd.prog 1 false := ⟨Tryd.isAgg1⟩
instance Tryd.elf1 : ElF Tryd.prog 1 (.nilFunc) 1 8 := ⟨Tryd.t1, Tryd.type1, rfl, rfl, rfl, rfl, by simp [Value.cells, Value.oneCell']⟩
instance Tryd.und2 : Und Tryd.prog 2 (.int .i64) := ⟨Tryd.underlying2⟩
instance Tryd.agf2 : AgF Tryd.prog 2 false := ⟨Tryd.isAgg2⟩
instance Tryd.elf2 : ElF Tryd.prog 2 (.int .i64 0) 1 8 := ⟨Tryd.t2, Tryd.type2, rfl, rfl, rfl, rfl, by simp [Value.cells, Value.oneCell']⟩
instance Tryd.und3 : Und Tryd.prog 3 (.int .i64) := ⟨Tryd.underlying3⟩
instance Tryd.agf3 : AgF Tryd.prog 3 false := ⟨Tryd.isAgg3⟩
instance Tryd.elf3 : ElF Tryd.prog 3 (.int .i64 0) 1 8 := ⟨Tryd.t3, Tryd.type3, rfl, rfl, rfl, rfl, by simp [Value.cells, Value.oneCell']⟩
instance Tryd.und4 : Und Tryd.prog 4 (.bool) := ⟨Tryd.underlying4⟩
instance Tryd.agf4 : AgF Tryd.prog 4 false := ⟨Tryd.isAgg4⟩
instance Tryd.elf4 : ElF Tryd.prog 4 (.bool false) 1 1 := ⟨Tryd.t4, Tryd.type4, rfl, rfl, rfl, rfl, by simp [Value.cells, Value.oneCell']⟩
instance Tryd.und5 : Und Tryd.prog 5 (.int .u8) := ⟨Tryd.underlying5⟩
instance Tryd.agf5 : AgF Tryd.prog 5 false := ⟨Tryd.isAgg5⟩
instance Tryd.elf5 : ElF Tryd.prog 5 (.int .u8 0) 1 1 := ⟨Tryd.t5, Tryd.type5, rfl, rfl, rfl, rfl, by simp [Value.cells, Value.oneCell']⟩
instance Tryd.und6 : Und Tryd.prog 6 (.int .u8) := ⟨Tryd.underlying6⟩
instance Tryd.agf6 : AgF Tryd.prog 6 false := ⟨Tryd.isAgg6⟩
instance Tryd.elf6 : ElF Tryd.prog 6 (.int .u8 0) 1 1 := ⟨Tryd.t6, Tryd.type6, rfl, rfl, rfl, rfl, by simp [Value.cells, Value.oneCell']⟩
instance Tryd.agf7 : AgF Tryd.prog 7 true := ⟨Tryd.isAgg7⟩
instance Tryd.elf7 : ElF Tryd.prog 7 (.agg #[.int .i64 0, .int .i64 0, .bool false, .int .u8 0]) 4 24 := ⟨Tryd.t7, Tryd.type7, rfl, rfl, rfl, rfl, by simp [Value.cells, Value.oneCell']⟩
instance Tryd.fld7_0 : FldF Tryd.prog 7 0 0 1 false := ⟨_, _, Tryd.underlying7, rfl, rfl, by decide, fun w => ElF.size (e := Tryd.elf2) w, fun w => Tryd.isAgg2 w⟩
instance Tryd.fld7_1 : FldF Tryd.prog 7 1 1 1 false := ⟨_, _, Tryd.underlying7, rfl, rfl, by decide, fun w => ElF.size (e := Tryd.elf3) w, fun w => Tryd.isAgg3 w⟩
instance Tryd.fld7_2 : FldF Tryd.prog 7 2 2 1 false := ⟨_, _, Tryd.underlying7, rfl, rfl, by decide, fun w => ElF.size (e := Tryd.elf4) w, fun w => Tryd.isAgg4 w⟩
instance Tryd.fld7_3 : FldF Tryd.prog 7 3 3 1 false := ⟨_, _, Tryd.underlying7, rfl, rfl, by decide, fun w => ElF.size (e := Tryd.elf6) w, fun w => Tryd.isAgg6 w⟩
instance Tryd.agf8 : AgF Tryd.prog 8 true := ⟨Tryd.isAgg8⟩
instance Tryd.elf8 : ElF Tryd.prog 8 (.agg #[.int .i64 0, .int .i64 0, .bool false, .int .u8 0]) 4 24 := ⟨Tryd.t8, Tryd.type8, rfl, rfl, rfl, rfl, by simp [Value.cells, Value.oneCell']⟩
instance Tryd.fld8_0 : FldF Tryd.prog 8 0 0 1 false := ⟨_, _, Tryd.underlying8, rfl, rfl, by decide, fun w => ElF.size (e := Tryd.elf2) w, fun w => Tryd.isAgg2 w⟩
instance Tryd.fld8_1 : FldF Tryd.prog 8 1 1 1 false := ⟨_, _, Tryd.underlying8, rfl, rfl, by decide, fun w => ElF.size (e := Tryd.elf3) w, fun w => Tryd.isAgg3 w⟩
instance Tryd.fld8_2 : FldF Tryd.prog 8 2 2 1 false := ⟨_, _, Tryd.underlying8, rfl, rfl, by decide, fun w => ElF.size (e := Tryd.elf4) w, fun w => Tryd.isAgg4 w⟩
instance Tryd.fld8_3 : FldF Tryd.prog 8 3 3 1 false := ⟨_, _, Tryd.underlying8, rfl, rfl, by decide, fun w => ElF.size (e := Tryd.elf6) w, fun w => Tryd.isAgg6 w⟩
instance Tryd.und9 : Und Tryd.prog 9 (.string) := ⟨Tryd.underlying9⟩
instance Tryd.agf9 : AgF Tryd.prog 9 false := ⟨Tryd.isAgg9⟩
instance Tryd.elf9 : ElF Tryd.prog 9 (.string ⟨#[]⟩) 1 16 := ⟨Tryd.t9, Tryd.type9, rfl, rfl, rfl, rfl, by simp [Value.cells, Value.oneCell']⟩
instance Tryd.und10 : Und Tryd.prog 10 (.string) := ⟨Tryd.underlying10⟩
instance Tryd.agf10 : AgF Tryd.prog 10 false := ⟨Tryd.isAgg10⟩
instance Tryd.elf10 : ElF Tryd.prog 10 (.string ⟨#[]⟩) 1 16 := ⟨Tryd.t10, Tryd.type10, rfl, rfl, rfl, rfl, by simp [Value.cells, Value.oneCell']⟩
instance Tryd.und11 : Und Tryd.prog 11 (.string) := ⟨Tryd.underlying11⟩
instance Tryd.agf11 : AgF Tryd.prog 11 false := ⟨Tryd.isAgg11⟩
instance Tryd.elf11 : ElF Tryd.prog 11 (.string ⟨#[]⟩) 1 16 := ⟨Tryd.t11, Tryd.type11, rfl, rfl, rfl, rfl, by simp [Value.cells, Value.oneCell']⟩
instance Tryd.und12 : Und Tryd.prog 12 (.int .u64) := ⟨Tryd.underlying12⟩
instance Tryd.agf12 : AgF Tryd.prog 12 false := ⟨Tryd.isAgg12⟩
instance Tryd.elf12 : ElF Tryd.prog 12 (.int .u64 0) 1 8 := ⟨Tryd.t12, Tryd.type12, rfl, rfl, rfl, rfl, by simp [Value.cells, Value.oneCell']⟩
instance Tryd.agf13 : AgF Tryd.prog 13 true := ⟨Tryd.isAgg13⟩
instance Tryd.elf13 : ElF Tryd.prog 13 (.agg #[.string ⟨#[]⟩, .int .u64 0]) 2 24 := ⟨Tryd.t13, Tryd.type13, rfl, rfl, rfl, rfl, by simp [Value.cells, Value.oneCell']⟩
instance Tryd.fld13_0 : FldF Tryd.prog 13 0 0 1 false := ⟨_, _, Tryd.underlying13, rfl, rfl, by decide, fun w => ElF.size (e := Tryd.elf9) w, fun w => Tryd.isAgg9 w⟩
instance Tryd.fld13_1 : FldF Tryd.prog 13 1 1 1 false := ⟨_, _, Tryd.underlying13, rfl, rfl, by decide, fun w => ElF.size (e := Tryd.elf12) w, fun w => Tryd.isAgg12 w⟩
instance Tryd.agf14 : AgF Tryd.prog 14 true := ⟨Tryd.isAgg14⟩
instance Tryd.elf14 : ElF Tryd.prog 14 (.agg #[.string ⟨#[]⟩, .int .u64 0]) 2 24 := ⟨Tryd.t14, Tryd.type14, rfl, rfl, rfl, rfl, by simp [Value.cells, Value.oneCell']⟩
instance Tryd.fld14_0 : FldF Tryd.prog 14 0 0 1 false := ⟨_, _, Tryd.underlying14, rfl, rfl, by decide, fun w => ElF.size (e := Tryd.elf9) w, fun w => Tryd.isAgg9 w⟩
instance Tryd.fld14_1 : FldF Tryd.prog 14 1 1 1 false := ⟨_, _, Tryd.underlying14, rfl, rfl, by decide, fun w => ElF.size (e := Tryd.elf12) w, fun w => Tryd.isAgg12 w⟩
instance Tryd.und15 : Und Tryd.prog 15 (.pointer 146) := ⟨Tryd.underlying15⟩
instance Tryd.agf15 : AgF Tryd.prog 15 false := ⟨Tryd.isAgg15⟩
instance Tryd.elf15 : ElF Tryd.prog 15 (.pointer none) 1 8 := ⟨Tryd.t15, Tryd.type15, rfl, rfl, rfl, rfl, by simp [Value.cells, Value.oneCell']⟩
instance Tryd.und16 : Und Tryd.prog 16 (.pointer 149) := ⟨Tryd.underlying16⟩
instance Tryd.agf16 : AgF Tryd.prog 16 false := ⟨Tryd.isAgg16⟩
instance Tryd.elf16 : ElF Tryd.prog 16 (.pointer none) 1 8 := ⟨Tryd.t16, Tryd.type16, rfl, rfl, rfl, rfl, by simp [Value.cells, Value.oneCell']⟩
instance Tryd.und17 : Und Tryd.prog 17 (.pointer 157) := ⟨Tryd.underlying17⟩
instance Tryd.agf17 : AgF Tryd.prog 17 false := ⟨Tryd.isAgg17⟩
instance Tryd.elf17 : ElF Tryd.prog 17 (.pointer none) 1 8 := ⟨Tryd.t17, Tryd.type17, rfl, rfl, rfl, rfl, by simp [Value.cells, Value.oneCell']⟩
instance Tryd.agf18 : AgF Tryd.prog 18 true := ⟨Tryd.isAgg18⟩
instance Tryd.elf18 : ElF Tryd.prog 18 (.agg #[.pointer none]) 1 8 := ⟨Tryd.t18, Tryd.type18, rfl, rfl, rfl, rfl, by simp [Value.cells, Value.oneCell']⟩
instance Tryd.fld18_0 : FldF Tryd.prog 18 0 0 1 false := ⟨_, _, Tryd.underlying18, rfl, rfl, by decide, fun w => ElF.size (e := Tryd.elf17) w, fun w => Tryd.isAgg17 w⟩
instance Tryd.agf19 : AgF Tryd.prog 19 true := ⟨Tryd.isAgg19⟩
instance Tryd.elf19 : ElF Tryd.prog 19 (.agg #[.pointer none]) 1 8 := ⟨Tryd.t19, Tryd.type19, rfl, rfl, rfl, rfl, by simp [Value.cells, Value.oneCell']⟩
instance Tryd.fld19_0 : FldF Tryd.prog 19 0 0 1 false := ⟨_, _, Tryd.underlying19, rfl, rfl, by decide, fun w => ElF.size (e := Tryd.elf17) w, fun w => Tryd.isAgg17 w⟩
instance Tryd.agf20 : AgF Tryd.prog 20 false := ⟨Tryd.isAgg20⟩
instance Tryd.elf20 : ElF Tryd.prog 20 (.nilIface) 1 16 := ⟨Tryd.t20, Tryd.type20, rfl, rfl, rfl, rfl, by simp [Value.cells, Value.oneCell']⟩
instance Tryd.und21 : Und Tryd.prog 21 (.int .i32) := ⟨Tryd.underlying21⟩
instance Tryd.agf21 : AgF Tryd.prog 21 false := ⟨Tryd.isAgg21⟩
instance Tryd.elf21 : ElF Tryd.prog 21 (.int .i32 0) 1 4 := ⟨Tryd.t21, Tryd.type21, rfl, rfl, rfl, rfl, by simp [Value.cells, Value.oneCell']⟩
instance Tryd.und22 : Und Tryd.prog 22 (.slice 33) := ⟨Tryd.underlying22⟩
instance Tryd.agf22 : AgF Tryd.prog 22 false := ⟨Tryd.isAgg22⟩
instance Tryd.elf22 : ElF Tryd.prog 22 (.slice none 0 0) 1 24 := ⟨Tryd.t22, Tryd.type22, rfl, rfl, rfl, rfl, by simp [Value.cells, Value.oneCell']⟩
instance Tryd.agf23 : AgF Tryd.prog 23 true := ⟨Tryd.isAgg23⟩
instance Tryd.elf23 : ElF Tryd.prog 23 (.agg #[.int .i64 0, .slice none 0 0, .string ⟨#[]⟩]) 3 48 := ⟨Tryd.t23, Tryd.type23, rfl, rfl, rfl, rfl, by simp [Value.cells, Value.oneCell']⟩
instance Tryd.fld23_0 : FldF Tryd.prog 23 0 0 1 false := ⟨_, _, Tryd.underlying23, rfl, rfl, by decide, fun w => ElF.size (e := Tryd.elf3) w, fun w => Tryd.isAgg3 w⟩
instance Tryd.fld23_1 : FldF Tryd.prog 23 1 1 1 false := ⟨_, _, Tryd.underlying23, rfl, rfl, by decide, fun w => ElF.size (e := Tryd.elf22) w, fun w => Tryd.isAgg22 w⟩
instance Tryd.fld23_2 : FldF Tryd.prog 23 2 2 1 false := ⟨_, _, Tryd.underlying23, rfl, rfl, by decide, fun w => ElF.size (e := Tryd.elf9) w, fun w => Tryd.isAgg9 w⟩
instance Tryd.agf24 : AgF Tryd.prog 24 true := ⟨Tryd.isAgg24⟩
instance Tryd.elf24 : ElF Tryd.prog 24 (.agg #[.int .i64 0, .slice none 0 0, .string ⟨#[]⟩]) 3 48 := ⟨Tryd.t24, Tryd.type24, rfl, rfl, rfl, rfl, by simp [Value.cells, Value.oneCell']⟩
instance Tryd.fld24_0 : FldF Tryd.prog 24 0 0 1 false := ⟨_, _, Tryd.underlying24, rfl, rfl, by decide, fun w => ElF.size (e := Tryd.elf3) w, fun w => Tryd.isAgg3 w⟩
instance Tryd.fld24_1 : FldF Tryd.prog 24 1 1 1 false := ⟨_, _, Tryd.underlying24, rfl, rfl, by decide, fun w => ElF.size (e := Tryd.elf22) w, fun w => Tryd.isAgg22 w⟩
instance Tryd.fld24_2 : FldF Tryd.prog 24 2 2 1 false := ⟨_, _, Tryd.underlying24, rfl, rfl, by decide, fun w => ElF.size (e := Tryd.elf9) w, fun w => Tryd.isAgg9 w⟩
instance Tryd.agf25 : AgF Tryd.prog 25 false := ⟨Tryd.isAgg25⟩
instance Tryd.elf25 : ElF Tryd.prog 25 (.nilFunc) 1 8 := ⟨Tryd.t25, Tryd.type25, rfl, rfl, rfl, rfl, by simp [Value.cells, Value.oneCell']⟩
instance Tryd.agf26 : AgF Tryd.prog 26 false := ⟨Tryd.isAgg26⟩
instance Tryd.elf26 : ElF Tryd.prog 26 (.nilFunc) 1 8 := ⟨Tryd.t26, Tryd.type26, rfl, rfl, rfl, rfl, by simp [Value.cells, Value.oneCell']⟩
instance Tryd.und27 : Und Tryd.prog 27 (.slice 9) := ⟨Tryd.underlying27⟩
instance Tryd.agf27 : AgF Tryd.prog 27 false := ⟨Tryd.isAgg27⟩
instance Tryd.elf27 : ElF Tryd.prog 27 (.slice none 0 0) 1 24 := ⟨Tryd.t27, Tryd.type27, rfl, rfl, rfl, rfl, by simp [Value.cells, Value.oneCell']⟩
instance Tryd.agf29 : AgF Tryd.prog 29 false := ⟨Tryd.isAgg29⟩
instance Tryd.elf29 : ElF Tryd.prog 29 (.nilFunc) 1 8 := ⟨Tryd.t29, Tryd.type29, rfl, rfl, rfl, rfl, by simp [Value.cells, Value.oneCell']⟩
instance Tryd.agf30 : AgF Tryd.prog 30 false := ⟨Tryd.isAgg30⟩
instance Tryd.elf30 : ElF Tryd.prog 30 (.nilFunc) 1 8 := ⟨Tryd.t30, Tryd.type30, rfl, rfl, rfl, rfl, by simp [Value.cells, Value.oneCell']⟩
instance Tryd.agf31 : AgF Tryd.prog 31 false := ⟨Tryd.isAgg31⟩
instance Tryd.elf31 : ElF Tryd.prog 31 (.nilFunc) 1 8 := ⟨Tryd.t31, Tryd.type31, rfl, rfl, rfl, rfl, by simp [Value.cells, Value.oneCell']⟩
instance Tryd.agf32 : AgF Tryd.prog 32 true := ⟨Tryd.isAgg32⟩
instance Tryd.elf32 : ElF Tryd.prog 32 (.agg #[.string ⟨#[]⟩, .string ⟨#[]⟩, .bool false]) 3 40 := ⟨Tryd.t32, Tryd.type32, rfl, rfl, rfl, rfl, by simp [Value.cells, Value.oneCell']⟩
instance Tryd.fld32_0 : FldF Tryd.prog 32 0 0 1 false := ⟨_, _, Tryd.underlying32, rfl, rfl, by decide, fun w => ElF.size (e := Tryd.elf9) w, fun w => Tryd.isAgg9 w⟩
instance Tryd.fld32_1 : FldF Tryd.prog 32 1 1 1 false := ⟨_, _, Tryd.underlying32, rfl, rfl, by decide, fun w => ElF.size (e := Tryd.elf9) w, fun w => Tryd.isAgg9 w⟩
instance Tryd.fld32_2 : FldF Tryd.prog 32 2 2 1 false := ⟨_, _, Tryd.underlying32, rfl, rfl, by decide, fun w => ElF.size (e := Tryd.elf4) w, fun w => Tryd.isAgg4 w⟩
instance Tryd.agf33 : AgF Tryd.prog 33 true := ⟨Tryd.isAgg33⟩
instance Tryd.elf33 : ElF Tryd.prog 33 (.agg #[.string ⟨#[]⟩, .string ⟨#[]⟩, .bool false]) 3 40 := ⟨Tryd.t33, Tryd.type33, rfl, rfl, rfl, rfl, by simp [Value.cells, Value.oneCell']⟩
instance Tryd.fld33_0 : FldF Tryd.prog 33 0 0 1 false := ⟨_, _, Tryd.underlying33, rfl, rfl, by decide, fun w => ElF.size (e := Tryd.elf9) w, fun w => Tryd.isAgg9 w⟩
instance Tryd.fld33_1 : FldF Tryd.prog 33 1 1 1 false := ⟨_, _, Tryd.underlying33, rfl, rfl, by decide, fun w => ElF.size (e := Tryd.elf9) w, fun w => Tryd.isAgg9 w⟩
instance Tryd.fld33_2 : FldF Tryd.prog 33 2 2 1 false := ⟨_, _, Tryd.underlying33, rfl, rfl, by decide, fun w => ElF.size (e := Tryd.elf4) w, fun w => Tryd.isAgg4 w⟩
instance Tryd.agf34 : AgF Tryd.prog 34 false := ⟨Tryd.isAgg34⟩
instance Tryd.elf34 : ElF Tryd.prog 34 (.nilFunc) 1 8 := ⟨Tryd.t34, Tryd.type34, rfl, rfl, rfl, rfl, by simp [Value.cells, Value.oneCell']⟩
instance Tryd.agf35 : AgF Tryd.prog 35 true := ⟨Tryd.isAgg35⟩
instance Tryd.elf35 : ElF Tryd.prog 35 (.agg #[.string ⟨#[]⟩, .string ⟨#[]⟩, .string ⟨#[]⟩, .string ⟨#[]⟩, .slice none 0 0, .string ⟨#[]⟩]) 6 104 := ⟨Tryd.t35, Tryd.type35, rfl, rfl, rfl, rfl, by simp [Value.cells, Value.oneCell']⟩
instance Tryd.fld35_0 : FldF Tryd.prog 35 0 0 1 false := ⟨_, _, Tryd.underlying35, rfl, rfl, by decide, fun w => ElF.size (e := Tryd.elf9) w, fun w => Tryd.isAgg9 w⟩
instance Tryd.fld35_1 : FldF Tryd.prog 35 1 1 1 false := ⟨_, _, Tryd.underlying35, rfl, rfl, by decide, fun w => ElF.size (e := Tryd.elf9) w, fun w => Tryd.isAgg9 w⟩
instance Tryd.fld35_2 : FldF Tryd.prog 35 2 2 1 false := ⟨_, _, Tryd.underlying35, rfl, rfl, by decide, fun w => ElF.size (e := Tryd.elf9) w, fun w => Tryd.isAgg9 w⟩
instance Tryd.fld35_3 : FldF Tryd.prog 35 3 3 1 false := ⟨_, _, Tryd.underlying35, rfl, rfl, by decide, fun w => ElF.size (e := Tryd.elf9) w, fun w => Tryd.isAgg9 w⟩
instance Tryd.fld35_4 : FldF Tryd.prog 35 4 4 1 false := ⟨_, _, Tryd.underlying35, rfl, rfl, by decide, fun w => ElF.size (e := Tryd.elf22) w, fun w => Tryd.isAgg22 w⟩
instance Tryd.fld35_5 : FldF Tryd.prog 35 5 5 1 false := ⟨_, _, Tryd.underlying35, rfl, rfl, by decide, fun w => ElF.size (e := Tryd.elf9) w, fun w => Tryd.isAgg9 w⟩
instance Tryd.agf36 : AgF Tryd.prog 36 true := ⟨Tryd.isAgg36⟩
instance Tryd.elf36 : ElF Tryd.prog 36 (.agg #[.string ⟨#[]⟩, .string ⟨#[]⟩, .string ⟨#[]⟩, .string ⟨#[]⟩, .slice none 0 0, .string ⟨#[]⟩]) 6 104 := ⟨Tryd.t36, Tryd.type36, rfl, rfl, rfl, rfl, by simp [Value.cells, Value.oneCell']⟩
instance Tryd.fld36_0 : FldF Tryd.prog 36 0 0 1 false := ⟨_, _, Tryd.underlying36, rfl, rfl, by decide, fun w => ElF.size (e := Tryd.elf9) w, fun w => Tryd.isAgg9 w⟩
instance Tryd.fld36_1 : FldF Tryd.prog 36 1 1 1 false := ⟨_, _, Tryd.underlying36, rfl, rfl, by decide, fun w => ElF.size (e := Tryd.elf9) w, fun w => Tryd.isAgg9 w⟩
instance Tryd.fld36_2 : FldF Tryd.prog 36 2 2 1 false := ⟨_, _, Tryd.underlying36, rfl, rfl, by decide, fun w => ElF.size (e := Tryd.elf9) w, fun w => Tryd.isAgg9 w⟩
instance Tryd.fld36_3 : FldF Tryd.prog 36 3 3 1 false := ⟨_, _, Tryd.underlying36, rfl, rfl, by decide, fun w => ElF.size (e := Tryd.elf9) w, fun w => Tryd.isAgg9 w⟩
instance Tryd.fld36_4 : FldF Tryd.prog 36 4 4 1 false := ⟨_, _, Tryd.underlying36, rfl, rfl, by decide, fun w => ElF.size (e := Tryd.elf22) w, fun w => Tryd.isAgg22 w⟩
instance Tryd.fld36_5 : FldF Tryd.prog 36 5 5 1 false := ⟨_, _, Tryd.underlying36, rfl, rfl, by decide, fun w => ElF.size (e := Tryd.elf9) w, fun w => Tryd.isAgg9 w⟩
instance Tryd.agf37 : AgF Tryd.prog 37 false := ⟨Tryd.isAgg37⟩
instance Tryd.elf37 : ElF Tryd.prog 37 (.nilFunc) 1 8 := ⟨Tryd.t37, Tryd.type37, rfl, rfl, rfl, rfl, by simp [Value.cells, Value.oneCell']⟩
instance Tryd.agf38 : AgF Tryd.prog 38 false := ⟨Tryd.isAgg38⟩
instance Tryd.elf38 : ElF Tryd.prog 38 (.nilFunc) 1 8 := ⟨Tryd.t38, Tryd.type38, rfl, rfl, rfl, rfl, by simp [Value.cells, Value.oneCell']⟩
instance Tryd.und39 : Und Tryd.prog 39 (.int .u64) := ⟨Tryd.underlying39⟩
instance Tryd.agf39 : AgF Tryd.prog 39 false := ⟨Tryd.isAgg39⟩
instance Tryd.elf39 : ElF Tryd.prog 39 (.int .u64 0) 1 8 := ⟨Tryd.t39, Tryd.type39, rfl, rfl, rfl, rfl, by simp [Value.cells, Value.oneCell']⟩
instance Tryd.agf40 : AgF Tryd.prog 40 false := ⟨Tryd.isAgg40⟩
instance Tryd.elf40 : ElF Tryd.prog 40 (.nilFunc) 1 8 := ⟨Tryd.t40, Tryd.type40, rfl, rfl, rfl, rfl, by simp [Value.cells, Value.oneCell']⟩
instance Tryd.agf41 : AgF Tryd.prog 41 false := ⟨Tryd.isAgg41⟩
instance Tryd.elf41 : ElF Tryd.prog 41 (.nilFunc) 1 8 := ⟨Tryd.t41, Tryd.type41, rfl, rfl, rfl, rfl, by simp [Value.cells, Value.oneCell']⟩
instance Tryd.agf42 : AgF Tryd.prog 42 false := ⟨Tryd.isAgg42⟩
instance Tryd.elf42 : ElF Tryd.prog 42 (.nilFunc) 1 8 := ⟨Tryd.t42, Tryd.type42, rfl, rfl, rfl, rfl, by simp [Value.cells, Value.oneCell']⟩
instance Tryd.agf43 : AgF Tryd.prog 43 true := ⟨Tryd.isAgg43⟩
instance Tryd.elf43 : ElF Tryd.prog 43 (.agg #[.int .i64 0, .int .i64 0, .int .i64 0, .int .i64 0]) 4 32 := ⟨Tryd.t43, Tryd.type43, rfl, rfl, rfl, rfl, by simp [Value.cells, Value.oneCell']⟩
instance Tryd.fld43_0 : FldF Tryd.prog 43 0 0 1 false := ⟨_, _, Tryd.underlying43, rfl, rfl, by decide, fun w => ElF.size (e := Tryd.elf2) w, fun w => Tryd.isAgg2 w⟩
instance Tryd.fld43_1 : FldF Tryd.prog 43 1 1 1 false := ⟨_, _, Tryd.underlying43, rfl, rfl, by decide, fun w => ElF.size (e := Tryd.elf2) w, fun w => Tryd.isAgg2 w⟩
instance Tryd.fld43_2 : FldF Tryd.prog 43 2 2 1 false := ⟨_, _, Tryd.underlying43, rfl, rfl, by decide, fun w => ElF.size (e := Tryd.elf2) w, fun w => Tryd.isAgg2 w⟩
instance Tryd.fld43_3 : FldF Tryd.prog 43 3 3 1 false := ⟨_, _, Tryd.underlying43, rfl, rfl, by decide, fun w => ElF.size (e := Tryd.elf2) w, fun w => Tryd.isAgg2 w⟩
instance Tryd.agf44 : AgF Tryd.prog 44 true := ⟨Tryd.isAgg44⟩
instance Tryd.elf44 : ElF Tryd.prog 44 (.agg #[.int .i64 0, .int .i64 0, .int .i64 0, .int .i64 0]) 4 32 := ⟨Tryd.t44, Tryd.type44, rfl, rfl, rfl, rfl, by simp [Value.cells, Value.oneCell']⟩
instance Tryd.fld44_0 : FldF Tryd.prog 44 0 0 1 false := ⟨_, _, Tryd.underlying44, rfl, rfl, by decide, fun w => ElF.size (e := Tryd.elf2) w, fun w => Tryd.isAgg2 w⟩
instance Tryd.fld44_1 : FldF Tryd.prog 44 1 1 1 false := ⟨_, _, Tryd.underlying44, rfl, rfl, by decide, fun w => ElF.size (e := Tryd.elf2) w, fun w => Tryd.isAgg2 w⟩
instance Tryd.fld44_2 : FldF Tryd.prog 44 2 2 1 false := ⟨_, _, Tryd.underlying44, rfl, rfl, by decide, fun w => ElF.size (e := Tryd.elf2) w, fun w => Tryd.isAgg2 w⟩
instance Tryd.fld44_3 : FldF Tryd.prog 44 3 3 1 false := ⟨_, _, Tryd.underlying44, rfl, rfl, by decide, fun w => ElF.size (e := Tryd.elf2) w, fun w => Tryd.isAgg2 w⟩
instance Tryd.und45 : Und Tryd.prog 45 (.slice 54) := ⟨Tryd.underlying45⟩
instance Tryd.agf45 : AgF Tryd.prog 45 false := ⟨Tryd.isAgg45⟩
instance Tryd.elf45 : ElF Tryd.prog 45 (.slice none 0 0) 1 24 := ⟨Tryd.t45, Tryd.type45, rfl, rfl, rfl, rfl, by simp [Value.cells, Value.oneCell']⟩
instance Tryd.und46 : Und Tryd.prog 46 (.pointer 93) := ⟨Tryd.underlying46⟩
instance Tryd.agf46 : AgF Tryd.prog 46 false := ⟨Tryd.isAgg46⟩
instance Tryd.elf46 : ElF Tryd.prog 46 (.pointer none) 1 8 := ⟨Tryd.t46, Tryd.type46, rfl, rfl, rfl, rfl, by simp [Value.cells, Value.oneCell']⟩
instance Tryd.und47 : Und Tryd.prog 47 (.int .i64) := ⟨Tryd.underlying47⟩
instance Tryd.agf47 : AgF Tryd.prog 47 false := ⟨Tryd.isAgg47⟩
instance Tryd.elf47 : ElF Tryd.prog 47 (.int .i64 0) 1 8 := ⟨Tryd.t47, Tryd.type47, rfl, rfl, rfl, rfl, by simp [Value.cells, Value.oneCell']⟩
instance Tryd.agf49 : AgF Tryd.prog 49 false := ⟨Tryd.isAgg49⟩
instance Tryd.elf49 : ElF Tryd.prog 49 (.nilFunc) 1 8 := ⟨Tryd.t49, Tryd.type49, rfl, rfl, rfl, rfl, by simp [Value.cells, Value.oneCell']⟩
instance Tryd.und50 : Und Tryd.prog 50 (.pointer 96) := ⟨Tryd.underlying50⟩
instance Tryd.agf50 : AgF Tryd.prog 50 false := ⟨Tryd.isAgg50⟩
instance Tryd.elf50 : ElF Tryd.prog 50 (.pointer none) 1 8 := ⟨Tryd.t50, Tryd.type50, rfl, rfl, rfl, rfl, by simp [Value.cells, Value.oneCell']⟩
instance Tryd.agf52 : AgF Tryd.prog 52 false := ⟨Tryd.isAgg52⟩
instance Tryd.elf52 : ElF Tryd.prog 52 (.nilFunc) 1 8 := ⟨Tryd.t52, Tryd.type52, rfl, rfl, rfl, rfl, by simp [Value.cells, Value.oneCell']⟩
instance Tryd.agf53 : AgF Tryd.prog 53 true := ⟨Tryd.isAgg53⟩
instance Tryd.elf53 : ElF Tryd.prog 53 (.agg #[.int .i64 0, .bool false, .string ⟨#[]⟩, .string ⟨#[]⟩, .string ⟨#[]⟩, .string ⟨#[]⟩, .slice none 0 0, .string ⟨#[]⟩, .int .i64 0, .slice none 0 0, .string ⟨#[]⟩, .int .i64 0, .int .i64 0]) 13 184 := ⟨Tryd.t53, Tryd.type53, rfl, rfl, rfl, rfl, by simp [Value.cells, Value.oneCell']⟩
instance Tryd.fld53_0 : FldF Tryd.prog 53 0 0 1 false := ⟨_, _, Tryd.underlying53, rfl, rfl, by decide, fun w => ElF.size (e := Tryd.elf3) w, fun w => Tryd.isAgg3 w⟩
instance Tryd.fld53_1 : FldF Tryd.prog 53 1 1 1 false := ⟨_, _, Tryd.underlying53, rfl, rfl, by decide, fun w => ElF.size (e := Tryd.elf4) w, fun w => Tryd.isAgg4 w⟩
instance Tryd.fld53_2 : FldF Tryd.prog 53 2 2 6 true := ⟨_, _, Tryd.underlying53, rfl, rfl, by decide, fun w => ElF.size (e := Tryd.elf36) w, fun w => Tryd.isAgg36 w⟩
instance Tryd.fld53_3 : FldF Tryd.prog 53 3 8 3 true := ⟨_, _, Tryd.underlying53, rfl, rfl, by decide, fun w => ElF.size (e := Tryd.elf24) w, fun w => Tryd.isAgg24 w⟩
instance Tryd.fld53_4 : FldF Tryd.prog 53 4 11 1 false := ⟨_, _, Tryd.underlying53, rfl, rfl, by decide, fun w => ElF.size (e := Tryd.elf2) w, fun w => Tryd.isAgg2 w⟩
instance Tryd.fld53_5 : FldF Tryd.prog 53 5 12 1 false := ⟨_, _, Tryd.underlying53, rfl, rfl, by decide, fun w => ElF.size (e := Tryd.elf2) w, fun w => Tryd.isAgg2 w⟩
instance Tryd.agf54 : AgF Tryd.prog 54 true := ⟨Tryd.isAgg54⟩
instance Tryd.elf54 : ElF Tryd.prog 54 (.agg #[.int .i64 0, .bool false, .string ⟨#[]⟩, .string ⟨#[]⟩, .string ⟨#[]⟩, .string ⟨#[]⟩, .slice none 0 0, .string ⟨#[]⟩, .int .i64 0, .slice none 0 0, .string ⟨#[]⟩, .int .i64 0, .int .i64 0]) 13 184 := ⟨Tryd.t54, Tryd.type54, rfl, rfl, rfl, rfl, by simp [Value.cells, Value.oneCell']⟩
instance Tryd.fld54_0 : FldF Tryd.prog 54 0 0 1 false := ⟨_, _, Tryd.underlying54, rfl, rfl, by decide, fun w => ElF.size (e := Tryd.elf3) w, fun w => Tryd.isAgg3 w⟩
instance Tryd.fld54_1 : FldF Tryd.prog 54 1 1 1 false := ⟨_, _, Tryd.underlying54, rfl, rfl, by decide, fun w => ElF.size (e := Tryd.elf4) w, fun w => Tryd.isAgg4 w⟩
instance Tryd.fld54_2 : FldF Tryd.prog 54 2 2 6 true := ⟨_, _, Tryd.underlying54, rfl, rfl, by decide, fun w => ElF.size (e := Tryd.elf36) w, fun w => Tryd.isAgg36 w⟩
instance Tryd.fld54_3 : FldF Tryd.prog 54 3 8 3 true := ⟨_, _, Tryd.underlying54, rfl, rfl, by decide, fun w => ElF.size (e := Tryd.elf24) w, fun w => Tryd.isAgg24 w⟩
instance Tryd.fld54_4 : FldF Tryd.prog 54 4 11 1 false := ⟨_, _, Tryd.underlying54, rfl, rfl, by decide, fun w => ElF.size (e := Tryd.elf2) w, fun w => Tryd.isAgg2 w⟩
instance Tryd.fld54_5 : FldF Tryd.prog 54 5 12 1 false := ⟨_, _, Tryd.underlying54, rfl, rfl, by decide, fun w => ElF.size (e := Tryd.elf2) w, fun w => Tryd.isAgg2 w⟩
instance Tryd.agf55 : AgF Tryd.prog 55 false := ⟨Tryd.isAgg55⟩
instance Tryd.elf55 : ElF Tryd.prog 55 (.nilFunc) 1 8 := ⟨Tryd.t55, Tryd.type55, rfl, rfl, rfl, rfl, by simp [Value.cells, Value.oneCell']⟩
instance Tryd.agf56 : AgF Tryd.prog 56 false := ⟨Tryd.isAgg56⟩
instance Tryd.elf56 : ElF Tryd.prog 56 (.nilFunc) 1 8 := ⟨Tryd.t56, Tryd.type56, rfl, rfl, rfl, rfl, by simp [Value.cells, Value.oneCell']⟩
instance Tryd.agf57 : AgF Tryd.prog 57 false := ⟨Tryd.isAgg57⟩
instance Tryd.elf57 : ElF Tryd.prog 57 (.nilFunc) 1 8 := ⟨Tryd.t57, Tryd.type57, rfl, rfl, rfl, rfl, by simp [Value.cells, Value.oneCell']⟩
instance Tryd.agf58 : AgF Tryd.prog 58 false := ⟨Tryd.isAgg58⟩
instance Tryd.elf58 : ElF Tryd.prog 58 (.nilFunc) 1 8 := ⟨Tryd.t58, Tryd.type58, rfl, rfl, rfl, rfl, by simp [Value.cells, Value.oneCell']⟩
instance Tryd.und59 : Und Tryd.prog 59 (.pointer 62) := ⟨Tryd.underlying59⟩
instance Tryd.agf59 : AgF Tryd.prog 59 false := ⟨Tryd.isAgg59⟩
instance Tryd.elf59 : ElF Tryd.prog 59 (.pointer none) 1 8 := ⟨Tryd.t59, Tryd.type59, rfl, rfl, rfl, rfl, by simp [Value.cells, Value.oneCell']⟩
instance Tryd.und60 : Und Tryd.prog 60 (.slice 99) := ⟨Tryd.underlying60⟩
instance Tryd.agf60 : AgF Tryd.prog 60 false := ⟨Tryd.isAgg60⟩
instance Tryd.elf60 : ElF Tryd.prog 60 (.slice none 0 0) 1 24 := ⟨Tryd.t60, Tryd.type60, rfl, rfl, rfl, rfl, by simp [Value.cells, Value.oneCell']⟩
instance Tryd.agf61 : AgF Tryd.prog 61 true := ⟨Tryd.isAgg61⟩
instance Tryd.elf61 : ElF Tryd.prog 61 (.agg #[.pointer none, .int .i64 0, .int .i64 0, .int .i64 0, .int .i64 0, .slice none 0 0, .int .i64 0]) 7 72 := ⟨Tryd.t61, Tryd.type61, rfl, rfl, rfl, rfl, by simp [Value.cells, Value.oneCell']⟩
instance Tryd.fld61_0 : FldF Tryd.prog 61 0 0 1 false := ⟨_, _, Tryd.underlying61, rfl, rfl, by decide, fun w => ElF.size (e := Tryd.elf46) w, fun w => Tryd.isAgg46 w⟩
instance Tryd.fld61_1 : FldF Tryd.prog 61 1 1 4 true := ⟨_, _, Tryd.underlying61, rfl, rfl, by decide, fun w => ElF.size (e := Tryd.elf44) w, fun w => Tryd.isAgg44 w⟩
instance Tryd.fld61_2 : FldF Tryd.prog 61 2 5 1 false := ⟨_, _, Tryd.underlying61, rfl, rfl, by decide, fun w => ElF.size (e := Tryd.elf60) w, fun w => Tryd.isAgg60 w⟩
instance Tryd.fld61_3 : FldF Tryd.prog 61 3 6 1 false := ⟨_, _, Tryd.underlying61, rfl, rfl, by decide, fun w => ElF.size (e := Tryd.elf2) w, fun w => Tryd.isAgg2 w⟩
instance Tryd.agf62 : AgF Tryd.prog 62 true := ⟨Tryd.isAgg62⟩
instance Tryd.elf62 : ElF Tryd.prog 62 (.agg #[.pointer none, .int .i64 0, .int .i64 0, .int .i64 0, .int .i64 0, .slice none 0 0, .int .i64 0]) 7 72 := ⟨Tryd.t62, Tryd.type62, rfl, rfl, rfl, rfl, by simp [Value.cells, Value.oneCell']⟩
instance Tryd.fld62_0 : FldF Tryd.prog 62 0 0 1 false := ⟨_, _, Tryd.underlying62, rfl, rfl, by decide, fun w => ElF.size (e := Tryd.elf46) w, fun w => Tryd.isAgg46 w⟩
instance Tryd.fld62_1 : FldF Tryd.prog 62 1 1 4 true := ⟨_, _, Tryd.underlying62, rfl, rfl, by decide, fun w => ElF.size (e := Tryd.elf44) w, fun w => Tryd.isAgg44 w⟩
instance Tryd.fld62_2 : FldF Tryd.prog 62 2 5 1 false := ⟨_, _, Tryd.underlying62, rfl, rfl, by decide, fun w => ElF.size (e := Tryd.elf60) w, fun w => Tryd.isAgg60 w⟩
instance Tryd.fld62_3 : FldF Tryd.prog 62 3 6 1 false := ⟨_, _, Tryd.underlying62, rfl, rfl, by decide, fun w => ElF.size (e := Tryd.elf2) w, fun w => Tryd.isAgg2 w⟩
instance Tryd.agf63 : AgF Tryd.prog 63 false := ⟨Tryd.isAgg63⟩
instance Tryd.elf63 : ElF Tryd.prog 63 (.nilFunc) 1 8 := ⟨Tryd.t63, Tryd.type63, rfl, rfl, rfl, rfl, by simp [Value.cells, Value.oneCell']⟩
instance Tryd.agf64 : AgF Tryd.prog 64 false := ⟨Tryd.isAgg64⟩
instance Tryd.elf64 : ElF Tryd.prog 64 (.nilFunc) 1 8 := ⟨Tryd.t64, Tryd.type64, rfl, rfl, rfl, rfl, by simp [Value.cells, Value.oneCell']⟩
instance Tryd.agf65 : AgF Tryd.prog 65 false := ⟨Tryd.isAgg65⟩
instance Tryd.elf65 : ElF Tryd.prog 65 (.nilFunc) 1 8 := ⟨Tryd.t65, Tryd.type65, rfl, rfl, rfl, rfl, by simp [Value.cells, Value.oneCell']⟩
instance Tryd.und66 : Und Tryd.prog 66 (.slice 2) := ⟨Tryd.underlying66⟩
instance Tryd.agf66 : AgF Tryd.prog 66 false := ⟨Tryd.isAgg66⟩
instance Tryd.elf66 : ElF Tryd.prog 66 (.slice none 0 0) 1 24 := ⟨Tryd.t66, Tryd.type66, rfl, rfl, rfl, rfl, by simp [Value.cells, Value.oneCell']⟩
instance Tryd.agf67 : AgF Tryd.prog 67 false := ⟨Tryd.isAgg67⟩
instance Tryd.elf67 : ElF Tryd.prog 67 (.nilFunc) 1 8 := ⟨Tryd.t67, Tryd.type67, rfl, rfl, rfl, rfl, by simp [Value.cells, Value.oneCell']⟩
instance Tryd.agf68 : AgF Tryd.prog 68 false := ⟨Tryd.isAgg68⟩
instance Tryd.elf68 : ElF Tryd.prog 68 (.nilFunc) 1 8 := ⟨Tryd.t68, Tryd.type68, rfl, rfl, rfl, rfl, by simp [Value.cells, Value.oneCell']⟩
instance Tryd.agf69 : AgF Tryd.prog 69 false := ⟨Tryd.isAgg69⟩
instance Tryd.elf69 : ElF Tryd.prog 69 (.nilFunc) 1 8 := ⟨Tryd.t69, Tryd.type69, rfl, rfl, rfl, rfl, by simp [Value.cells, Value.oneCell']⟩
instance Tryd.agf70 : AgF Tryd.prog 70 false := ⟨Tryd.isAgg70⟩
instance Tryd.elf70 : ElF Tryd.prog 70 (.nilFunc) 1 8 := ⟨Tryd.t70, Tryd.type70, rfl, rfl, rfl, rfl, by simp [Value.cells, Value.oneCell']⟩
instance Tryd.und71 : Und Tryd.prog 71 (.array 4 46) := ⟨Tryd.underlying71⟩
instance Tryd.agf71 : AgF Tryd.prog 71 true := ⟨Tryd.isAgg71⟩
instance Tryd.elf71 : ElF Tryd.prog 71 (.agg #[.pointer none, .pointer none, .pointer none, .pointer none]) 4 32 := ⟨Tryd.t71, Tryd.type71, rfl, rfl, rfl, rfl, by simp [Value.cells, Value.oneCell']⟩
instance Tryd.agf73 : AgF Tryd.prog 73 false := ⟨Tryd.isAgg73⟩
instance Tryd.elf73 : ElF Tryd.prog 73 (.nilFunc) 1 8 := ⟨Tryd.t73, Tryd.type73, rfl, rfl, rfl, rfl, by simp [Value.cells, Value.oneCell']⟩
instance Tryd.agf75 : AgF Tryd.prog 75 false := ⟨Tryd.isAgg75⟩
instance Tryd.elf75 : ElF Tryd.prog 75 (.nilFunc) 1 8 := ⟨Tryd.t75, Tryd.type75, rfl, rfl, rfl, rfl, by simp [Value.cells, Value.oneCell']⟩
instance Tryd.agf76 : AgF Tryd.prog 76 false := ⟨Tryd.isAgg76⟩
instance Tryd.elf76 : ElF Tryd.prog 76 (.nilFunc) 1 8 := ⟨Tryd.t76, Tryd.type76, rfl, rfl, rfl, rfl, by simp [Value.cells, Value.oneCell']⟩
instance Tryd.agf77 : AgF Tryd.prog 77 false := ⟨Tryd.isAgg77⟩
instance Tryd.elf77 : ElF Tryd.prog 77 (.nilFunc) 1 8 := ⟨Tryd.t77, Tryd.type77, rfl, rfl, rfl, rfl, by simp [Value.cells, Value.oneCell']⟩
instance Tryd.agf78 : AgF Tryd.prog 78 false := ⟨Tryd.isAgg78⟩
instance Tryd.elf78 : ElF Tryd.prog 78 (.nilFunc) 1 8 := ⟨Tryd.t78, Tryd.type78, rfl, rfl, rfl, rfl, by simp [Value.cells, Value.oneCell']⟩
instance Tryd.agf79 : AgF Tryd.prog 79 false := ⟨Tryd.isAgg79⟩
instance Tryd.elf79 : ElF Tryd.prog 79 (.nilFunc) 1 8 := ⟨Tryd.t79, Tryd.type79, rfl, rfl, rfl, rfl, by simp [Value.cells, Value.oneCell']⟩
instance Tryd.agf80 : AgF Tryd.prog 80 false := ⟨Tryd.isAgg80⟩
instance Tryd.elf80 : ElF Tryd.prog 80 (.nilFunc) 1 8 := ⟨Tryd.t80, Tryd.type80, rfl, rfl, rfl, rfl, by simp [Value.cells, Value.oneCell']⟩
instance Tryd.agf81 : AgF Tryd.prog 81 false := ⟨Tryd.isAgg81⟩
instance Tryd.elf81 : ElF Tryd.prog 81 (.nilFunc) 1 8 := ⟨Tryd.t81, Tryd.type81, rfl, rfl, rfl, rfl, by simp [Value.cells, Value.oneCell']⟩
instance Tryd.agf82 : AgF Tryd.prog 82 false := ⟨Tryd.isAgg82⟩
instance Tryd.elf82 : ElF Tryd.prog 82 (.nilFunc) 1 8 := ⟨Tryd.t82, Tryd.type82, rfl, rfl, rfl, rfl, by simp [Value.cells, Value.oneCell']⟩
instance Tryd.agf83 : AgF Tryd.prog 83 false := ⟨Tryd.isAgg83⟩
instance Tryd.elf83 : ElF Tryd.prog 83 (.nilFunc) 1 8 := ⟨Tryd.t83, Tryd.type83, rfl, rfl, rfl, rfl, by simp [Value.cells, Value.oneCell']⟩
instance Tryd.agf84 : AgF Tryd.prog 84 false := ⟨Tryd.isAgg84⟩
instance Tryd.elf84 : ElF Tryd.prog 84 (.nilFunc) 1 8 := ⟨Tryd.t84, Tryd.type84, rfl, rfl, rfl, rfl, by simp [Value.cells, Value.oneCell']⟩
instance Tryd.agf85 : AgF Tryd.prog 85 false := ⟨Tryd.isAgg85⟩
instance Tryd.elf85 : ElF Tryd.prog 85 (.nilFunc) 1 8 := ⟨Tryd.t85, Tryd.type85, rfl, rfl, rfl, rfl, by simp [Value.cells, Value.oneCell']⟩
instance Tryd.agf86 : AgF Tryd.prog 86 false := ⟨Tryd.isAgg86⟩
instance Tryd.elf86 : ElF Tryd.prog 86 (.nilFunc) 1 8 := ⟨Tryd.t86, Tryd.type86, rfl, rfl, rfl, rfl, by simp [Value.cells, Value.oneCell']⟩
instance Tryd.agf87 : AgF Tryd.prog 87 false := ⟨Tryd.isAgg87⟩
instance Tryd.elf87 : ElF Tryd.prog 87 (.nilFunc) 1 8 := ⟨Tryd.t87, Tryd.type87, rfl, rfl, rfl, rfl, by simp [Value.cells, Value.oneCell']⟩
instance Tryd.und88 : Und Tryd.prog 88 (.slice 5) := ⟨Tryd.underlying88⟩
instance Tryd.agf88 : AgF Tryd.prog 88 false := ⟨Tryd.isAgg88⟩
instance Tryd.elf88 : ElF Tryd.prog 88 (.slice none 0 0) 1 24 := ⟨Tryd.t88, Tryd.type88, rfl, rfl, rfl, rfl, by simp [Value.cells, Value.oneCell']⟩
instance Tryd.agf89 : AgF Tryd.prog 89 false := ⟨Tryd.isAgg89⟩
instance Tryd.elf89 : ElF Tryd.prog 89 (.nilFunc) 1 8 := ⟨Tryd.t89, Tryd.type89, rfl, rfl, rfl, rfl, by simp [Value.cells, Value.oneCell']⟩
instance Tryd.agf90 : AgF Tryd.prog 90 false := ⟨Tryd.isAgg90⟩
instance Tryd.elf90 : ElF Tryd.prog 90 (.nilFunc) 1 8 := ⟨Tryd.t90, Tryd.type90, rfl, rfl, rfl, rfl, by simp [Value.cells, Value.oneCell']⟩
instance Tryd.und91 : Und Tryd.prog 91 (.slice 106) := ⟨Tryd.underlying91⟩
instance Tryd.agf91 : AgF Tryd.prog 91 false := ⟨Tryd.isAgg91⟩
instance Tryd.elf91 : ElF Tryd.prog 91 (.slice none 0 0) 1 24 := ⟨Tryd.t91, Tryd.type91, rfl, rfl, rfl, rfl, by simp [Value.cells, Value.oneCell']⟩
instance Tryd.agf92 : AgF Tryd.prog 92 true := ⟨Tryd.isAgg92⟩
instance Tryd.elf92 : ElF Tryd.prog 92 (.agg #[.int .i64 0, .int .i64 0, .int .i64 0, .int .i64 0, .slice none 0 0, .int .i64 0, .int .i64 0]) 7 72 := ⟨Tryd.t92, Tryd.type92, rfl, rfl, rfl, rfl, by simp [Value.cells, Value.oneCell']⟩
instance Tryd.fld92_0 : FldF Tryd.prog 92 0 0 4 true := ⟨_, _, Tryd.underlying92, rfl, rfl, by decide, fun w => ElF.size (e := Tryd.elf44) w, fun w => Tryd.isAgg44 w⟩
instance Tryd.fld92_1 : FldF Tryd.prog 92 1 4 1 false := ⟨_, _, Tryd.underlying92, rfl, rfl, by decide, fun w => ElF.size (e := Tryd.elf91) w, fun w => Tryd.isAgg91 w⟩
instance Tryd.fld92_2 : FldF Tryd.prog 92 2 5 1 false := ⟨_, _, Tryd.underlying92, rfl, rfl, by decide, fun w => ElF.size (e := Tryd.elf2) w, fun w => Tryd.isAgg2 w⟩
instance Tryd.fld92_3 : FldF Tryd.prog 92 3 6 1 false := ⟨_, _, Tryd.underlying92, rfl, rfl, by decide, fun w => ElF.size (e := Tryd.elf2) w, fun w => Tryd.isAgg2 w⟩
instance Tryd.agf93 : AgF Tryd.prog 93 true := ⟨Tryd.isAgg93⟩
instance Tryd.elf93 : ElF Tryd.prog 93 (.agg #[.int .i64 0, .int .i64 0, .int .i64 0, .int .i64 0, .slice none 0 0, .int .i64 0, .int .i64 0]) 7 72 := ⟨Tryd.t93, Tryd.type93, rfl, rfl, rfl, rfl, by simp [Value.cells, Value.oneCell']⟩
instance Tryd.fld93_0 : FldF Tryd.prog 93 0 0 4 true := ⟨_, _, Tryd.underlying93, rfl, rfl, by decide, fun w => ElF.size (e := Tryd.elf44) w, fun w => Tryd.isAgg44 w⟩
instance Tryd.fld93_1 : FldF Tryd.prog 93 1 4 1 false := ⟨_, _, Tryd.underlying93, rfl, rfl, by decide, fun w => ElF.size (e := Tryd.elf91) w, fun w => Tryd.isAgg91 w⟩
instance Tryd.fld93_2 : FldF Tryd.prog 93 2 5 1 false := ⟨_, _, Tryd.underlying93, rfl, rfl, by decide, fun w => ElF.size (e := Tryd.elf2) w, fun w => Tryd.isAgg2 w⟩
instance Tryd.fld93_3 : FldF Tryd.prog 93 3 6 1 false := ⟨_, _, Tryd.underlying93, rfl, rfl, by decide, fun w => ElF.size (e := Tryd.elf2) w, fun w => Tryd.isAgg2 w⟩
instance Tryd.und94 : Und Tryd.prog 94 (.slice 121) := ⟨Tryd.underlying94⟩
instance Tryd.agf94 : AgF Tryd.prog 94 false := ⟨Tryd.isAgg94⟩
instance Tryd.elf94 : ElF Tryd.prog 94 (.slice none 0 0) 1 24 := ⟨Tryd.t94, Tryd.type94, rfl, rfl, rfl, rfl, by simp [Value.cells, Value.oneCell']⟩
instance Tryd.agf95 : AgF Tryd.prog 95 true := ⟨Tryd.isAgg95⟩
instance Tryd.elf95 : ElF Tryd.prog 95 (.agg #[.int .i64 0, .int .i64 0, .int .i64 0, .int .i64 0, .slice none 0 0, .int .i64 0]) 6 64 := ⟨Tryd.t95, Tryd.type95, rfl, rfl, rfl, rfl, by simp [Value.cells, Value.oneCell']⟩
instance Tryd.fld95_0 : FldF Tryd.prog 95 0 0 4 true := ⟨_, _, Tryd.underlying95, rfl, rfl, by decide, fun w => ElF.size (e := Tryd.elf44) w, fun w => Tryd.isAgg44 w⟩
instance Tryd.fld95_1 : FldF Tryd.prog 95 1 4 1 false := ⟨_, _, Tryd.underlying95, rfl, rfl, by decide, fun w => ElF.size (e := Tryd.elf94) w, fun w => Tryd.isAgg94 w⟩
instance Tryd.fld95_2 : FldF Tryd.prog 95 2 5 1 false := ⟨_, _, Tryd.underlying95, rfl, rfl, by decide, fun w => ElF.size (e := Tryd.elf2) w, fun w => Tryd.isAgg2 w⟩
instance Tryd.agf96 : AgF Tryd.prog 96 true := ⟨Tryd.isAgg96⟩
instance Tryd.elf96 : ElF Tryd.prog 96 (.agg #[.int .i64 0, .int .i64 0, .int .i64 0, .int .i64 0, .slice none 0 0, .int .i64 0]) 6 64 := ⟨Tryd.t96, Tryd.type96, rfl, rfl, rfl, rfl, by simp [Value.cells, Value.oneCell']⟩
instance Tryd.fld96_0 : FldF Tryd.prog 96 0 0 4 true := ⟨_, _, Tryd.underlying96, rfl, rfl, by decide, fun w => ElF.size (e := Tryd.elf44) w, fun w => Tryd.isAgg44 w⟩
instance Tryd.fld96_1 : FldF Tryd.prog 96 1 4 1 false := ⟨_, _, Tryd.underlying96, rfl, rfl, by decide, fun w => ElF.size (e := Tryd.elf94) w, fun w => Tryd.isAgg94 w⟩
instance Tryd.fld96_2 : FldF Tryd.prog 96 2 5 1 false := ⟨_, _, Tryd.underlying96, rfl, rfl, by decide, fun w => ElF.size (e := Tryd.elf2) w, fun w => Tryd.isAgg2 w⟩
instance Tryd.agf97 : AgF Tryd.prog 97 false := ⟨Tryd.isAgg97⟩
instance Tryd.elf97 : ElF Tryd.prog 97 (.nilFunc) 1 8 := ⟨Tryd.t97, Tryd.type97, rfl, rfl, rfl, rfl, by simp [Value.cells, Value.oneCell']⟩
instance Tryd.agf98 : AgF Tryd.prog 98 true := ⟨Tryd.isAgg98⟩
instance Tryd.elf98 : ElF Tryd.prog 98 (.agg #[.int .i64 0, .int .i64 0, .string ⟨#[]⟩, .string ⟨#[]⟩, .string ⟨#[]⟩, .string ⟨#[]⟩, .slice none 0 0, .string ⟨#[]⟩, .int .i64 0, .slice none 0 0, .string ⟨#[]⟩]) 11 168 := ⟨Tryd.t98, Tryd.type98, rfl, rfl, rfl, rfl, by simp [Value.cells, Value.oneCell']⟩
instance Tryd.fld98_0 : FldF Tryd.prog 98 0 0 1 false := ⟨_, _, Tryd.underlying98, rfl, rfl, by decide, fun w => ElF.size (e := Tryd.elf2) w, fun w => Tryd.isAgg2 w⟩
instance Tryd.fld98_1 : FldF Tryd.prog 98 1 1 1 false := ⟨_, _, Tryd.underlying98, rfl, rfl, by decide, fun w => ElF.size (e := Tryd.elf2) w, fun w => Tryd.isAgg2 w⟩
instance Tryd.fld98_2 : FldF Tryd.prog 98 2 2 6 true := ⟨_, _, Tryd.underlying98, rfl, rfl, by decide, fun w => ElF.size (e := Tryd.elf36) w, fun w => Tryd.isAgg36 w⟩
instance Tryd.fld98_3 : FldF Tryd.prog 98 3 8 3 true := ⟨_, _, Tryd.underlying98, rfl, rfl, by decide, fun w => ElF.size (e := Tryd.elf24) w, fun w => Tryd.isAgg24 w⟩
instance Tryd.agf99 : AgF Tryd.prog 99 true := ⟨Tryd.isAgg99⟩
instance Tryd.elf99 : ElF Tryd.prog 99 (.agg #[.int .i64 0, .int .i64 0, .string ⟨#[]⟩, .string ⟨#[]⟩, .string ⟨#[]⟩, .string ⟨#[]⟩, .slice none 0 0, .string ⟨#[]⟩, .int .i64 0, .slice none 0 0, .string ⟨#[]⟩]) 11 168 := ⟨Tryd.t99, Tryd.type99, rfl, rfl, rfl, rfl, by simp [Value.cells, Value.oneCell']⟩
instance Tryd.fld99_0 : FldF Tryd.prog 99 0 0 1 false := ⟨_, _, Tryd.underlying99, rfl, rfl, by decide, fun w => ElF.size (e := Tryd.elf2) w, fun w => Tryd.isAgg2 w⟩
instance Tryd.fld99_1 : FldF Tryd.prog 99 1 1 1 false := ⟨_, _, Tryd.underlying99, rfl, rfl, by decide, fun w => ElF.size (e := Tryd.elf2) w, fun w => Tryd.isAgg2 w⟩
instance Tryd.fld99_2 : FldF Tryd.prog 99 2 2 6 true := ⟨_, _, Tryd.underlying99, rfl, rfl, by decide, fun w => ElF.size (e := Tryd.elf36) w, fun w => Tryd.isAgg36 w⟩
instance Tryd.fld99_3 : FldF Tryd.prog 99 3 8 3 true := ⟨_, _, Tryd.underlying99, rfl, rfl, by decide, fun w => ElF.size (e := Tryd.elf24) w, fun w => Tryd.isAgg24 w⟩
instance Tryd.agf100 : AgF Tryd.prog 100 false := ⟨Tryd.isAgg100⟩
instance Tryd.elf100 : ElF Tryd.prog 100 (.nilFunc) 1 8 := ⟨Tryd.t100, Tryd.type100, rfl, rfl, rfl, rfl, by simp [Value.cells, Value.oneCell']⟩
instance Tryd.agf101 : AgF Tryd.prog 101 false := ⟨Tryd.isAgg101⟩
instance Tryd.elf101 : ElF Tryd.prog 101 (.nilFunc) 1 8 := ⟨Tryd.t101, Tryd.type101, rfl, rfl, rfl, rfl, by simp [Value.cells, Value.oneCell']⟩
instance Tryd.agf102 : AgF Tryd.prog 102 false := ⟨Tryd.isAgg102⟩
instance Tryd.elf102 : ElF Tryd.prog 102 (.nilFunc) 1 8 := ⟨Tryd.t102, Tryd.type102, rfl, rfl, rfl, rfl, by simp [Value.cells, Value.oneCell']⟩
instance Tryd.agf103 : AgF Tryd.prog 103 false := ⟨Tryd.isAgg103⟩
instance Tryd.elf103 : ElF Tryd.prog 103 (.nilFunc) 1 8 := ⟨Tryd.t103, Tryd.type103, rfl, rfl, rfl, rfl, by simp [Value.cells, Value.oneCell']⟩
instance Tryd.agf104 : AgF Tryd.prog 104 false := ⟨Tryd.isAgg104⟩
instance Tryd.elf104 : ElF Tryd.prog 104 (.nilFunc) 1 8 := ⟨Tryd.t104, Tryd.type104, rfl, rfl, rfl, rfl, by simp [Value.cells, Value.oneCell']⟩
instance Tryd.agf105 : AgF Tryd.prog 105 true := ⟨Tryd.isAgg105⟩
instance Tryd.elf105 : ElF Tryd.prog 105 (.agg #[.string ⟨#[]⟩, .string ⟨#[]⟩, .string ⟨#[]⟩, .string ⟨#[]⟩, .slice none 0 0, .string ⟨#[]⟩, .int .i64 0, .slice none 0 0, .string ⟨#[]⟩, .slice none 0 0, .int .i64 0, .int .i64 0, .int .i64 0]) 13 200 := ⟨Tryd.t105, Tryd.type105, rfl, rfl, rfl, rfl, by simp [Value.cells, Value.oneCell']⟩
instance Tryd.fld105_0 : FldF Tryd.prog 105 0 0 6 true := ⟨_, _, Tryd.underlying105, rfl, rfl, by decide, fun w => ElF.size (e := Tryd.elf36) w, fun w => Tryd.isAgg36 w⟩
instance Tryd.fld105_1 : FldF Tryd.prog 105 1 6 3 true := ⟨_, _, Tryd.underlying105, rfl, rfl, by decide, fun w => ElF.size (e := Tryd.elf24) w, fun w => Tryd.isAgg24 w⟩
instance Tryd.fld105_2 : FldF Tryd.prog 105 2 9 1 false := ⟨_, _, Tryd.underlying105, rfl, rfl, by decide, fun w => ElF.size (e := Tryd.elf27) w, fun w => Tryd.isAgg27 w⟩
instance Tryd.fld105_3 : FldF Tryd.prog 105 3 10 1 false := ⟨_, _, Tryd.underlying105, rfl, rfl, by decide, fun w => ElF.size (e := Tryd.elf2) w, fun w => Tryd.isAgg2 w⟩
instance Tryd.fld105_4 : FldF Tryd.prog 105 4 11 1 false := ⟨_, _, Tryd.underlying105, rfl, rfl, by decide, fun w => ElF.size (e := Tryd.elf2) w, fun w => Tryd.isAgg2 w⟩
instance Tryd.fld105_5 : FldF Tryd.prog 105 5 12 1 false := ⟨_, _, Tryd.underlying105, rfl, rfl, by decide, fun w => ElF.size (e := Tryd.elf2) w, fun w => Tryd.isAgg2 w⟩
instance Tryd.agf106 : AgF Tryd.prog 106 true := ⟨Tryd.isAgg106⟩
instance Tryd.elf106 : ElF Tryd.prog 106 (.agg #[.string ⟨#[]⟩, .string ⟨#[]⟩, .string ⟨#[]⟩, .string ⟨#[]⟩, .slice none 0 0, .string ⟨#[]⟩, .int .i64 0, .slice none 0 0, .string ⟨#[]⟩, .slice none 0 0, .int .i64 0, .int .i64 0, .int .i64 0]) 13 200 := ⟨Tryd.t106, Tryd.type106, rfl, rfl, rfl, rfl, by simp [Value.cells, Value.oneCell']⟩
instance Tryd.fld106_0 : FldF Tryd.prog 106 0 0 6 true := ⟨_, _, Tryd.underlying106, rfl, rfl, by decide, fun w => ElF.size (e := Tryd.elf36) w, fun w => Tryd.isAgg36 w⟩
instance Tryd.fld106_1 : FldF Tryd.prog 106 1 6 3 true := ⟨_, _, Tryd.underlying106, rfl, rfl, by decide, fun w => ElF.size (e := Tryd.elf24) w, fun w => Tryd.isAgg24 w⟩
instance Tryd.fld106_2 : FldF Tryd.prog 106 2 9 1 false := ⟨_, _, Tryd.underlying106, rfl, rfl, by decide, fun w => ElF.size (e := Tryd.elf27) w, fun w => Tryd.isAgg27 w⟩
instance Tryd.fld106_3 : FldF Tryd.prog 106 3 10 1 false := ⟨_, _, Tryd.underlying106, rfl, rfl, by decide, fun w => ElF.size (e := Tryd.elf2) w, fun w => Tryd.isAgg2 w⟩
instance Tryd.fld106_4 : FldF Tryd.prog 106 4 11 1 false := ⟨_, _, Tryd.underlying106, rfl, rfl, by decide, fun w => ElF.size (e := Tryd.elf2) w, fun w => Tryd.isAgg2 w⟩
instance Tryd.fld106_5 : FldF Tryd.prog 106 5 12 1 false := ⟨_, _, Tryd.underlying106, rfl, rfl, by decide, fun w => ElF.size (e := Tryd.elf2) w, fun w => Tryd.isAgg2 w⟩
instance Tryd.agf107 : AgF Tryd.prog 107 false := ⟨Tryd.isAgg107⟩
instance Tryd.elf107 : ElF Tryd.prog 107 (.nilFunc) 1 8 := ⟨Tryd.t107, Tryd.type107, rfl, rfl, rfl, rfl, by simp [Value.cells, Value.oneCell']⟩
instance Tryd.agf108 : AgF Tryd.prog 108 false := ⟨Tryd.isAgg108⟩
instance Tryd.elf108 : ElF Tryd.prog 108 (.nilFunc) 1 8 := ⟨Tryd.t108, Tryd.type108, rfl, rfl, rfl, rfl, by simp [Value.cells, Value.oneCell']⟩
instance Tryd.agf109 : AgF Tryd.prog 109 false := ⟨Tryd.isAgg109⟩
instance Tryd.elf109 : ElF Tryd.prog 109 (.nilFunc) 1 8 := ⟨Tryd.t109, Tryd.type109, rfl, rfl, rfl, rfl, by simp [Value.cells, Value.oneCell']⟩
instance Tryd.und110 : Und Tryd.prog 110 (.array 256 4) := ⟨Tryd.underlying110⟩
instance Tryd.agf110 : AgF Tryd.prog 110 true := ⟨Tryd.isAgg110⟩
instance Tryd.elf110 : ElF Tryd.prog 110 (.agg (Array.replicate 256 (.bool false))) 256 256 := ⟨Tryd.t110, Tryd.type110, by kernel_rfl, by kernel_rfl, by kernel_rfl, by kernel_rfl, by kernel_rfl⟩
instance Tryd.und111 : Und Tryd.prog 111 (.array 256 4) := ⟨Tryd.underlying111⟩
instance Tryd.agf111 : AgF Tryd.prog 111 true := ⟨Tryd.isAgg111⟩
instance Tryd.elf111 : ElF Tryd.prog 111 (.agg (Array.replicate 256 (.bool false))) 256 256 := ⟨Tryd.t111, Tryd.type111, by kernel_rfl, by kernel_rfl, by kernel_rfl, by kernel_rfl, by kernel_rfl⟩
instance Tryd.agf113 : AgF Tryd.prog 113 false := ⟨Tryd.isAgg113⟩
instance Tryd.elf113 : ElF Tryd.prog 113 (.nilFunc) 1 8 := ⟨Tryd.t113, Tryd.type113, rfl, rfl, rfl, rfl, by simp [Value.cells, Value.oneCell']⟩
instance Tryd.agf114 : AgF Tryd.prog 114 false := ⟨Tryd.isAgg114⟩
instance Tryd.elf114 : ElF Tryd.prog 114 (.nilFunc) 1 8 := ⟨Tryd.t114, Tryd.type114, rfl, rfl, rfl, rfl, by simp [Value.cells, Value.oneCell']⟩
instance Tryd.und115 : Und Tryd.prog 115 (.pointer 111) := ⟨Tryd.underlying115⟩
instance Tryd.agf115 : AgF Tryd.prog 115 false := ⟨Tryd.isAgg115⟩
instance Tryd.elf115 : ElF Tryd.prog 115 (.pointer none) 1 8 := ⟨Tryd.t115, Tryd.type115, rfl, rfl, rfl, rfl, by simp [Value.cells, Value.oneCell']⟩
instance Tryd.agf116 : AgF Tryd.prog 116 false := ⟨Tryd.isAgg116⟩
instance Tryd.elf116 : ElF Tryd.prog 116 (.nilFunc) 1 8 := ⟨Tryd.t116, Tryd.type116, rfl, rfl, rfl, rfl, by simp [Value.cells, Value.oneCell']⟩
instance Tryd.agf117 : AgF Tryd.prog 117 false := ⟨Tryd.isAgg117⟩
instance Tryd.elf117 : ElF Tryd.prog 117 (.nilFunc) 1 8 := ⟨Tryd.t117, Tryd.type117, rfl, rfl, rfl, rfl, by simp [Value.cells, Value.oneCell']⟩
instance Tryd.agf118 : AgF Tryd.prog 118 false := ⟨Tryd.isAgg118⟩
instance Tryd.elf118 : ElF Tryd.prog 118 (.nilFunc) 1 8 := ⟨Tryd.t118, Tryd.type118, rfl, rfl, rfl, rfl, by simp [Value.cells, Value.oneCell']⟩
instance Tryd.agf119 : AgF Tryd.prog 119 false := ⟨Tryd.isAgg119⟩
instance Tryd.elf119 : ElF Tryd.prog 119 (.nilFunc) 1 8 := ⟨Tryd.t119, Tryd.type119, rfl, rfl, rfl, rfl, by simp [Value.cells, Value.oneCell']⟩
instance Tryd.agf120 : AgF Tryd.prog 120 true := ⟨Tryd.isAgg120⟩
instance Tryd.elf120 : ElF Tryd.prog 120 (.agg #[.string ⟨#[]⟩, .string ⟨#[]⟩, .string ⟨#[]⟩, .string ⟨#[]⟩, .slice none 0 0, .string ⟨#[]⟩, .int .i64 0, .slice none 0 0, .string ⟨#[]⟩, .int .i64 0, .int .i64 0]) 11 168 := ⟨Tryd.t120, Tryd.type120, rfl, rfl, rfl, rfl, by simp [Value.cells, Value.oneCell']⟩
instance Tryd.fld120_0 : FldF Tryd.prog 120 0 0 6 true := ⟨_, _, Tryd.underlying120, rfl, rfl, by decide, fun w => ElF.size (e := Tryd.elf36) w, fun w => Tryd.isAgg36 w⟩
instance Tryd.fld120_1 : FldF Tryd.prog 120 1 6 3 true := ⟨_, _, Tryd.underlying120, rfl, rfl, by decide, fun w => ElF.size (e := Tryd.elf24) w, fun w => Tryd.isAgg24 w⟩
instance Tryd.fld120_2 : FldF Tryd.prog 120 2 9 1 false := ⟨_, _, Tryd.underlying120, rfl, rfl, by decide, fun w => ElF.size (e := Tryd.elf2) w, fun w => Tryd.isAgg2 w⟩
instance Tryd.fld120_3 : FldF Tryd.prog 120 3 10 1 false := ⟨_, _, Tryd.underlying120, rfl, rfl, by decide, fun w => ElF.size (e := Tryd.elf2) w, fun w => Tryd.isAgg2 w⟩
instance Tryd.agf121 : AgF Tryd.prog 121 true := ⟨Tryd.isAgg121⟩
instance Tryd.elf121 : ElF Tryd.prog 121 (.agg #[.string ⟨#[]⟩, .string ⟨#[]⟩, .string ⟨#[]⟩, .string ⟨#[]⟩, .slice none 0 0, .string ⟨#[]⟩, .int .i64 0, .slice none 0 0, .string ⟨#[]⟩, .int .i64 0, .int .i64 0]) 11 168 := ⟨Tryd.t121, Tryd.type121, rfl, rfl, rfl, rfl, by simp [Value.cells, Value.oneCell']⟩
instance Tryd.fld121_0 : FldF Tryd.prog 121 0 0 6 true := ⟨_, _, Tryd.underlying121, rfl, rfl, by decide, fun w => ElF.size (e := Tryd.elf36) w, fun w => Tryd.isAgg36 w⟩
instance Tryd.fld121_1 : FldF Tryd.prog 121 1 6 3 true := ⟨_, _, Tryd.underlying121, rfl, rfl, by decide, fun w => ElF.size (e := Tryd.elf24) w, fun w => Tryd.isAgg24 w⟩
instance Tryd.fld121_2 : FldF Tryd.prog 121 2 9 1 false := ⟨_, _, Tryd.underlying121, rfl, rfl, by decide, fun w => ElF.size (e := Tryd.elf2) w, fun w => Tryd.isAgg2 w⟩
instance Tryd.fld121_3 : FldF Tryd.prog 121 3 10 1 false := ⟨_, _, Tryd.underlying121, rfl, rfl, by decide, fun w => ElF.size (e := Tryd.elf2) w, fun w => Tryd.isAgg2 w⟩
instance Tryd.agf122 : AgF Tryd.prog 122 false := ⟨Tryd.isAgg122⟩
instance Tryd.elf122 : ElF Tryd.prog 122 (.nilFunc) 1 8 := ⟨Tryd.t122, Tryd.type122, rfl, rfl, rfl, rfl, by simp [Value.cells, Value.oneCell']⟩
instance Tryd.agf123 : AgF Tryd.prog 123 false := ⟨Tryd.isAgg123⟩
instance Tryd.elf123 : ElF Tryd.prog 123 (.nilFunc) 1 8 := ⟨Tryd.t123, Tryd.type123, rfl, rfl, rfl, rfl, by simp [Value.cells, Value.oneCell']⟩
instance Tryd.agf124 : AgF Tryd.prog 124 false := ⟨Tryd.isAgg124⟩
instance Tryd.elf124 : ElF Tryd.prog 124 (.nilFunc) 1 8 := ⟨Tryd.t124, Tryd.type124, rfl, rfl, rfl, rfl, by simp [Value.cells, Value.oneCell']⟩
instance Tryd.agf125 : AgF Tryd.prog 125 false := ⟨Tryd.isAgg125⟩
instance Tryd.elf125 : ElF Tryd.prog 125 (.nilFunc) 1 8 := ⟨Tryd.t125, Tryd.type125, rfl, rfl, rfl, rfl, by simp [Value.cells, Value.oneCell']⟩
instance Tryd.agf126 : AgF Tryd.prog 126 false := ⟨Tryd.isAgg126⟩
instance Tryd.elf126 : ElF Tryd.prog 126 (.nilFunc) 1 8 := ⟨Tryd.t126, Tryd.type126, rfl, rfl, rfl, rfl, by simp [Value.cells, Value.oneCell']⟩
instance Tryd.agf127 : AgF Tryd.prog 127 false := ⟨Tryd.isAgg127⟩
instance Tryd.elf127 : ElF Tryd.prog 127 (.nilFunc) 1 8 := ⟨Tryd.t127, Tryd.type127, rfl, rfl, rfl, rfl, by simp [Value.cells, Value.oneCell']⟩
instance Tryd.agf128 : AgF Tryd.prog 128 false := ⟨Tryd.isAgg128⟩
instance Tryd.elf128 : ElF Tryd.prog 128 (.nilFunc) 1 8 := ⟨Tryd.t128, Tryd.type128, rfl, rfl, rfl, rfl, by simp [Value.cells, Value.oneCell']⟩
instance Tryd.agf130 : AgF Tryd.prog 130 false := ⟨Tryd.isAgg130⟩
instance Tryd.elf130 : ElF Tryd.prog 130 (.nilFunc) 1 8 := ⟨Tryd.t130, Tryd.type130, rfl, rfl, rfl, rfl, by simp [Value.cells, Value.oneCell']⟩
instance Tryd.agf131 : AgF Tryd.prog 131 false := ⟨Tryd.isAgg131⟩
instance Tryd.elf131 : ElF Tryd.prog 131 (.nilFunc) 1 8 := ⟨Tryd.t131, Tryd.type131, rfl, rfl, rfl, rfl, by simp [Value.cells, Value.oneCell']⟩
instance Tryd.agf132 : AgF Tryd.prog 132 false := ⟨Tryd.isAgg132⟩
instance Tryd.elf132 : ElF Tryd.prog 132 (.nilFunc) 1 8 := ⟨Tryd.t132, Tryd.type132, rfl, rfl, rfl, rfl, by simp [Value.cells, Value.oneCell']⟩
instance Tryd.agf133 : AgF Tryd.prog 133 false := ⟨Tryd.isAgg133⟩
instance Tryd.elf133 : ElF Tryd.prog 133 (.nilFunc) 1 8 := ⟨Tryd.t133, Tryd.type133, rfl, rfl, rfl, rfl, by simp [Value.cells, Value.oneCell']⟩
instance Tryd.agf134 : AgF Tryd.prog 134 false := ⟨Tryd.isAgg134⟩
instance Tryd.elf134 : ElF Tryd.prog 134 (.nilFunc) 1 8 := ⟨Tryd.t134, Tryd.type134, rfl, rfl, rfl, rfl, by simp [Value.cells, Value.oneCell']⟩
instance Tryd.agf135 : AgF Tryd.prog 135 false := ⟨Tryd.isAgg135⟩
instance Tryd.elf135 : ElF Tryd.prog 135 (.nilFunc) 1 8 := ⟨Tryd.t135, Tryd.type135, rfl, rfl, rfl, rfl, by simp [Value.cells, Value.oneCell']⟩
instance Tryd.und136 : Und Tryd.prog 136 (.array 256 5) := ⟨Tryd.underlying136⟩
instance Tryd.agf136 : AgF Tryd.prog 136 true := ⟨Tryd.isAgg136⟩
instance Tryd.elf136 : ElF Tryd.prog 136 (.agg (Array.replicate 256 (.int .u8 0))) 256 256 := ⟨Tryd.t136, Tryd.type136, by kernel_rfl, by kernel_rfl, by kernel_rfl, by kernel_rfl, by kernel_rfl⟩
instance Tryd.agf137 : AgF Tryd.prog 137 true := ⟨Tryd.isAgg137⟩
instance Tryd.elf137 : ElF Tryd.prog 137 (.agg #[.int .u8 0, .int .u8 0]) 2 2 := ⟨Tryd.t137, Tryd.type137, rfl, rfl, rfl, rfl, by simp [Value.cells, Value.oneCell']⟩
instance Tryd.fld137_0 : FldF Tryd.prog 137 0 0 1 false := ⟨_, _, Tryd.underlying137, rfl, rfl, by decide, fun w => ElF.size (e := Tryd.elf5) w, fun w => Tryd.isAgg5 w⟩
instance Tryd.fld137_1 : FldF Tryd.prog 137 1 1 1 false := ⟨_, _, Tryd.underlying137, rfl, rfl, by decide, fun w => ElF.size (e := Tryd.elf5) w, fun w => Tryd.isAgg5 w⟩
instance Tryd.agf138 : AgF Tryd.prog 138 true := ⟨Tryd.isAgg138⟩
instance Tryd.elf138 : ElF Tryd.prog 138 (.agg #[.int .u8 0, .int .u8 0]) 2 2 := ⟨Tryd.t138, Tryd.type138, rfl, rfl, rfl, rfl, by simp [Value.cells, Value.oneCell']⟩
instance Tryd.fld138_0 : FldF Tryd.prog 138 0 0 1 false := ⟨_, _, Tryd.underlying138, rfl, rfl, by decide, fun w => ElF.size (e := Tryd.elf5) w, fun w => Tryd.isAgg5 w⟩
instance Tryd.fld138_1 : FldF Tryd.prog 138 1 1 1 false := ⟨_, _, Tryd.underlying138, rfl, rfl, by decide, fun w => ElF.size (e := Tryd.elf5) w, fun w => Tryd.isAgg5 w⟩
instance Tryd.und139 : Und Tryd.prog 139 (.array 16 138) := ⟨Tryd.underlying139⟩
instance Tryd.agf139 : AgF Tryd.prog 139 true := ⟨Tryd.isAgg139⟩
instance Tryd.elf139 : ElF Tryd.prog 139 (.agg #[.int .u8 0, .int .u8 0, .int .u8 0, .int .u8 0, .int .u8 0, .int .u8 0, .int .u8 0, .int .u8 0, .int .u8 0, .int .u8 0, .int .u8 0, .int .u8 0, .int .u8 0, .int .u8 0, .int .u8 0, .int .u8 0, .int .u8 0, .int .u8 0, .int .u8 0, .int .u8 0, .int .u8 0, .int .u8 0, .int .u8 0, .int .u8 0, .int .u8 0, .int .u8 0, .int .u8 0, .int .u8 0, .int .u8 0, .int .u8 0, .int .u8 0, .int .u8 0]) 32 32 := ⟨Tryd.t139, Tryd.type139, rfl, rfl, rfl, rfl, by simp [Value.cells, Value.oneCell']⟩
instance Tryd.agf140 : AgF Tryd.prog 140 false := ⟨Tryd.isAgg140⟩
instance Tryd.elf140 : ElF Tryd.prog 140 (.nilFunc) 1 8 := ⟨Tryd.t140, Tryd.type140, rfl, rfl, rfl, rfl, by simp [Value.cells, Value.oneCell']⟩
instance Tryd.und141 : Und Tryd.prog 141 (.int .u32) := ⟨Tryd.underlying141⟩
instance Tryd.agf141 : AgF Tryd.prog 141 false := ⟨Tryd.isAgg141⟩
instance Tryd.elf141 : ElF Tryd.prog 141 (.int .u32 0) 1 4 := ⟨Tryd.t141, Tryd.type141, rfl, rfl, rfl, rfl, by simp [Value.cells, Value.oneCell']⟩
instance Tryd.agf143 : AgF Tryd.prog 143 false := ⟨Tryd.isAgg143⟩
instance Tryd.elf143 : ElF Tryd.prog 143 (.nilFunc) 1 8 := ⟨Tryd.t143, Tryd.type143, rfl, rfl, rfl, rfl, by simp [Value.cells, Value.oneCell']⟩
instance Tryd.agf144 : AgF Tryd.prog 144 false := ⟨Tryd.isAgg144⟩
instance Tryd.elf144 : ElF Tryd.prog 144 (.nilFunc) 1 8 := ⟨Tryd.t144, Tryd.type144, rfl, rfl, rfl, rfl, by simp [Value.cells, Value.oneCell']⟩
instance Tryd.agf145 : AgF Tryd.prog 145 true := ⟨Tryd.isAgg145⟩
instance Tryd.elf145 : ElF Tryd.prog 145 (.agg #[.pointer none, .pointer none, .pointer none, .string ⟨#[]⟩]) 4 40 := ⟨Tryd.t145, Tryd.type145, rfl, rfl, rfl, rfl, by simp [Value.cells, Value.oneCell']⟩
instance Tryd.fld145_0 : FldF Tryd.prog 145 0 0 1 false := ⟨_, _, Tryd.underlying145, rfl, rfl, by decide, fun w => ElF.size (e := Tryd.elf17) w, fun w => Tryd.isAgg17 w⟩
instance Tryd.fld145_1 : FldF Tryd.prog 145 1 1 1 false := ⟨_, _, Tryd.underlying145, rfl, rfl, by decide, fun w => ElF.size (e := Tryd.elf17) w, fun w => Tryd.isAgg17 w⟩
instance Tryd.fld145_2 : FldF Tryd.prog 145 2 2 1 false := ⟨_, _, Tryd.underlying145, rfl, rfl, by decide, fun w => ElF.size (e := Tryd.elf17) w, fun w => Tryd.isAgg17 w⟩
instance Tryd.fld145_3 : FldF Tryd.prog 145 3 3 1 false := ⟨_, _, Tryd.underlying145, rfl, rfl, by decide, fun w => ElF.size (e := Tryd.elf9) w, fun w => Tryd.isAgg9 w⟩
instance Tryd.agf146 : AgF Tryd.prog 146 true := ⟨Tryd.isAgg146⟩
instance Tryd.elf146 : ElF Tryd.prog 146 (.agg #[.pointer none, .pointer none, .pointer none, .string ⟨#[]⟩]) 4 40 := ⟨Tryd.t146, Tryd.type146, rfl, rfl, rfl, rfl, by simp [Value.cells, Value.oneCell']⟩
instance Tryd.fld146_0 : FldF Tryd.prog 146 0 0 1 false := ⟨_, _, Tryd.underlying146, rfl, rfl, by decide, fun w => ElF.size (e := Tryd.elf17) w, fun w => Tryd.isAgg17 w⟩
instance Tryd.fld146_1 : FldF Tryd.prog 146 1 1 1 false := ⟨_, _, Tryd.underlying146, rfl, rfl, by decide, fun w => ElF.size (e := Tryd.elf17) w, fun w => Tryd.isAgg17 w⟩
instance Tryd.fld146_2 : FldF Tryd.prog 146 2 2 1 false := ⟨_, _, Tryd.underlying146, rfl, rfl, by decide, fun w => ElF.size (e := Tryd.elf17) w, fun w => Tryd.isAgg17 w⟩
instance Tryd.fld146_3 : FldF Tryd.prog 146 3 3 1 false := ⟨_, _, Tryd.underlying146, rfl, rfl, by decide, fun w => ElF.size (e := Tryd.elf9) w, fun w => Tryd.isAgg9 w⟩
instance Tryd.und147 : Und Tryd.prog 147 (.array 0 16) := ⟨Tryd.underlying147⟩
instance Tryd.agf147 : AgF Tryd.prog 147 true := ⟨Tryd.isAgg147⟩
instance Tryd.agf148 : AgF Tryd.prog 148 true := ⟨Tryd.isAgg148⟩
instance Tryd.agf149 : AgF Tryd.prog 149 true := ⟨Tryd.isAgg149⟩
instance Tryd.und150 : Und Tryd.prog 150 (.int .u8) := ⟨Tryd.underlying150⟩
instance Tryd.agf150 : AgF Tryd.prog 150 false := ⟨Tryd.isAgg150⟩
instance Tryd.elf150 : ElF Tryd.prog 150 (.int .u8 0) 1 1 := ⟨Tryd.t150, Tryd.type150, rfl, rfl, rfl, rfl, by simp [Value.cells, Value.oneCell']⟩
instance Tryd.und151 : Und Tryd.prog 151 (.int .u8) := ⟨Tryd.underlying151⟩
instance Tryd.agf151 : AgF Tryd.prog 151 false := ⟨Tryd.isAgg151⟩
instance Tryd.elf151 : ElF Tryd.prog 151 (.int .u8 0) 1 1 := ⟨Tryd.t151, Tryd.type151, rfl, rfl, rfl, rfl, by simp [Value.cells, Value.oneCell']⟩
instance Tryd.agf152 : AgF Tryd.prog 152 false := ⟨Tryd.isAgg152⟩
instance Tryd.elf152 : ElF Tryd.prog 152 (.nilFunc) 1 8 := ⟨Tryd.t152, Tryd.type152, rfl, rfl, rfl, rfl, by simp [Value.cells, Value.oneCell']⟩
instance Tryd.und153 : Und Tryd.prog 153 (.pointer 5) := ⟨Tryd.underlying153⟩
instance Tryd.agf153 : AgF Tryd.prog 153 false := ⟨Tryd.isAgg153⟩
instance Tryd.elf153 : ElF Tryd.prog 153 (.pointer none) 1 8 := ⟨Tryd.t153, Tryd.type153, rfl, rfl, rfl, rfl, by simp [Value.cells, Value.oneCell']⟩
instance Tryd.und154 : Und Tryd.prog 154 (.int .i32) := ⟨Tryd.underlying154⟩
instance Tryd.agf154 : AgF Tryd.prog 154 false := ⟨Tryd.isAgg154⟩
instance Tryd.elf154 : ElF Tryd.prog 154 (.int .i32 0) 1 4 := ⟨Tryd.t154, Tryd.type154, rfl, rfl, rfl, rfl, by simp [Value.cells, Value.oneCell']⟩
instance Tryd.und155 : Und Tryd.prog 155 (.int .i32) := ⟨Tryd.underlying155⟩
instance Tryd.agf155 : AgF Tryd.prog 155 false := ⟨Tryd.isAgg155⟩
instance Tryd.elf155 : ElF Tryd.prog 155 (.int .i32 0) 1 4 := ⟨Tryd.t155, Tryd.type155, rfl, rfl, rfl, rfl, by simp [Value.cells, Value.oneCell']⟩
instance Tryd.agf156 : AgF Tryd.prog 156 true := ⟨Tryd.isAgg156⟩
instance Tryd.elf156 : ElF Tryd.prog 156 (.agg #[.int .u64 0, .int .u64 0, .int .u32 0, .int .u8 0, .int .u8 0, .int .u8 0, .int .u8 0, .nilFunc, .pointer none, .int .i32 0, .int .i32 0]) 11 48 := ⟨Tryd.t156, Tryd.type156, rfl, rfl, rfl, rfl, by simp [Value.cells, Value.oneCell']⟩
instance Tryd.fld156_0 : FldF Tryd.prog 156 0 0 1 false := ⟨_, _, Tryd.underlying156, rfl, rfl, by decide, fun w => ElF.size (e := Tryd.elf12) w, fun w => Tryd.isAgg12 w⟩
instance Tryd.fld156_1 : FldF Tryd.prog 156 1 1 1 false := ⟨_, _, Tryd.underlying156, rfl, rfl, by decide, fun w => ElF.size (e := Tryd.elf12) w, fun w => Tryd.isAgg12 w⟩
instance Tryd.fld156_2 : FldF Tryd.prog 156 2 2 1 false := ⟨_, _, Tryd.underlying156, rfl, rfl, by decide, fun w => ElF.size (e := Tryd.elf141) w, fun w => Tryd.isAgg141 w⟩
instance Tryd.fld156_3 : FldF Tryd.prog 156 3 3 1 false := ⟨_, _, Tryd.underlying156, rfl, rfl, by decide, fun w => ElF.size (e := Tryd.elf150) w, fun w => Tryd.isAgg150 w⟩
instance Tryd.fld156_4 : FldF Tryd.prog 156 4 4 1 false := ⟨_, _, Tryd.underlying156, rfl, rfl, by decide, fun w => ElF.size (e := Tryd.elf5) w, fun w => Tryd.isAgg5 w⟩
instance Tryd.fld156_5 : FldF Tryd.prog 156 5 5 1 false := ⟨_, _, Tryd.underlying156, rfl, rfl, by decide, fun w => ElF.size (e := Tryd.elf5) w, fun w => Tryd.isAgg5 w⟩
instance Tryd.fld156_6 : FldF Tryd.prog 156 6 6 1 false := ⟨_, _, Tryd.underlying156, rfl, rfl, by decide, fun w => ElF.size (e := Tryd.elf151) w, fun w => Tryd.isAgg151 w⟩
instance Tryd.fld156_7 : FldF Tryd.prog 156 7 7 1 false := ⟨_, _, Tryd.underlying156, rfl, rfl, by decide, fun w => ElF.size (e := Tryd.elf152) w, fun w => Tryd.isAgg152 w⟩
instance Tryd.fld156_8 : FldF Tryd.prog 156 8 8 1 false := ⟨_, _, Tryd.underlying156, rfl, rfl, by decide, fun w => ElF.size (e := Tryd.elf153) w, fun w => Tryd.isAgg153 w⟩
instance Tryd.fld156_9 : FldF Tryd.prog 156 9 9 1 false := ⟨_, _, Tryd.underlying156, rfl, rfl, by decide, fun w => ElF.size (e := Tryd.elf154) w, fun w => Tryd.isAgg154 w⟩
instance Tryd.fld156_10 : FldF Tryd.prog 156 10 10 1 false := ⟨_, _, Tryd.underlying156, rfl, rfl, by decide, fun w => ElF.size (e := Tryd.elf155) w, fun w => Tryd.isAgg155 w⟩
instance Tryd.agf157 : AgF Tryd.prog 157 true := ⟨Tryd.isAgg157⟩
instance Tryd.elf157 : ElF Tryd.prog 157 (.agg #[.int .u64 0, .int .u64 0, .int .u32 0, .int .u8 0, .int .u8 0, .int .u8 0, .int .u8 0, .nilFunc, .pointer none, .int .i32 0, .int .i32 0]) 11 48 := ⟨Tryd.t157, Tryd.type157, rfl, rfl, rfl, rfl, by simp [Value.cells, Value.oneCell']⟩
instance Tryd.fld157_0 : FldF Tryd.prog 157 0 0 1 false := ⟨_, _, Tryd.underlying157, rfl, rfl, by decide, fun w => ElF.size (e := Tryd.elf12) w, fun w => Tryd.isAgg12 w⟩
instance Tryd.fld157_1 : FldF Tryd.prog 157 1 1 1 false := ⟨_, _, Tryd.underlying157, rfl, rfl, by decide, fun w => ElF.size (e := Tryd.elf12) w, fun w => Tryd.isAgg12 w⟩
instance Tryd.fld157_2 : FldF Tryd.prog 157 2 2 1 false := ⟨_, _, Tryd.underlying157, rfl, rfl, by decide, fun w => ElF.size (e := Tryd.elf141) w, fun w => Tryd.isAgg141 w⟩
instance Tryd.fld157_3 : FldF Tryd.prog 157 3 3 1 false := ⟨_, _, Tryd.underlying157, rfl, rfl, by decide, fun w => ElF.size (e := Tryd.elf150) w, fun w => Tryd.isAgg150 w⟩
instance Tryd.fld157_4 : FldF Tryd.prog 157 4 4 1 false := ⟨_, _, Tryd.underlying157, rfl, rfl, by decide, fun w => ElF.size (e := Tryd.elf5) w, fun w => Tryd.isAgg5 w⟩
instance Tryd.fld157_5 : FldF Tryd.prog 157 5 5 1 false := ⟨_, _, Tryd.underlying157, rfl, rfl, by decide, fun w => ElF.size (e := Tryd.elf5) w, fun w => Tryd.isAgg5 w⟩
instance Tryd.fld157_6 : FldF Tryd.prog 157 6 6 1 false := ⟨_, _, Tryd.underlying157, rfl, rfl, by decide, fun w => ElF.size (e := Tryd.elf151) w, fun w => Tryd.isAgg151 w⟩
instance Tryd.fld157_7 : FldF Tryd.prog 157 7 7 1 false := ⟨_, _, Tryd.underlying157, rfl, rfl, by decide, fun w => ElF.size (e := Tryd.elf152) w, fun w => Tryd.isAgg152 w⟩
instance Tryd.fld157_8 : FldF Tryd.prog 157 8 8 1 false := ⟨_, _, Tryd.underlying157, rfl, rfl, by decide, fun w => ElF.size (e := Tryd.elf153) w, fun w => Tryd.isAgg153 w⟩
instance Tryd.fld157_9 : FldF Tryd.prog 157 9 9 1 false := ⟨_, _, Tryd.underlying157, rfl, rfl, by decide, fun w => ElF.size (e := Tryd.elf154) w, fun w => Tryd.isAgg154 w⟩
instance Tryd.fld157_10 : FldF Tryd.prog 157 10 10 1 false := ⟨_, _, Tryd.underlying157, rfl, rfl, by decide, fun w => ElF.size (e := Tryd.elf155) w, fun w => Tryd.isAgg155 w⟩
instance Tryd.agf158 : AgF Tryd.prog 158 false := ⟨Tryd.isAgg158⟩
instance Tryd.elf158 : ElF Tryd.prog 158 (.pointer none) 1 8 := ⟨Tryd.t158, Tryd.type158, rfl, rfl, rfl, rfl, by simp [Value.cells, Value.oneCell']⟩
instance Tryd.str7 : StrF Tryd.prog 7 (.agg #[.int .i64 0, .int .i64 0, .bool false, .int .u8 0]) [(0, 1), (1, 1), (2, 1), (3, 1)] := ⟨Tryd.zeroValue7, _, Tryd.underlying7, fun w => by simp [ElF.size (e := Tryd.elf2), ElF.size (e := Tryd.elf3), ElF.size (e := Tryd.elf4), ElF.size (e := Tryd.elf6)]⟩
instance Tryd.str8 : StrF Tryd.prog 8 (.agg #[.int .i64 0, .int .i64 0, .bool false, .int .u8 0]) [(0, 1), (1, 1), (2, 1), (3, 1)] := ⟨Tryd.zeroValue8, _, Tryd.underlying8, fun w => by simp [ElF.size (e := Tryd.elf2), ElF.size (e := Tryd.elf3), ElF.size (e := Tryd.elf4), ElF.size (e := Tryd.elf6)]⟩
instance Tryd.str13 : StrF Tryd.prog 13 (.agg #[.string ⟨#[]⟩, .int .u64 0]) [(0, 1), (1, 1)] := ⟨Tryd.zeroValue13, _, Tryd.underlying13, fun w => by simp [ElF.size (e := Tryd.elf9), ElF.size (e := Tryd.elf12)]⟩
instance Tryd.str14 : StrF Tryd.prog 14 (.agg #[.string ⟨#[]⟩, .int .u64 0]) [(0, 1), (1, 1)] := ⟨Tryd.zeroValue14, _, Tryd.underlying14, fun w => by simp [ElF.size (e := Tryd.elf9), ElF.size (e := Tryd.elf12)]⟩
instance Tryd.str18 : StrF Tryd.prog 18 (.agg #[.pointer none]) [(0, 1)] := ⟨Tryd.zeroValue18, _, Tryd.underlying18, fun w => by simp [ElF.size (e := Tryd.elf17)]⟩
instance Tryd.str19 : StrF Tryd.prog 19 (.agg #[.pointer none]) [(0, 1)] := ⟨Tryd.zeroValue19, _, Tryd.underlying19, fun w => by simp [ElF.size (e := Tryd.elf17)]⟩
instance Tryd.str23 : StrF Tryd.prog 23 (.agg #[.int .i64 0, .slice none 0 0, .string ⟨#[]⟩]) [(0, 1), (1, 1), (2, 1)] := ⟨Tryd.zeroValue23, _, Tryd.underlying23, fun w => by simp [ElF.size (e := Tryd.elf3), ElF.size (e := Tryd.elf9), ElF.size (e := Tryd.elf22)]⟩
instance Tryd.str24 : StrF Tryd.prog 24 (.agg #[.int .i64 0, .slice none 0 0, .string ⟨#[]⟩]) [(0, 1), (1, 1), (2, 1)] := ⟨Tryd.zeroValue24, _, Tryd.underlying24, fun w => by simp [ElF.size (e := Tryd.elf3), ElF.size (e := Tryd.elf9), ElF.size (e := Tryd.elf22)]⟩
instance Tryd.str32 : StrF Tryd.prog 32 (.agg #[.string ⟨#[]⟩, .string ⟨#[]⟩, .bool false]) [(0, 1), (1, 1), (2, 1)] := ⟨Tryd.zeroValue32, _, Tryd.underlying32, fun w => by simp [ElF.size (e := Tryd.elf4), ElF.size (e := Tryd.elf9)]⟩
instance Tryd.str33 : StrF Tryd.prog 33 (.agg #[.string ⟨#[]⟩, .string ⟨#[]⟩, .bool false]) [(0, 1), (1, 1), (2, 1)] := ⟨Tryd.zeroValue33, _, Tryd.underlying33, fun w => by simp [ElF.size (e := Tryd.elf4), ElF.size (e := Tryd.elf9)]⟩
instance Tryd.eqt33 : EqT Tryd.prog 33 [.str, .str, .bool] := ⟨by kernel_rfl, eqd_struct Tryd.underlying33 Tryd.stoodInHeld33 (eqf_cons (ks1 := [.str]) (ks2 := [.str, .bool]) (by kernel_rfl) rfl (eqd_str (t := 9)) Tryd.isAgg9 (fun w => ElF.size (e := Tryd.elf9) w) (fun _ => rfl) (eqf_cons (ks1 := [.str]) (ks2 := [.bool]) (by kernel_rfl) rfl (eqd_str (t := 9)) Tryd.isAgg9 (fun w => ElF.size (e := Tryd.elf9) w) (fun _ => rfl) (eqf_cons (ks1 := [.bool]) (ks2 := []) (by kernel_rfl) rfl (eqd_bool (t := 4)) Tryd.isAgg4 (fun w => ElF.size (e := Tryd.elf4) w) (fun _ => rfl) eqf_nil)))⟩
instance Tryd.key33 : KeyF Tryd.prog 33 [.str, .str, .bool] := ⟨fun e us w h => chk_struct (n := 9999) Tryd.underlying33 (fun f hf => by simp only [List.mem_cons, List.not_mem_nil, or_false] at hf; rcases hf with rfl | rfl | rfl; exact chkd_str (t := 9) (fun w => Tryd.isAgg9 w); exact chkd_str (t := 9) (fun w => Tryd.isAgg9 w); exact chkd_bool (t := 4) (fun w => Tryd.isAgg4 w)) e us (fun f hf => by have hl := fitsB_len h; simp only [List.length_cons, List.length_nil] at hl; simp only [List.mem_cons, List.not_mem_nil, or_false] at hf; rcases hf with rfl | rfl | rfl <;> (simp only; omega)) w, Tryd.eqt33.h, ⟨_, Tryd.underlying33⟩⟩
instance Tryd.str35 : StrF Tryd.prog 35 (.agg #[.string ⟨#[]⟩, .string ⟨#[]⟩, .string ⟨#[]⟩, .string ⟨#[]⟩, .slice none 0 0, .string ⟨#[]⟩]) [(0, 1), (1, 1), (2, 1), (3, 1), (4, 1), (5, 1)] := ⟨Tryd.zeroValue35, _, Tryd.underlying35, fun w => by simp [ElF.size (e := Tryd.elf9), ElF.size (e := Tryd.elf22)]⟩
instance Tryd.str36 : StrF Tryd.prog 36 (.agg #[.string ⟨#[]⟩, .string ⟨#[]⟩, .string ⟨#[]⟩, .string ⟨#[]⟩, .slice none 0 0, .string ⟨#[]⟩]) [(0, 1), (1, 1), (2, 1), (3, 1), (4, 1), (5, 1)] := ⟨Tryd.zeroValue36, _, Tryd.underlying36, fun w => by simp [ElF.size (e := Tryd.elf9), ElF.size (e := Tryd.elf22)]⟩
instance Tryd.str43 : StrF Tryd.prog 43 (.agg #[.int .i64 0, .int .i64 0, .int .i64 0, .int .i64 0]) [(0, 1), (1, 1), (2, 1), (3, 1)] := ⟨Tryd.zeroValue43, _, Tryd.underlying43, fun w => by simp [ElF.size (e := Tryd.elf2)]⟩
instance Tryd.str44 : StrF Tryd.prog 44 (.agg #[.int .i64 0, .int .i64 0, .int .i64 0, .int .i64 0]) [(0, 1), (1, 1), (2, 1), (3, 1)] := ⟨Tryd.zeroValue44, _, Tryd.underlying44, fun w => by simp [ElF.size (e := Tryd.elf2)]⟩
instance Tryd.eqt44 : EqT Tryd.prog 44 [.int .i64, .int .i64, .int .i64, .int .i64] := ⟨by kernel_rfl, eqd_struct Tryd.underlying44 Tryd.stoodInHeld44 (eqf_cons (ks1 := [.int .i64]) (ks2 := [.int .i64, .int .i64, .int .i64]) (by kernel_rfl) rfl (eqd_int (t := 2)) Tryd.isAgg2 (fun w => ElF.size (e := Tryd.elf2) w) (fun _ => rfl) (eqf_cons (ks1 := [.int .i64]) (ks2 := [.int .i64, .int .i64]) (by kernel_rfl) rfl (eqd_int (t := 2)) Tryd.isAgg2 (fun w => ElF.size (e := Tryd.elf2) w) (fun _ => rfl) (eqf_cons (ks1 := [.int .i64]) (ks2 := [.int .i64]) (by kernel_rfl) rfl (eqd_int (t := 2)) Tryd.isAgg2 (fun w => ElF.size (e := Tryd.elf2) w) (fun _ => rfl) (eqf_cons (ks1 := [.int .i64]) (ks2 := []) (by kernel_rfl) rfl (eqd_int (t := 2)) Tryd.isAgg2 (fun w => ElF.size (e := Tryd.elf2) w) (fun _ => rfl) eqf_nil))))⟩
instance Tryd.key44 : KeyF Tryd.prog 44 [.int .i64, .int .i64, .int .i64, .int .i64] := ⟨fun e us w h => chk_struct (n := 9999) Tryd.underlying44 (fun f hf => by simp only [List.mem_cons, List.not_mem_nil, or_false] at hf; rcases hf with rfl | rfl | rfl | rfl; exact chkd_int (t := 2) (fun w => Tryd.isAgg2 w); exact chkd_int (t := 2) (fun w => Tryd.isAgg2 w); exact chkd_int (t := 2) (fun w => Tryd.isAgg2 w); exact chkd_int (t := 2) (fun w => Tryd.isAgg2 w)) e us (fun f hf => by have hl := fitsB_len h; simp only [List.length_cons, List.length_nil] at hl; simp only [List.mem_cons, List.not_mem_nil, or_false] at hf; rcases hf with rfl | rfl | rfl | rfl <;> (simp only; omega)) w, Tryd.eqt44.h, ⟨_, Tryd.underlying44⟩⟩
instance Tryd.str53 : StrF Tryd.prog 53 (.agg #[.int .i64 0, .bool false, .string ⟨#[]⟩, .string ⟨#[]⟩, .string ⟨#[]⟩, .string ⟨#[]⟩, .slice none 0 0, .string ⟨#[]⟩, .int .i64 0, .slice none 0 0, .string ⟨#[]⟩, .int .i64 0, .int .i64 0]) [(0, 1), (1, 1), (2, 6), (8, 3), (11, 1), (12, 1)] := ⟨Tryd.zeroValue53, _, Tryd.underlying53, fun w => by simp [ElF.size (e := Tryd.elf2), ElF.size (e := Tryd.elf3), ElF.size (e := Tryd.elf4), ElF.size (e := Tryd.elf24), ElF.size (e := Tryd.elf36)]⟩
instance Tryd.str54 : StrF Tryd.prog 54 (.agg #[.int .i64 0, .bool false, .string ⟨#[]⟩, .string ⟨#[]⟩, .string ⟨#[]⟩, .string ⟨#[]⟩, .slice none 0 0, .string ⟨#[]⟩, .int .i64 0, .slice none 0 0, .string ⟨#[]⟩, .int .i64 0, .int .i64 0]) [(0, 1), (1, 1), (2, 6), (8, 3), (11, 1), (12, 1)] := ⟨Tryd.zeroValue54, _, Tryd.underlying54, fun w => by simp [ElF.size (e := Tryd.elf2), ElF.size (e := Tryd.elf3), ElF.size (e := Tryd.elf4), ElF.size (e := Tryd.elf24), ElF.size (e := Tryd.elf36)]⟩
instance Tryd.str61 : StrF Tryd.prog 61 (.agg #[.pointer none, .int .i64 0, .int .i64 0, .int .i64 0, .int .i64 0, .slice none 0 0, .int .i64 0]) [(0, 1), (1, 4), (5, 1), (6, 1)] := ⟨Tryd.zeroValue61, _, Tryd.underlying61, fun w => by simp [ElF.size (e := Tryd.elf2), ElF.size (e := Tryd.elf44), ElF.size (e := Tryd.elf46), ElF.size (e := Tryd.elf60)]⟩
instance Tryd.str62 : StrF Tryd.prog 62 (.agg #[.pointer none, .int .i64 0, .int .i64 0, .int .i64 0, .int .i64 0, .slice none 0 0, .int .i64 0]) [(0, 1), (1, 4), (5, 1), (6, 1)] := ⟨Tryd.zeroValue62, _, Tryd.underlying62, fun w => by simp [ElF.size (e := Tryd.elf2), ElF.size (e := Tryd.elf44), ElF.size (e := Tryd.elf46), ElF.size (e := Tryd.elf60)]⟩
instance Tryd.str92 : StrF Tryd.prog 92 (.agg #[.int .i64 0, .int .i64 0, .int .i64 0, .int .i64 0, .slice none 0 0, .int .i64 0, .int .i64 0]) [(0, 4), (4, 1), (5, 1), (6, 1)] := ⟨Tryd.zeroValue92, _, Tryd.underlying92, fun w => by simp [ElF.size (e := Tryd.elf2), ElF.size (e := Tryd.elf44), ElF.size (e := Tryd.elf91)]⟩
instance Tryd.str93 : StrF Tryd.prog 93 (.agg #[.int .i64 0, .int .i64 0, .int .i64 0, .int .i64 0, .slice none 0 0, .int .i64 0, .int .i64 0]) [(0, 4), (4, 1), (5, 1), (6, 1)] := ⟨Tryd.zeroValue93, _, Tryd.underlying93, fun w => by simp [ElF.size (e := Tryd.elf2), ElF.size (e := Tryd.elf44), ElF.size (e := Tryd.elf91)]⟩
instance Tryd.str95 : StrF Tryd.prog 95 (.agg #[.int .i64 0, .int .i64 0, .int .i64 0, .int .i64 0, .slice none 0 0, .int .i64 0]) [(0, 4), (4, 1), (5, 1)] := ⟨Tryd.zeroValue95, _, Tryd.underlying95, fun w => by simp [ElF.size (e := Tryd.elf2), ElF.size (e := Tryd.elf44), ElF.size (e := Tryd.elf94)]⟩
instance Tryd.str96 : StrF Tryd.prog 96 (.agg #[.int .i64 0, .int .i64 0, .int .i64 0, .int .i64 0, .slice none 0 0, .int .i64 0]) [(0, 4), (4, 1), (5, 1)] := ⟨Tryd.zeroValue96, _, Tryd.underlying96, fun w => by simp [ElF.size (e := Tryd.elf2), ElF.size (e := Tryd.elf44), ElF.size (e := Tryd.elf94)]⟩
instance Tryd.str98 : StrF Tryd.prog 98 (.agg #[.int .i64 0, .int .i64 0, .string ⟨#[]⟩, .string ⟨#[]⟩, .string ⟨#[]⟩, .string ⟨#[]⟩, .slice none 0 0, .string ⟨#[]⟩, .int .i64 0, .slice none 0 0, .string ⟨#[]⟩]) [(0, 1), (1, 1), (2, 6), (8, 3)] := ⟨Tryd.zeroValue98, _, Tryd.underlying98, fun w => by simp [ElF.size (e := Tryd.elf2), ElF.size (e := Tryd.elf24), ElF.size (e := Tryd.elf36)]⟩
instance Tryd.str99 : StrF Tryd.prog 99 (.agg #[.int .i64 0, .int .i64 0, .string ⟨#[]⟩, .string ⟨#[]⟩, .string ⟨#[]⟩, .string ⟨#[]⟩, .slice none 0 0, .string ⟨#[]⟩, .int .i64 0, .slice none 0 0, .string ⟨#[]⟩]) [(0, 1), (1, 1), (2, 6), (8, 3)] := ⟨Tryd.zeroValue99, _, Tryd.underlying99, fun w => by simp [ElF.size (e := Tryd.elf2), ElF.size (e := Tryd.elf24), ElF.size (e := Tryd.elf36)]⟩
instance Tryd.str105 : StrF Tryd.prog 105 (.agg #[.string ⟨#[]⟩, .string ⟨#[]⟩, .string ⟨#[]⟩, .string ⟨#[]⟩, .slice none 0 0, .string ⟨#[]⟩, .int .i64 0, .slice none 0 0, .string ⟨#[]⟩, .slice none 0 0, .int .i64 0, .int .i64 0, .int .i64 0]) [(0, 6), (6, 3), (9, 1), (10, 1), (11, 1), (12, 1)] := ⟨Tryd.zeroValue105, _, Tryd.underlying105, fun w => by simp [ElF.size (e := Tryd.elf2), ElF.size (e := Tryd.elf24), ElF.size (e := Tryd.elf27), ElF.size (e := Tryd.elf36)]⟩
instance Tryd.str106 : StrF Tryd.prog 106 (.agg #[.string ⟨#[]⟩, .string ⟨#[]⟩, .string ⟨#[]⟩, .string ⟨#[]⟩, .slice none 0 0, .string ⟨#[]⟩, .int .i64 0, .slice none 0 0, .string ⟨#[]⟩, .slice none 0 0, .int .i64 0, .int .i64 0, .int .i64 0]) [(0, 6), (6, 3), (9, 1), (10, 1), (11, 1), (12, 1)] := ⟨Tryd.zeroValue106, _, Tryd.underlying106, fun w => by simp [ElF.size (e := Tryd.elf2), ElF.size (e := Tryd.elf24), ElF.size (e := Tryd.elf27), ElF.size (e := Tryd.elf36)]⟩
instance Tryd.str120 : StrF Tryd.prog 120 (.agg #[.string ⟨#[]⟩, .string ⟨#[]⟩, .string ⟨#[]⟩, .string ⟨#[]⟩, .slice none 0 0, .string ⟨#[]⟩, .int .i64 0, .slice none 0 0, .string ⟨#[]⟩, .int .i64 0, .int .i64 0]) [(0, 6), (6, 3), (9, 1), (10, 1)] := ⟨Tryd.zeroValue120, _, Tryd.underlying120, fun w => by simp [ElF.size (e := Tryd.elf2), ElF.size (e := Tryd.elf24), ElF.size (e := Tryd.elf36)]⟩
instance Tryd.str121 : StrF Tryd.prog 121 (.agg #[.string ⟨#[]⟩, .string ⟨#[]⟩, .string ⟨#[]⟩, .string ⟨#[]⟩, .slice none 0 0, .string ⟨#[]⟩, .int .i64 0, .slice none 0 0, .string ⟨#[]⟩, .int .i64 0, .int .i64 0]) [(0, 6), (6, 3), (9, 1), (10, 1)] := ⟨Tryd.zeroValue121, _, Tryd.underlying121, fun w => by simp [ElF.size (e := Tryd.elf2), ElF.size (e := Tryd.elf24), ElF.size (e := Tryd.elf36)]⟩
instance Tryd.str137 : StrF Tryd.prog 137 (.agg #[.int .u8 0, .int .u8 0]) [(0, 1), (1, 1)] := ⟨Tryd.zeroValue137, _, Tryd.underlying137, fun w => by simp [ElF.size (e := Tryd.elf5)]⟩
instance Tryd.str138 : StrF Tryd.prog 138 (.agg #[.int .u8 0, .int .u8 0]) [(0, 1), (1, 1)] := ⟨Tryd.zeroValue138, _, Tryd.underlying138, fun w => by simp [ElF.size (e := Tryd.elf5)]⟩
instance Tryd.str145 : StrF Tryd.prog 145 (.agg #[.pointer none, .pointer none, .pointer none, .string ⟨#[]⟩]) [(0, 1), (1, 1), (2, 1), (3, 1)] := ⟨Tryd.zeroValue145, _, Tryd.underlying145, fun w => by simp [ElF.size (e := Tryd.elf9), ElF.size (e := Tryd.elf17)]⟩
instance Tryd.str146 : StrF Tryd.prog 146 (.agg #[.pointer none, .pointer none, .pointer none, .string ⟨#[]⟩]) [(0, 1), (1, 1), (2, 1), (3, 1)] := ⟨Tryd.zeroValue146, _, Tryd.underlying146, fun w => by simp [ElF.size (e := Tryd.elf9), ElF.size (e := Tryd.elf17)]⟩
instance Tryd.str156 : StrF Tryd.prog 156 (.agg #[.int .u64 0, .int .u64 0, .int .u32 0, .int .u8 0, .int .u8 0, .int .u8 0, .int .u8 0, .nilFunc, .pointer none, .int .i32 0, .int .i32 0]) [(0, 1), (1, 1), (2, 1), (3, 1), (4, 1), (5, 1), (6, 1), (7, 1), (8, 1), (9, 1), (10, 1)] := ⟨Tryd.zeroValue156, _, Tryd.underlying156, fun w => by simp [ElF.size (e := Tryd.elf5), ElF.size (e := Tryd.elf12), ElF.size (e := Tryd.elf141), ElF.size (e := Tryd.elf150), ElF.size (e := Tryd.elf151), ElF.size (e := Tryd.elf152), ElF.size (e := Tryd.elf153), ElF.size (e := Tryd.elf154), ElF.size (e := Tryd.elf155)]⟩
instance Tryd.str157 : StrF Tryd.prog 157 (.agg #[.int .u64 0, .int .u64 0, .int .u32 0, .int .u8 0, .int .u8 0, .int .u8 0, .int .u8 0, .nilFunc, .pointer none, .int .i32 0, .int .i32 0]) [(0, 1), (1, 1), (2, 1), (3, 1), (4, 1), (5, 1), (6, 1), (7, 1), (8, 1), (9, 1), (10, 1)] := ⟨Tryd.zeroValue157, _, Tryd.underlying157, fun w => by simp [ElF.size (e := Tryd.elf5), ElF.size (e := Tryd.elf12), ElF.size (e := Tryd.elf141), ElF.size (e := Tryd.elf150), ElF.size (e := Tryd.elf151), ElF.size (e := Tryd.elf152), ElF.size (e := Tryd.elf153), ElF.size (e := Tryd.elf154), ElF.size (e := Tryd.elf155)]⟩
instance Tryd.mix : Mix Tryd.prog := ⟨by kernel_rfl⟩
instance Tryd.ent2 : Ent Tryd.prog 2 := ent_of Tryd.func2 (by kernel_rfl) rfl -- gosem.cut.init
instance Tryd.ent3 : Ent Tryd.prog 3 := ent_of Tryd.func3 (by kernel_rfl) rfl -- herald/heraldlaw16.VaryNames
instance Tryd.ent4 : Ent Tryd.prog 4 := ent_of Tryd.func4 (by kernel_rfl) rfl -- herald/heraldlaw16.VaryMatches
instance Tryd.ent5 : Ent Tryd.prog 5 := ent_of Tryd.func5 (by kernel_rfl) rfl -- herald/heraldlaw16.VaryAlike
instance Tryd.ent6 : Ent Tryd.prog 6 := ent_of Tryd.func6 (by kernel_rfl) rfl -- herald/heraldlaw16.VaryFields
instance Tryd.ent7 : Ent Tryd.prog 7 := ent_of Tryd.func7 (by kernel_rfl) rfl -- herald/heraldlaw16.VaryTold
instance Tryd.ent8 : Ent Tryd.prog 8 := ent_of Tryd.func8 (by kernel_rfl) rfl -- herald/heraldlaw19.CachePlays
instance Tryd.ent9 : Ent Tryd.prog 9 := ent_of Tryd.func9 (by kernel_rfl) rfl -- herald/heraldlaw19.CacheKeeps
instance Tryd.ent10 : Ent Tryd.prog 10 := ent_of Tryd.func10 (by kernel_rfl) rfl -- herald/heraldlaw19.CacheEnds
instance Tryd.ent11 : Ent Tryd.prog 11 := ent_of Tryd.func11 (by kernel_rfl) rfl -- herald/heraldlaw19.CacheApart
instance Tryd.ent12 : Ent Tryd.prog 12 := ent_of Tryd.func12 (by kernel_rfl) rfl -- herald/heraldlaw16.first
instance Tryd.ent13 : Ent Tryd.prog 13 := ent_of Tryd.func13 (by kernel_rfl) rfl -- herald/heraldlaw16.lend
instance Tryd.ent14 : Ent Tryd.prog 14 := ent_of Tryd.func14 (by kernel_rfl) rfl -- herald/vary.Names
instance Tryd.ent15 : Ent Tryd.prog 15 := ent_of Tryd.func15 (by kernel_rfl) rfl -- herald/heraldref16.Names
instance Tryd.ent16 : Ent Tryd.prog 16 := ent_of Tryd.func16 (by kernel_rfl) rfl -- herald/heraldlaw16.same
instance Tryd.ent17 : Ent Tryd.prog 17 := ent_of Tryd.func17 (by kernel_rfl) rfl -- herald/heraldlaw16.kept
instance Tryd.ent18 : Ent Tryd.prog 18 := ent_of Tryd.func18 (by kernel_rfl) rfl -- herald/vary.Match
instance Tryd.ent19 : Ent Tryd.prog 19 := ent_of Tryd.func19 (by kernel_rfl) rfl -- herald/heraldref16.Match
instance Tryd.ent20 : Ent Tryd.prog 20 := ent_of Tryd.func20 (by kernel_rfl) rfl -- herald/heraldlaw16.named
instance Tryd.ent21 : Ent Tryd.prog 21 := ent_of Tryd.func21 (by kernel_rfl) rfl -- herald/heraldlaw16.great
instance Tryd.ent22 : Ent Tryd.prog 22 := ent_of Tryd.func22 (by kernel_rfl) rfl -- herald/cache.New
instance Tryd.ent23 : Ent Tryd.prog 23 := ent_of Tryd.func23 (by kernel_rfl) rfl -- herald/heraldref19.New
instance Tryd.ent24 : Ent Tryd.prog 24 := ent_of Tryd.func24 (by kernel_rfl) rfl -- herald/heraldlaw19.first
instance Tryd.ent25 : Ent Tryd.prog 25 := ent_of Tryd.func25 (by kernel_rfl) rfl -- herald/cache.Size
instance Tryd.ent26 : Ent Tryd.prog 26 := ent_of Tryd.func26 (by kernel_rfl) rfl -- herald/heraldref19.Size
instance Tryd.ent27 : Ent Tryd.prog 27 := ent_of Tryd.func27 (by kernel_rfl) rfl -- herald/heraldlaw19.plays
instance Tryd.ent28 : Ent Tryd.prog 28 := ent_of Tryd.func28 (by kernel_rfl) rfl -- herald/heraldlaw19.conf
instance Tryd.ent29 : Ent Tryd.prog 29 := ent_of Tryd.func29 (by kernel_rfl) rfl -- (*herald/heraldlaw19.book).stores
instance Tryd.ent30 : Ent Tryd.prog 30 := ent_of Tryd.func30 (by kernel_rfl) rfl -- (*herald/heraldlaw19.book).claims
instance Tryd.ent31 : Ent Tryd.prog 31 := ent_of Tryd.func31 (by kernel_rfl) rfl -- (*herald/heraldlaw19.book).went
instance Tryd.ent32 : Ent Tryd.prog 32 := ent_of Tryd.func32 (by kernel_rfl) rfl -- (*herald/cache.Cache).Tick
instance Tryd.ent33 : Ent Tryd.prog 33 := ent_of Tryd.func33 (by kernel_rfl) rfl -- (*herald/cache.Cache).Len
instance Tryd.ent34 : Ent Tryd.prog 34 := ent_of Tryd.func34 (by kernel_rfl) rfl -- (*herald/cache.Cache).Bytes
instance Tryd.ent35 : Ent Tryd.prog 35 := ent_of Tryd.func35 (by kernel_rfl) rfl -- (*herald/heraldlaw19.book).bytes
instance Tryd.ent36 : Ent Tryd.prog 36 := ent_of Tryd.func36 (by kernel_rfl) rfl -- (*herald/cache.Cache).Store
instance Tryd.ent37 : Ent Tryd.prog 37 := ent_of Tryd.func37 (by kernel_rfl) rfl -- (*herald/cache.Cache).Claim
instance Tryd.ent38 : Ent Tryd.prog 38 := ent_of Tryd.func38 (by kernel_rfl) rfl -- (*herald/cache.Cache).Holds
instance Tryd.ent39 : Ent Tryd.prog 39 := ent_of Tryd.func39 (by kernel_rfl) rfl -- herald/heraldlaw19.same
instance Tryd.ent40 : Ent Tryd.prog 40 := ent_of Tryd.func40 (by kernel_rfl) rfl -- herald/heraldlaw19.sameInts
instance Tryd.ent41 : Ent Tryd.prog 41 := ent_of Tryd.func41 (by kernel_rfl) rfl -- herald/heraldlaw19.over
instance Tryd.ent42 : Ent Tryd.prog 42 := ent_of Tryd.func42 (by kernel_rfl) rfl -- strings.Split
instance Tryd.ent43 : Ent Tryd.prog 43 := ent_of Tryd.func43 (by kernel_rfl) rfl -- herald/vary.small
instance Tryd.ent44 : Ent Tryd.prog 44 := ent_of Tryd.func44 (by kernel_rfl) rfl -- strings.Trim
instance Tryd.ent45 : Ent Tryd.prog 45 := ent_of Tryd.func45 (by kernel_rfl) rfl -- slices.Contains[[]string,string]
instance Tryd.ent46 : Ent Tryd.prog 46 := ent_of Tryd.func46 (by kernel_rfl) rfl -- herald/heraldref16.pieces
instance Tryd.ent47 : Ent Tryd.prog 47 := ent_of Tryd.func47 (by kernel_rfl) rfl -- slices.ContainsFunc[[]string,string]
instance Tryd.ent48 : Ent Tryd.prog 48 := ent_of Tryd.func48 (by kernel_rfl) rfl -- herald/vary.Match$1
instance Tryd.ent49 : Ent Tryd.prog 49 := ent_of Tryd.func49 (by kernel_rfl) rfl -- herald/vary.same[string]
instance Tryd.ent50 : Ent Tryd.prog 50 := ent_of Tryd.func50 (by kernel_rfl) rfl -- herald/vary.values
instance Tryd.ent51 : Ent Tryd.prog 51 := ent_of Tryd.func51 (by kernel_rfl) rfl -- herald/heraldref16.Values
instance Tryd.ent52 : Ent Tryd.prog 52 := ent_of Tryd.func52 (by kernel_rfl) rfl -- herald/cache.New$1
instance Tryd.ent53 : Ent Tryd.prog 53 := ent_of Tryd.func53 (by kernel_rfl) rfl -- slices.ContainsFunc[[]int64,int64]
instance Tryd.ent54 : Ent Tryd.prog 54 := ent_of Tryd.func54 (by kernel_rfl) rfl -- herald/heraldref19.upTo
instance Tryd.ent55 : Ent Tryd.prog 55 := ent_of Tryd.func55 (by kernel_rfl) rfl -- herald/heraldlaw19.lent
instance Tryd.ent56 : Ent Tryd.prog 56 := ent_of Tryd.func56 (by kernel_rfl) rfl -- herald/heraldlaw19.stored
instance Tryd.ent57 : Ent Tryd.prog 57 := ent_of Tryd.func57 (by kernel_rfl) rfl -- (*herald/heraldref19.Cache).Claim
instance Tryd.ent58 : Ent Tryd.prog 58 := ent_of Tryd.func58 (by kernel_rfl) rfl -- (*herald/heraldref19.Cache).Holds
instance Tryd.ent59 : Ent Tryd.prog 59 := ent_of Tryd.func59 (by kernel_rfl) rfl -- (*herald/heraldref19.Cache).Tick
instance Tryd.ent60 : Ent Tryd.prog 60 := ent_of Tryd.func60 (by kernel_rfl) rfl -- herald/heraldlaw19.kept
instance Tryd.ent61 : Ent Tryd.prog 61 := ent_of Tryd.func61 (by kernel_rfl) rfl -- (*herald/heraldref19.Cache).Len
instance Tryd.ent62 : Ent Tryd.prog 62 := ent_of Tryd.func62 (by kernel_rfl) rfl -- (*herald/heraldref19.Cache).Bytes
instance Tryd.ent63 : Ent Tryd.prog 63 := ent_of Tryd.func63 (by kernel_rfl) rfl -- herald/heraldlaw19.place
instance Tryd.ent64 : Ent Tryd.prog 64 := ent_of Tryd.func64 (by kernel_rfl) rfl -- herald/heraldlaw19.size
instance Tryd.ent65 : Ent Tryd.prog 65 := ent_of Tryd.func65 (by kernel_rfl) rfl -- herald/heraldlaw19.answers
instance Tryd.ent66 : Ent Tryd.prog 66 := ent_of Tryd.func66 (by kernel_rfl) rfl -- herald/heraldlaw19.without
instance Tryd.ent67 : Ent Tryd.prog 67 := ent_of Tryd.func67 (by kernel_rfl) rfl -- (*herald/cache.Cache).hear
instance Tryd.ent68 : Ent Tryd.prog 68 := ent_of Tryd.func68 (by kernel_rfl) rfl -- (*herald/cache.Cache).sweep
instance Tryd.ent69 : Ent Tryd.prog 69 := ent_of Tryd.func69 (by kernel_rfl) rfl -- (*herald/cache.Cache).out
instance Tryd.ent70 : Ent Tryd.prog 70 := ent_of Tryd.func70 (by kernel_rfl) rfl -- slices.Clone[[]herald/api.Field,herald/api.Field]
instance Tryd.ent71 : Ent Tryd.prog 71 := ent_of Tryd.func71 (by kernel_rfl) rfl -- (*herald/cache.Cache).answers
instance Tryd.ent72 : Ent Tryd.prog 72 := ent_of Tryd.func72 (by kernel_rfl) rfl -- herald/heraldlaw19.sameFields
instance Tryd.ent73 : Ent Tryd.prog 73 := ent_of Tryd.func73 (by kernel_rfl) rfl -- strings.genSplit
instance Tryd.ent74 : Ent Tryd.prog 74 := ent_of Tryd.func74 (by kernel_rfl) rfl -- strings.trimLeftByte
instance Tryd.ent75 : Ent Tryd.prog 75 := ent_of Tryd.func75 (by kernel_rfl) rfl -- strings.trimRightByte
instance Tryd.ent76 : Ent Tryd.prog 76 := ent_of Tryd.func76 (by kernel_rfl) rfl -- strings.makeASCIISet
instance Tryd.ent77 : Ent Tryd.prog 77 := ent_of Tryd.func77 (by kernel_rfl) rfl -- strings.trimLeftASCII
instance Tryd.ent78 : Ent Tryd.prog 78 := ent_of Tryd.func78 (by kernel_rfl) rfl -- strings.trimRightASCII
instance Tryd.ent79 : Ent Tryd.prog 79 := ent_of Tryd.func79 (by kernel_rfl) rfl -- strings.trimLeftUnicode
instance Tryd.ent80 : Ent Tryd.prog 80 := ent_of Tryd.func80 (by kernel_rfl) rfl -- strings.trimRightUnicode
instance Tryd.ent81 : Ent Tryd.prog 81 := ent_of Tryd.func81 (by kernel_rfl) rfl -- slices.Index[[]string,string]
instance Tryd.ent82 : Ent Tryd.prog 82 := ent_of Tryd.func82 (by kernel_rfl) rfl -- herald/heraldref16.small
instance Tryd.ent83 : Ent Tryd.prog 83 := ent_of Tryd.func83 (by kernel_rfl) rfl -- herald/heraldref16.trimmed
instance Tryd.ent84 : Ent Tryd.prog 84 := ent_of Tryd.func84 (by kernel_rfl) rfl -- slices.IndexFunc[[]string,string]
instance Tryd.ent85 : Ent Tryd.prog 85 := ent_of Tryd.func85 (by kernel_rfl) rfl -- slices.IndexFunc[[]int64,int64]
instance Tryd.ent86 : Ent Tryd.prog 86 := ent_of Tryd.func86 (by kernel_rfl) rfl -- (*herald/heraldref19.Cache).Store
instance Tryd.ent87 : Ent Tryd.prog 87 := ent_of Tryd.func87 (by kernel_rfl) rfl -- (*herald/heraldref19.Cache).Find
instance Tryd.ent88 : Ent Tryd.prog 88 := ent_of Tryd.func88 (by kernel_rfl) rfl -- (*herald/heraldref19.Cache).expired
instance Tryd.ent89 : Ent Tryd.prog 89 := ent_of Tryd.func89 (by kernel_rfl) rfl -- (*herald/cache.Cache).expired
instance Tryd.ent90 : Ent Tryd.prog 90 := ent_of Tryd.func90 (by kernel_rfl) rfl -- slices.Delete[[]herald/cache.entry,herald/cache.entry]
instance Tryd.ent91 : Ent Tryd.prog 91 := ent_of Tryd.func91 (by kernel_rfl) rfl -- slices.IndexFunc[[]herald/cache.entry,herald/cache.entry]
instance Tryd.ent92 : Ent Tryd.prog 92 := ent_of Tryd.func92 (by kernel_rfl) rfl -- (*herald/cache.Cache).answers$1
instance Tryd.ent93 : Ent Tryd.prog 93 := ent_of Tryd.func93 (by kernel_rfl) rfl -- strings.explode
instance Tryd.ent94 : Ent Tryd.prog 94 := ent_of Tryd.func94 (by kernel_rfl) rfl -- strings.Count
instance Tryd.ent95 : Ent Tryd.prog 95 := ent_of Tryd.func95 (by kernel_rfl) rfl -- strings.Index
instance Tryd.ent96 : Ent Tryd.prog 96 := ent_of Tryd.func96 (by kernel_rfl) rfl -- (*strings.asciiSet).contains
instance Tryd.ent97 : Ent Tryd.prog 97 := ent_of Tryd.func97 (by kernel_rfl) rfl -- unicode/utf8.DecodeRuneInString
instance Tryd.ent98 : Ent Tryd.prog 98 := ent_of Tryd.func98 (by kernel_rfl) rfl -- strings.ContainsRune
instance Tryd.ent99 : Ent Tryd.prog 99 := ent_of Tryd.func99 (by kernel_rfl) rfl -- unicode/utf8.DecodeLastRuneInString
instance Tryd.ent100 : Ent Tryd.prog 100 := ent_of Tryd.func100 (by kernel_rfl) rfl -- herald/heraldref16.blank
instance Tryd.ent101 : Ent Tryd.prog 101 := ent_of Tryd.func101 (by kernel_rfl) rfl -- herald/heraldref19.Fields
instance Tryd.ent102 : Ent Tryd.prog 102 := ent_of Tryd.func102 (by kernel_rfl) rfl -- unicode/utf8.RuneCountInString
instance Tryd.ent104 : Ent Tryd.prog 104 := ent_of Tryd.func104 (by kernel_rfl) rfl -- internal/stringslite.Index
instance Tryd.ent105 : Ent Tryd.prog 105 := ent_of Tryd.func105 (by kernel_rfl) rfl -- unicode/utf8.decodeRuneInStringSlow
instance Tryd.ent106 : Ent Tryd.prog 106 := ent_of Tryd.func106 (by kernel_rfl) rfl -- strings.IndexRune
instance Tryd.ent107 : Ent Tryd.prog 107 := ent_of Tryd.func107 (by kernel_rfl) rfl -- unicode/utf8.RuneStart
instance Tryd.ent108 : Ent Tryd.prog 108 := ent_of Tryd.func108 (by kernel_rfl) rfl -- internal/stringslite.IndexByte
instance Tryd.ent110 : Ent Tryd.prog 110 := ent_of Tryd.func110 (by kernel_rfl) rfl -- internal/bytealg.Cutover
instance Tryd.ent111 : Ent Tryd.prog 111 := ent_of Tryd.func111 (by kernel_rfl) rfl -- internal/bytealg.IndexRabinKarp[string]
instance Tryd.ent112 : Ent Tryd.prog 112 := ent_of Tryd.func112 (by kernel_rfl) rfl -- strings.IndexByte
instance Tryd.ent113 : Ent Tryd.prog 113 := ent_of Tryd.func113 (by kernel_rfl) rfl -- unicode/utf8.ValidRune
instance Tryd.ent115 : Ent Tryd.prog 115 := ent_of Tryd.func115 (by kernel_rfl) rfl -- internal/bytealg.hashStr[string]
instance Tryd.ent138 : Ent Tryd.prog 138 := ent_of Tryd.func138 (by kernel_rfl) rfl -- gosem.cut.vars
end Go.Proofs
