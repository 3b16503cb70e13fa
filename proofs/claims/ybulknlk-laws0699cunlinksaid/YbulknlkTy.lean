import Derived.Test.YbulknlkOps2
import Derived.Test.YbulknlkRows
namespace Go.Proofs.Ybulknlk
open Go Go.Eng
theorem Yba.sc3 : scal Yba.prog 3 = true := by kernel_rfl
theorem Yba.sc5 : scal Yba.prog 5 = true := by kernel_rfl
theorem Yba.sc24 : scal Yba.prog 24 = true := by kernel_rfl
theorem Yba.sc26 : scal Yba.prog 26 = true := by kernel_rfl
theorem Yba.sc29 : scal Yba.prog 29 = true := by kernel_rfl
theorem Yba.sc30 : scal Yba.prog 30 = true := by kernel_rfl
theorem Yba.ag28 : aggN Yba.prog 28 = some 8 := by kernel_rfl
theorem Yba.ag65 : aggN Yba.prog 65 = some 4 := by kernel_rfl
theorem Yba.ag75 : aggN Yba.prog 75 = some 0 := by kernel_rfl
theorem Yba.fo28_0 : fieldOff Yba.prog 28 0 = some 0 := by kernel_rfl
theorem Yba.fo28_1 : fieldOff Yba.prog 28 1 = some 1 := by kernel_rfl
theorem Yba.fo28_2 : fieldOff Yba.prog 28 2 = some 2 := by kernel_rfl
theorem Yba.fo59_5 : fieldOff Yba.prog 59 5 = some 8 := by kernel_rfl
theorem Yba.fo59_9 : fieldOff Yba.prog 59 9 = some 12 := by kernel_rfl
theorem Yba.fo65_1 : fieldOff Yba.prog 65 1 = some 1 := by kernel_rfl
theorem Yba.fo65_2 : fieldOff Yba.prog 65 2 = some 2 := by kernel_rfl
theorem Yba.zo5 : zeroOf Yba.prog 5 = some (Value.int .u8 0) := by kernel_rfl
theorem Yba.zo26 : zeroOf Yba.prog 26 = some (Value.int .u32 0) := by kernel_rfl
theorem Yba.zo28 : zeroOf Yba.prog 28 = some (Value.agg #[Value.slice none 0 0, Value.int .i64 0, Value.int .i64 0, Value.int .i64 0, Value.int .i64 0, Value.int .u32 0, Value.int .i64 0, Value.int .i64 0]) := by kernel_rfl
theorem Yba.zo65 : zeroOf Yba.prog 65 = some (Value.agg #[Value.int .i64 0, Value.int .u32 0, Value.int .u32 0, Value.int .i64 0]) := by kernel_rfl
theorem Yba.sl24 : Yba.prog.underlying 24 = some (.slice 5) := by kernel_rfl
theorem Yba.sl29 : Yba.prog.underlying 29 = some (.slice 28) := by kernel_rfl
theorem Yba.sl30 : Yba.prog.underlying 30 = some (.slice 65) := by kernel_rfl
theorem Yba.sl48 : Yba.prog.underlying 48 = some (.slice 26) := by kernel_rfl
theorem Yba.sl61 : Yba.prog.underlying 61 = some (.slice 5) := by kernel_rfl
theorem Yba.sz5 : (Yba.prog.info? 5).map (·.size) = some 1 := by kernel_rfl
theorem Yba.in5 : (Yba.prog.info? 5).map (fun i => (i.zero, i.size, i.bytes)) = some (some (Value.int .u8 0), 1, 1) := by kernel_rfl
theorem Yba.sz26 : (Yba.prog.info? 26).map (·.size) = some 1 := by kernel_rfl
theorem Yba.in26 : (Yba.prog.info? 26).map (fun i => (i.zero, i.size, i.bytes)) = some (some (Value.int .u32 0), 1, 4) := by kernel_rfl
theorem Yba.sz28 : (Yba.prog.info? 28).map (·.size) = some 8 := by kernel_rfl
theorem Yba.in28 : (Yba.prog.info? 28).map (fun i => (i.zero, i.size, i.bytes)) = some (some (Value.agg #[Value.slice none 0 0, Value.int .i64 0, Value.int .i64 0, Value.int .i64 0, Value.int .i64 0, Value.int .u32 0, Value.int .i64 0, Value.int .i64 0]), 8, 80) := by kernel_rfl
theorem Yba.sz65 : (Yba.prog.info? 65).map (·.size) = some 4 := by kernel_rfl
theorem Yba.in65 : (Yba.prog.info? 65).map (fun i => (i.zero, i.size, i.bytes)) = some (some (Value.agg #[Value.int .i64 0, Value.int .u32 0, Value.int .u32 0, Value.int .i64 0]), 4, 24) := by kernel_rfl
theorem Yba.cv3_26 : (Yba.prog.underlying 3).isSome = true := by kernel_rfl
theorem Yba.cv5_25 : (Yba.prog.underlying 5).isSome = true := by kernel_rfl
theorem Yba.cv22_3 : (Yba.prog.underlying 22).isSome = true := by kernel_rfl
theorem Yba.cv25_5 : (Yba.prog.underlying 25).isSome = true := by kernel_rfl
theorem Yba.cv26_3 : (Yba.prog.underlying 26).isSome = true := by kernel_rfl
theorem Yba.kd3 : kindOf Yba.prog 3 = some .i64 := by kernel_rfl
theorem Yba.kd5 : kindOf Yba.prog 5 = some .u8 := by kernel_rfl
theorem Yba.kd25 : kindOf Yba.prog 25 = some .u32 := by kernel_rfl
theorem Yba.kd26 : kindOf Yba.prog 26 = some .u32 := by kernel_rfl
theorem Yba.pl28_0_1_2 : places Yba.prog 28 = some [(0, 1), (1, 1), (2, 1), (3, 1), (4, 1), (5, 1), (6, 1), (7, 1)] := by kernel_rfl
theorem Yba.zb28_0_1_2 : zeroOf Yba.prog 28 = some (Value.agg #[Value.slice none 0 0, Value.int .i64 0, Value.int .i64 0, Value.int .i64 0, Value.int .i64 0, Value.int .u32 0, Value.int .i64 0, Value.int .i64 0]) := by kernel_rfl
theorem Yba.bl28_0_1_2 {ρ : Operand → Value} {w : World} {ty : TypeId} {x0 x1 x2 : Operand} {v0 v1 v2 : Value} (h0 : ρ x0 = v0) (c0 : v0.cells = #[v0]) (h1 : ρ x1 = v1) (c1 : v1.cells = #[v1]) (h2 : ρ x2 = v2) (c2 : v2.cells = #[v2]) : ex Yba.prog ρ (.build 28 #[(0, x0), (1, x1), (2, x2)]) ty w = .ok (.value (.agg #[v0, v1, v2, Value.int .i64 0, Value.int .i64 0, Value.int .u32 0, Value.int .i64 0, Value.int .i64 0])) w :=
  ex_build Yba.zb28_0_1_2 Yba.pl28_0_1_2 (by simp [Instr.fill, h0, c0, h1, c1, h2, c2, cells_agg])
theorem Yba.pl28_1 : places Yba.prog 28 = some [(0, 1), (1, 1), (2, 1), (3, 1), (4, 1), (5, 1), (6, 1), (7, 1)] := by kernel_rfl
theorem Yba.zb28_1 : zeroOf Yba.prog 28 = some (Value.agg #[Value.slice none 0 0, Value.int .i64 0, Value.int .i64 0, Value.int .i64 0, Value.int .i64 0, Value.int .u32 0, Value.int .i64 0, Value.int .i64 0]) := by kernel_rfl
theorem Yba.bl28_1 {ρ : Operand → Value} {w : World} {ty : TypeId} {x0 : Operand} {v0 : Value} (h0 : ρ x0 = v0) (c0 : v0.cells = #[v0]) : ex Yba.prog ρ (.build 28 #[(1, x0)]) ty w = .ok (.value (.agg #[Value.slice none 0 0, v0, Value.int .i64 0, Value.int .i64 0, Value.int .i64 0, Value.int .u32 0, Value.int .i64 0, Value.int .i64 0])) w :=
  ex_build Yba.zb28_1 Yba.pl28_1 (by simp [Instr.fill, h0, c0, cells_agg])
theorem Yba.fun3 : Fun Yba.prog 3 := Fun.of Yba.func3 (by kernel_rfl) (by kernel_rfl)
theorem Yba.fun4 : Fun Yba.prog 4 := Fun.of Yba.func4 (by kernel_rfl) (by kernel_rfl)
theorem Yba.fun5 : Fun Yba.prog 5 := Fun.of Yba.func5 (by kernel_rfl) (by kernel_rfl)
theorem Yba.fun6 : Fun Yba.prog 6 := Fun.of Yba.func6 (by kernel_rfl) (by kernel_rfl)
theorem Yba.fun7 : Fun Yba.prog 7 := Fun.of Yba.func7 (by kernel_rfl) (by kernel_rfl)
theorem Yba.fun8 : Fun Yba.prog 8 := Fun.of Yba.func8 (by kernel_rfl) (by kernel_rfl)
theorem Yba.fun9 : Fun Yba.prog 9 := Fun.of Yba.func9 (by kernel_rfl) (by kernel_rfl)
theorem Yba.fun10 : Fun Yba.prog 10 := Fun.of Yba.func10 (by kernel_rfl) (by kernel_rfl)
theorem Yba.fun11 : Fun Yba.prog 11 := Fun.of Yba.func11 (by kernel_rfl) (by kernel_rfl)
theorem Yba.fun12 : Fun Yba.prog 12 := Fun.of Yba.func12 (by kernel_rfl) (by kernel_rfl)
theorem Yba.fun13 : Fun Yba.prog 13 := Fun.of Yba.func13 (by kernel_rfl) (by kernel_rfl)
theorem Yba.fun14 : Fun Yba.prog 14 := Fun.of Yba.func14 (by kernel_rfl) (by kernel_rfl)
theorem Yba.fun15 : Fun Yba.prog 15 := Fun.of Yba.func15 (by kernel_rfl) (by kernel_rfl)
theorem Yba.fun16 : Fun Yba.prog 16 := Fun.of Yba.func16 (by kernel_rfl) (by kernel_rfl)
theorem Yba.fun17 : Fun Yba.prog 17 := Fun.of Yba.func17 (by kernel_rfl) (by kernel_rfl)
end Go.Proofs.Ybulknlk
