import Derived.Test.YbulknmmMaps
import Derived.Test.YbulknmmRows
namespace Go.Proofs.Ybulknmm
open Go Go.Eng
theorem Yba.sc2 : scal Yba.prog 2 = true := by kernel_rfl
theorem Yba.sc3 : scal Yba.prog 3 = true := by kernel_rfl
theorem Yba.sc5 : scal Yba.prog 5 = true := by kernel_rfl
theorem Yba.sc9 : scal Yba.prog 9 = true := by kernel_rfl
theorem Yba.sc23 : scal Yba.prog 23 = true := by kernel_rfl
theorem Yba.sc26 : scal Yba.prog 26 = true := by kernel_rfl
theorem Yba.sc37 : scal Yba.prog 37 = true := by kernel_rfl
theorem Yba.sc42 : scal Yba.prog 42 = true := by kernel_rfl
theorem Yba.fo44_0 : fieldOff Yba.prog 44 0 = some 0 := by kernel_rfl
theorem Yba.fo46_5 : fieldOff Yba.prog 46 5 = some 8 := by kernel_rfl
theorem Yba.fo46_6 : fieldOff Yba.prog 46 6 = some 9 := by kernel_rfl
theorem Yba.fo46_7 : fieldOff Yba.prog 46 7 = some 10 := by kernel_rfl
theorem Yba.fo53_0 : fieldOff Yba.prog 53 0 = some 0 := by kernel_rfl
theorem Yba.fo53_1 : fieldOff Yba.prog 53 1 = some 1 := by kernel_rfl
theorem Yba.fo53_4 : fieldOff Yba.prog 53 4 = some 4 := by kernel_rfl
theorem Yba.fo53_6 : fieldOff Yba.prog 53 6 = some 6 := by kernel_rfl
theorem Yba.fo53_7 : fieldOff Yba.prog 53 7 = some 7 := by kernel_rfl
theorem Yba.fo53_8 : fieldOff Yba.prog 53 8 = some 8 := by kernel_rfl
theorem Yba.fo53_9 : fieldOff Yba.prog 53 9 = some 9 := by kernel_rfl
theorem Yba.fo53_10 : fieldOff Yba.prog 53 10 = some 10 := by kernel_rfl
theorem Yba.zo5 : zeroOf Yba.prog 5 = some (Value.int .u8 0) := by kernel_rfl
theorem Yba.zo9 : zeroOf Yba.prog 9 = some (Value.string ⟨#[]⟩) := by kernel_rfl
theorem Yba.zo26 : zeroOf Yba.prog 26 = some (Value.pointer none) := by kernel_rfl
theorem Yba.sl22 : Yba.prog.underlying 22 = some (.slice 9) := by kernel_rfl
theorem Yba.sl23 : Yba.prog.underlying 23 = some (.slice 5) := by kernel_rfl
theorem Yba.sl25 : Yba.prog.underlying 25 = some (.slice 26) := by kernel_rfl
theorem Yba.sz5 : (Yba.prog.info? 5).map (·.size) = some 1 := by kernel_rfl
theorem Yba.in5 : (Yba.prog.info? 5).map (fun i => (i.zero, i.size, i.bytes)) = some (some (Value.int .u8 0), 1, 1) := by kernel_rfl
theorem Yba.sz9 : (Yba.prog.info? 9).map (·.size) = some 1 := by kernel_rfl
theorem Yba.in9 : (Yba.prog.info? 9).map (fun i => (i.zero, i.size, i.bytes)) = some (some (Value.string ⟨#[]⟩), 1, 16) := by kernel_rfl
theorem Yba.sz26 : (Yba.prog.info? 26).map (·.size) = some 1 := by kernel_rfl
theorem Yba.in26 : (Yba.prog.info? 26).map (fun i => (i.zero, i.size, i.bytes)) = some (some (Value.pointer none), 1, 8) := by kernel_rfl
theorem Yba.sz53 : (Yba.prog.info? 53).map (·.size) = some 11 := by kernel_rfl
theorem Yba.pt26 : Yba.prog.underlying 26 = some (.pointer 53) := by kernel_rfl
theorem Yba.st9 : Yba.prog.underlying 9 = some .string := by kernel_rfl
theorem Yba.mp42 : Yba.prog.underlying 42 = some (.map 9 26) := by kernel_rfl
theorem Yba.cv3_30 : (Yba.prog.underlying 3).isSome = true := by kernel_rfl
theorem Yba.cv5_2 : (Yba.prog.underlying 5).isSome = true := by kernel_rfl
theorem Yba.cv5_3 : (Yba.prog.underlying 5).isSome = true := by kernel_rfl
theorem Yba.kd2 : kindOf Yba.prog 2 = some .i64 := by kernel_rfl
theorem Yba.kd3 : kindOf Yba.prog 3 = some .i64 := by kernel_rfl
theorem Yba.kd30 : kindOf Yba.prog 30 = some .u64 := by kernel_rfl
theorem Yba.pl46_5 : places Yba.prog 46 = some [(0, 1), (1, 1), (2, 3), (5, 1), (6, 2), (8, 1), (9, 1), (10, 1), (11, 1), (12, 3)] := by kernel_rfl
theorem Yba.zb46_5 : zeroOf Yba.prog 46 = some (Value.agg #[Value.int .i64 0, Value.int .i64 0, Value.int .u64 0, Value.int .i64 0, Value.pointer none, Value.nilFunc, Value.int .i32 0, Value.int .u32 0, Value.map none, Value.int .i64 0, Value.pointer none, Value.int .u64 0, Value.int .u64 0, Value.int .i64 0, Value.pointer none]) := by kernel_rfl
theorem Yba.bl46_5 {ρ : Operand → Value} {w : World} {ty : TypeId} {x0 : Operand} {v0 : Value} (h0 : ρ x0 = v0) (c0 : v0.cells = #[v0]) : ex Yba.prog ρ (.build 46 #[(5, x0)]) ty w = .ok (.value (.agg #[Value.int .i64 0, Value.int .i64 0, Value.int .u64 0, Value.int .i64 0, Value.pointer none, Value.nilFunc, Value.int .i32 0, Value.int .u32 0, v0, Value.int .i64 0, Value.pointer none, Value.int .u64 0, Value.int .u64 0, Value.int .i64 0, Value.pointer none])) w :=
  ex_build Yba.zb46_5 Yba.pl46_5 (by simp [Instr.fill, h0, c0, cells_agg])
theorem Yba.pl53_0_1_2_4 : places Yba.prog 53 = some [(0, 1), (1, 1), (2, 1), (3, 1), (4, 1), (5, 1), (6, 1), (7, 1), (8, 1), (9, 1), (10, 1)] := by kernel_rfl
theorem Yba.zb53_0_1_2_4 : zeroOf Yba.prog 53 = some (Value.agg #[Value.string ⟨#[]⟩, Value.slice none 0 0, Value.int .u64 0, Value.int .u32 0, Value.int .i64 0, Value.int .i64 0, Value.int .u32 0, Value.pointer none, Value.pointer none, Value.int .i64 0, Value.int .i64 0]) := by kernel_rfl
theorem Yba.bl53_0_1_2_4 {ρ : Operand → Value} {w : World} {ty : TypeId} {x0 x1 x2 x3 : Operand} {v0 v1 v2 v3 : Value} (h0 : ρ x0 = v0) (c0 : v0.cells = #[v0]) (h1 : ρ x1 = v1) (c1 : v1.cells = #[v1]) (h2 : ρ x2 = v2) (c2 : v2.cells = #[v2]) (h3 : ρ x3 = v3) (c3 : v3.cells = #[v3]) : ex Yba.prog ρ (.build 53 #[(0, x0), (1, x1), (2, x2), (4, x3)]) ty w = .ok (.value (.agg #[v0, v1, v2, Value.int .u32 0, v3, Value.int .i64 0, Value.int .u32 0, Value.pointer none, Value.pointer none, Value.int .i64 0, Value.int .i64 0])) w :=
  ex_build Yba.zb53_0_1_2_4 Yba.pl53_0_1_2_4 (by simp [Instr.fill, h0, c0, h1, c1, h2, c2, h3, c3, cells_agg])
theorem Yba.fun3 : Fun Yba.prog 3 := Fun.of Yba.func3 (by kernel_rfl) (by kernel_rfl)
theorem Yba.fun5 : Fun Yba.prog 5 := Fun.of Yba.func5 (by kernel_rfl) (by kernel_rfl)
theorem Yba.fun6 : Fun Yba.prog 6 := Fun.of Yba.func6 (by kernel_rfl) (by kernel_rfl)
theorem Yba.fun7 : Fun Yba.prog 7 := Fun.of Yba.func7 (by kernel_rfl) (by kernel_rfl)
theorem Yba.fun8 : Fun Yba.prog 8 := Fun.of Yba.func8 (by kernel_rfl) (by kernel_rfl)
theorem Yba.fun9 : Fun Yba.prog 9 := Fun.of Yba.func9 (by kernel_rfl) (by kernel_rfl)
theorem Yba.fun10 : Fun Yba.prog 10 := Fun.of Yba.func10 (by kernel_rfl) (by kernel_rfl)
theorem Yba.fun11 : Fun Yba.prog 11 := Fun.of Yba.func11 (by kernel_rfl) (by kernel_rfl)
theorem Yba.fun12 : Fun Yba.prog 12 := Fun.of Yba.func12 (by kernel_rfl) (by kernel_rfl)
theorem Yba.fun13 : Fun Yba.prog 13 := Fun.of Yba.func13 (by kernel_rfl) (by kernel_rfl)
theorem Yba.fun14 : Fun Yba.prog 14 := Fun.of Yba.func14 (by kernel_rfl) (by kernel_rfl)
end Go.Proofs.Ybulknmm
