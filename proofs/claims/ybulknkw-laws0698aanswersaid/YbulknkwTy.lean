import Derived.Test.YbulknkwDraw
import Derived.Test.YbulknkwRows
namespace Go.Proofs.Ybulknkw
open Go Go.Eng
theorem Yba.sc3 : scal Yba.prog 3 = true := by kernel_rfl
theorem Yba.sc4 : scal Yba.prog 4 = true := by kernel_rfl
theorem Yba.sc9 : scal Yba.prog 9 = true := by kernel_rfl
theorem Yba.sc22 : scal Yba.prog 22 = true := by kernel_rfl
theorem Yba.sc24 : scal Yba.prog 24 = true := by kernel_rfl
theorem Yba.sc25 : scal Yba.prog 25 = true := by kernel_rfl
theorem Yba.sc28 : scal Yba.prog 28 = true := by kernel_rfl
theorem Yba.sc29 : scal Yba.prog 29 = true := by kernel_rfl
theorem Yba.sc32 : scal Yba.prog 32 = true := by kernel_rfl
theorem Yba.sc33 : scal Yba.prog 33 = true := by kernel_rfl
theorem Yba.sc36 : scal Yba.prog 36 = true := by kernel_rfl
theorem Yba.sc41 : scal Yba.prog 41 = true := by kernel_rfl
theorem Yba.ag27 : aggN Yba.prog 27 = some 2 := by kernel_rfl
theorem Yba.ag35 : aggN Yba.prog 35 = some 6 := by kernel_rfl
theorem Yba.ag40 : aggN Yba.prog 40 = some 9 := by kernel_rfl
theorem Yba.ag43 : aggN Yba.prog 43 = some 4 := by kernel_rfl
theorem Yba.ag47 : aggN Yba.prog 47 = some 10 := by kernel_rfl
theorem Yba.ag69 : aggN Yba.prog 69 = some 2 := by kernel_rfl
theorem Yba.fo27_0 : fieldOff Yba.prog 27 0 = some 0 := by kernel_rfl
theorem Yba.fo27_1 : fieldOff Yba.prog 27 1 = some 1 := by kernel_rfl
theorem Yba.fo31_0 : fieldOff Yba.prog 31 0 = some 0 := by kernel_rfl
theorem Yba.fo35_0 : fieldOff Yba.prog 35 0 = some 0 := by kernel_rfl
theorem Yba.fo35_1 : fieldOff Yba.prog 35 1 = some 1 := by kernel_rfl
theorem Yba.fo35_2 : fieldOff Yba.prog 35 2 = some 2 := by kernel_rfl
theorem Yba.fo35_3 : fieldOff Yba.prog 35 3 = some 3 := by kernel_rfl
theorem Yba.fo35_4 : fieldOff Yba.prog 35 4 = some 4 := by kernel_rfl
theorem Yba.fo35_5 : fieldOff Yba.prog 35 5 = some 5 := by kernel_rfl
theorem Yba.fo43_0 : fieldOff Yba.prog 43 0 = some 0 := by kernel_rfl
theorem Yba.fo43_1 : fieldOff Yba.prog 43 1 = some 1 := by kernel_rfl
theorem Yba.fo43_2 : fieldOff Yba.prog 43 2 = some 2 := by kernel_rfl
theorem Yba.fo43_3 : fieldOff Yba.prog 43 3 = some 3 := by kernel_rfl
theorem Yba.fo47_1 : fieldOff Yba.prog 47 1 = some 2 := by kernel_rfl
theorem Yba.fo47_3 : fieldOff Yba.prog 47 3 = some 4 := by kernel_rfl
theorem Yba.fo47_5 : fieldOff Yba.prog 47 5 = some 6 := by kernel_rfl
theorem Yba.zo3 : zeroOf Yba.prog 3 = some (Value.int .i64 0) := by kernel_rfl
theorem Yba.zo4 : zeroOf Yba.prog 4 = some (Value.bool false) := by kernel_rfl
theorem Yba.zo9 : zeroOf Yba.prog 9 = some (Value.string ⟨#[]⟩) := by kernel_rfl
theorem Yba.zo25 : zeroOf Yba.prog 25 = some (Value.slice none 0 0) := by kernel_rfl
theorem Yba.zo27 : zeroOf Yba.prog 27 = some (Value.agg #[Value.string ⟨#[]⟩, Value.slice none 0 0]) := by kernel_rfl
theorem Yba.zo35 : zeroOf Yba.prog 35 = some (Value.agg #[Value.int .i64 0, Value.int .u32 0, Value.bool false, Value.slice none 0 0, Value.pointer none, Value.slice none 0 0]) := by kernel_rfl
theorem Yba.zo40 : zeroOf Yba.prog 40 = some (Value.agg #[Value.string ⟨#[]⟩, Value.int .u8 0, Value.string ⟨#[]⟩, Value.bool false, Value.bool false, Value.slice none 0 0, Value.string ⟨#[]⟩, Value.int .i64 0, Value.int .i64 0]) := by kernel_rfl
theorem Yba.zo43 : zeroOf Yba.prog 43 = some (Value.agg #[Value.string ⟨#[]⟩, Value.slice none 0 0, Value.slice none 0 0, Value.pointer none]) := by kernel_rfl
theorem Yba.zo47 : zeroOf Yba.prog 47 = some (Value.agg #[Value.string ⟨#[]⟩, Value.string ⟨#[]⟩, Value.bool false, Value.bool false, Value.string ⟨#[]⟩, Value.slice none 0 0, Value.pointer none, Value.int .i64 0, Value.int .i64 0, Value.string ⟨#[]⟩]) := by kernel_rfl
theorem Yba.zo69 : zeroOf Yba.prog 69 = some (Value.agg #[Value.int .u32 0, Value.int .u32 0]) := by kernel_rfl
theorem Yba.sl23 : Yba.prog.underlying 23 = some (.slice 27) := by kernel_rfl
theorem Yba.sl24 : Yba.prog.underlying 24 = some (.slice 4) := by kernel_rfl
theorem Yba.sl25 : Yba.prog.underlying 25 = some (.slice 9) := by kernel_rfl
theorem Yba.sl32 : Yba.prog.underlying 32 = some (.slice 43) := by kernel_rfl
theorem Yba.sl33 : Yba.prog.underlying 33 = some (.slice 69) := by kernel_rfl
theorem Yba.sl36 : Yba.prog.underlying 36 = some (.slice 40) := by kernel_rfl
theorem Yba.sl41 : Yba.prog.underlying 41 = some (.slice 47) := by kernel_rfl
theorem Yba.sz4 : (Yba.prog.info? 4).map (·.size) = some 1 := by kernel_rfl
theorem Yba.in4 : (Yba.prog.info? 4).map (fun i => (i.zero, i.size, i.bytes)) = some (some (Value.bool false), 1, 1) := by kernel_rfl
theorem Yba.sz9 : (Yba.prog.info? 9).map (·.size) = some 1 := by kernel_rfl
theorem Yba.in9 : (Yba.prog.info? 9).map (fun i => (i.zero, i.size, i.bytes)) = some (some (Value.string ⟨#[]⟩), 1, 16) := by kernel_rfl
theorem Yba.sz27 : (Yba.prog.info? 27).map (·.size) = some 2 := by kernel_rfl
theorem Yba.in27 : (Yba.prog.info? 27).map (fun i => (i.zero, i.size, i.bytes)) = some (some (Value.agg #[Value.string ⟨#[]⟩, Value.slice none 0 0]), 2, 40) := by kernel_rfl
theorem Yba.sz40 : (Yba.prog.info? 40).map (·.size) = some 9 := by kernel_rfl
theorem Yba.in40 : (Yba.prog.info? 40).map (fun i => (i.zero, i.size, i.bytes)) = some (some (Value.agg #[Value.string ⟨#[]⟩, Value.int .u8 0, Value.string ⟨#[]⟩, Value.bool false, Value.bool false, Value.slice none 0 0, Value.string ⟨#[]⟩, Value.int .i64 0, Value.int .i64 0]), 9, 104) := by kernel_rfl
theorem Yba.sz43 : (Yba.prog.info? 43).map (·.size) = some 4 := by kernel_rfl
theorem Yba.in43 : (Yba.prog.info? 43).map (fun i => (i.zero, i.size, i.bytes)) = some (some (Value.agg #[Value.string ⟨#[]⟩, Value.slice none 0 0, Value.slice none 0 0, Value.pointer none]), 4, 72) := by kernel_rfl
theorem Yba.sz47 : (Yba.prog.info? 47).map (·.size) = some 10 := by kernel_rfl
theorem Yba.in47 : (Yba.prog.info? 47).map (fun i => (i.zero, i.size, i.bytes)) = some (some (Value.agg #[Value.string ⟨#[]⟩, Value.string ⟨#[]⟩, Value.bool false, Value.bool false, Value.string ⟨#[]⟩, Value.slice none 0 0, Value.pointer none, Value.int .i64 0, Value.int .i64 0, Value.string ⟨#[]⟩]), 10, 120) := by kernel_rfl
theorem Yba.sz69 : (Yba.prog.info? 69).map (·.size) = some 2 := by kernel_rfl
theorem Yba.in69 : (Yba.prog.info? 69).map (fun i => (i.zero, i.size, i.bytes)) = some (some (Value.agg #[Value.int .u32 0, Value.int .u32 0]), 2, 8) := by kernel_rfl
theorem Yba.pt29 : Yba.prog.underlying 29 = some (.pointer 31) := by kernel_rfl
theorem Yba.cv5_28 : (Yba.prog.underlying 5).isSome = true := by kernel_rfl
theorem Yba.kd28 : kindOf Yba.prog 28 = some .i64 := by kernel_rfl
theorem Yba.pl31_0 : places Yba.prog 31 = some [(0, 1), (1, 1)] := by kernel_rfl
theorem Yba.zb31_0 : zeroOf Yba.prog 31 = some (Value.agg #[Value.int .i64 0, Value.string ⟨#[]⟩]) := by kernel_rfl
theorem Yba.bl31_0 {ρ : Operand → Value} {w : World} {ty : TypeId} {x0 : Operand} {v0 : Value} (h0 : ρ x0 = v0) (c0 : v0.cells = #[v0]) : ex Yba.prog ρ (.build 31 #[(0, x0)]) ty w = .ok (.value (.agg #[v0, Value.string ⟨#[]⟩])) w :=
  ex_build Yba.zb31_0 Yba.pl31_0 (by simp [Instr.fill, h0, c0, cells_agg])
theorem Yba.pl35_0_1 : places Yba.prog 35 = some [(0, 1), (1, 1), (2, 1), (3, 1), (4, 1), (5, 1)] := by kernel_rfl
theorem Yba.zb35_0_1 : zeroOf Yba.prog 35 = some (Value.agg #[Value.int .i64 0, Value.int .u32 0, Value.bool false, Value.slice none 0 0, Value.pointer none, Value.slice none 0 0]) := by kernel_rfl
theorem Yba.bl35_0_1 {ρ : Operand → Value} {w : World} {ty : TypeId} {x0 x1 : Operand} {v0 v1 : Value} (h0 : ρ x0 = v0) (c0 : v0.cells = #[v0]) (h1 : ρ x1 = v1) (c1 : v1.cells = #[v1]) : ex Yba.prog ρ (.build 35 #[(0, x0), (1, x1)]) ty w = .ok (.value (.agg #[v0, v1, Value.bool false, Value.slice none 0 0, Value.pointer none, Value.slice none 0 0])) w :=
  ex_build Yba.zb35_0_1 Yba.pl35_0_1 (by simp [Instr.fill, h0, c0, h1, c1, cells_agg])
theorem Yba.pl35_0_1_2_4 : places Yba.prog 35 = some [(0, 1), (1, 1), (2, 1), (3, 1), (4, 1), (5, 1)] := by kernel_rfl
theorem Yba.zb35_0_1_2_4 : zeroOf Yba.prog 35 = some (Value.agg #[Value.int .i64 0, Value.int .u32 0, Value.bool false, Value.slice none 0 0, Value.pointer none, Value.slice none 0 0]) := by kernel_rfl
theorem Yba.bl35_0_1_2_4 {ρ : Operand → Value} {w : World} {ty : TypeId} {x0 x1 x2 x3 : Operand} {v0 v1 v2 v3 : Value} (h0 : ρ x0 = v0) (c0 : v0.cells = #[v0]) (h1 : ρ x1 = v1) (c1 : v1.cells = #[v1]) (h2 : ρ x2 = v2) (c2 : v2.cells = #[v2]) (h3 : ρ x3 = v3) (c3 : v3.cells = #[v3]) : ex Yba.prog ρ (.build 35 #[(0, x0), (1, x1), (2, x2), (4, x3)]) ty w = .ok (.value (.agg #[v0, v1, v2, Value.slice none 0 0, v3, Value.slice none 0 0])) w :=
  ex_build Yba.zb35_0_1_2_4 Yba.pl35_0_1_2_4 (by simp [Instr.fill, h0, c0, h1, c1, h2, c2, h3, c3, cells_agg])
theorem Yba.pl40_0 : places Yba.prog 40 = some [(0, 1), (1, 1), (2, 1), (3, 1), (4, 1), (5, 1), (6, 1), (7, 2)] := by kernel_rfl
theorem Yba.zb40_0 : zeroOf Yba.prog 40 = some (Value.agg #[Value.string ⟨#[]⟩, Value.int .u8 0, Value.string ⟨#[]⟩, Value.bool false, Value.bool false, Value.slice none 0 0, Value.string ⟨#[]⟩, Value.int .i64 0, Value.int .i64 0]) := by kernel_rfl
theorem Yba.bl40_0 {ρ : Operand → Value} {w : World} {ty : TypeId} {x0 : Operand} {v0 : Value} (h0 : ρ x0 = v0) (c0 : v0.cells = #[v0]) : ex Yba.prog ρ (.build 40 #[(0, x0)]) ty w = .ok (.value (.agg #[v0, Value.int .u8 0, Value.string ⟨#[]⟩, Value.bool false, Value.bool false, Value.slice none 0 0, Value.string ⟨#[]⟩, Value.int .i64 0, Value.int .i64 0])) w :=
  ex_build Yba.zb40_0 Yba.pl40_0 (by simp [Instr.fill, h0, c0, cells_agg])
theorem Yba.pl43_0 : places Yba.prog 43 = some [(0, 1), (1, 1), (2, 1), (3, 1)] := by kernel_rfl
theorem Yba.zb43_0 : zeroOf Yba.prog 43 = some (Value.agg #[Value.string ⟨#[]⟩, Value.slice none 0 0, Value.slice none 0 0, Value.pointer none]) := by kernel_rfl
theorem Yba.bl43_0 {ρ : Operand → Value} {w : World} {ty : TypeId} {x0 : Operand} {v0 : Value} (h0 : ρ x0 = v0) (c0 : v0.cells = #[v0]) : ex Yba.prog ρ (.build 43 #[(0, x0)]) ty w = .ok (.value (.agg #[v0, Value.slice none 0 0, Value.slice none 0 0, Value.pointer none])) w :=
  ex_build Yba.zb43_0 Yba.pl43_0 (by simp [Instr.fill, h0, c0, cells_agg])
theorem Yba.pl43_0_1_3 : places Yba.prog 43 = some [(0, 1), (1, 1), (2, 1), (3, 1)] := by kernel_rfl
theorem Yba.zb43_0_1_3 : zeroOf Yba.prog 43 = some (Value.agg #[Value.string ⟨#[]⟩, Value.slice none 0 0, Value.slice none 0 0, Value.pointer none]) := by kernel_rfl
theorem Yba.bl43_0_1_3 {ρ : Operand → Value} {w : World} {ty : TypeId} {x0 x1 x2 : Operand} {v0 v1 v2 : Value} (h0 : ρ x0 = v0) (c0 : v0.cells = #[v0]) (h1 : ρ x1 = v1) (c1 : v1.cells = #[v1]) (h2 : ρ x2 = v2) (c2 : v2.cells = #[v2]) : ex Yba.prog ρ (.build 43 #[(0, x0), (1, x1), (3, x2)]) ty w = .ok (.value (.agg #[v0, v1, Value.slice none 0 0, v2])) w :=
  ex_build Yba.zb43_0_1_3 Yba.pl43_0_1_3 (by simp [Instr.fill, h0, c0, h1, c1, h2, c2, cells_agg])
theorem Yba.pl47_3 : places Yba.prog 47 = some [(0, 2), (2, 1), (3, 1), (4, 1), (5, 1), (6, 1), (7, 2), (9, 1)] := by kernel_rfl
theorem Yba.zb47_3 : zeroOf Yba.prog 47 = some (Value.agg #[Value.string ⟨#[]⟩, Value.string ⟨#[]⟩, Value.bool false, Value.bool false, Value.string ⟨#[]⟩, Value.slice none 0 0, Value.pointer none, Value.int .i64 0, Value.int .i64 0, Value.string ⟨#[]⟩]) := by kernel_rfl
theorem Yba.bl47_3 {ρ : Operand → Value} {w : World} {ty : TypeId} {x0 : Operand} {v0 : Value} (h0 : ρ x0 = v0) (c0 : v0.cells = #[v0]) : ex Yba.prog ρ (.build 47 #[(3, x0)]) ty w = .ok (.value (.agg #[Value.string ⟨#[]⟩, Value.string ⟨#[]⟩, Value.bool false, Value.bool false, v0, Value.slice none 0 0, Value.pointer none, Value.int .i64 0, Value.int .i64 0, Value.string ⟨#[]⟩])) w :=
  ex_build Yba.zb47_3 Yba.pl47_3 (by simp [Instr.fill, h0, c0, cells_agg])
theorem Yba.pl47_3_1 : places Yba.prog 47 = some [(0, 2), (2, 1), (3, 1), (4, 1), (5, 1), (6, 1), (7, 2), (9, 1)] := by kernel_rfl
theorem Yba.zb47_3_1 : zeroOf Yba.prog 47 = some (Value.agg #[Value.string ⟨#[]⟩, Value.string ⟨#[]⟩, Value.bool false, Value.bool false, Value.string ⟨#[]⟩, Value.slice none 0 0, Value.pointer none, Value.int .i64 0, Value.int .i64 0, Value.string ⟨#[]⟩]) := by kernel_rfl
theorem Yba.bl47_3_1 {ρ : Operand → Value} {w : World} {ty : TypeId} {x0 x1 : Operand} {v0 v1 : Value} (h0 : ρ x0 = v0) (c0 : v0.cells = #[v0]) (h1 : ρ x1 = v1) (c1 : v1.cells = #[v1]) : ex Yba.prog ρ (.build 47 #[(3, x0), (1, x1)]) ty w = .ok (.value (.agg #[Value.string ⟨#[]⟩, Value.string ⟨#[]⟩, v1, Value.bool false, v0, Value.slice none 0 0, Value.pointer none, Value.int .i64 0, Value.int .i64 0, Value.string ⟨#[]⟩])) w :=
  ex_build Yba.zb47_3_1 Yba.pl47_3_1 (by simp [Instr.fill, h0, c0, h1, c1, cells_agg])
theorem Yba.fun3 : Fun Yba.prog 3 := Fun.of Yba.func3 (by kernel_rfl) (by kernel_rfl)
theorem Yba.fun4 : Fun Yba.prog 4 := Fun.of Yba.func4 (by kernel_rfl) (by kernel_rfl)
theorem Yba.fun5 : Fun Yba.prog 5 := Fun.of Yba.func5 (by kernel_rfl) (by kernel_rfl)
theorem Yba.fun6 : Fun Yba.prog 6 := Fun.of Yba.func6 (by kernel_rfl) (by kernel_rfl)
end Go.Proofs.Ybulknkw
