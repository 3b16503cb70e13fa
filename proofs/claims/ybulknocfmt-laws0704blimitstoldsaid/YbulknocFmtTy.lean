import Derived.Test.YbulknocFmtMaps
import Derived.Test.YbulknocFmtRows
namespace Go.Proofs.YbulknocFmt
open Go Go.Eng
theorem Ybaf.sc2 : scal Ybaf.prog 2 = true := by kernel_rfl
theorem Ybaf.sc3 : scal Ybaf.prog 3 = true := by kernel_rfl
theorem Ybaf.sc4 : scal Ybaf.prog 4 = true := by kernel_rfl
theorem Ybaf.sc5 : scal Ybaf.prog 5 = true := by kernel_rfl
theorem Ybaf.sc9 : scal Ybaf.prog 9 = true := by kernel_rfl
theorem Ybaf.sc20 : scal Ybaf.prog 20 = true := by kernel_rfl
theorem Ybaf.sc25 : scal Ybaf.prog 25 = true := by kernel_rfl
theorem Ybaf.sc27 : scal Ybaf.prog 27 = true := by kernel_rfl
theorem Ybaf.sc28 : scal Ybaf.prog 28 = true := by kernel_rfl
theorem Ybaf.sc34 : scal Ybaf.prog 34 = true := by kernel_rfl
theorem Ybaf.sc36 : scal Ybaf.prog 36 = true := by kernel_rfl
theorem Ybaf.sc46 : scal Ybaf.prog 46 = true := by kernel_rfl
theorem Ybaf.sc49 : scal Ybaf.prog 49 = true := by kernel_rfl
theorem Ybaf.sc52 : scal Ybaf.prog 52 = true := by kernel_rfl
theorem Ybaf.sc54 : scal Ybaf.prog 54 = true := by kernel_rfl
theorem Ybaf.sc55 : scal Ybaf.prog 55 = true := by kernel_rfl
theorem Ybaf.sc61 : scal Ybaf.prog 61 = true := by kernel_rfl
theorem Ybaf.sc62 : scal Ybaf.prog 62 = true := by kernel_rfl
theorem Ybaf.sc66 : scal Ybaf.prog 66 = true := by kernel_rfl
theorem Ybaf.sc69 : scal Ybaf.prog 69 = true := by kernel_rfl
theorem Ybaf.sc86 : scal Ybaf.prog 86 = true := by kernel_rfl
theorem Ybaf.sc87 : scal Ybaf.prog 87 = true := by kernel_rfl
theorem Ybaf.sc97 : scal Ybaf.prog 97 = true := by kernel_rfl
theorem Ybaf.ag32 : aggN Ybaf.prog 32 = some 3 := by kernel_rfl
theorem Ybaf.ag48 : aggN Ybaf.prog 48 = some 4 := by kernel_rfl
theorem Ybaf.ag57 : aggN Ybaf.prog 57 = some 5 := by kernel_rfl
theorem Ybaf.ag64 : aggN Ybaf.prog 64 = some 4 := by kernel_rfl
theorem Ybaf.ag92 : aggN Ybaf.prog 92 = some 2 := by kernel_rfl
theorem Ybaf.fo32_0 : fieldOff Ybaf.prog 32 0 = some 0 := by kernel_rfl
theorem Ybaf.fo32_1 : fieldOff Ybaf.prog 32 1 = some 1 := by kernel_rfl
theorem Ybaf.fo32_2 : fieldOff Ybaf.prog 32 2 = some 2 := by kernel_rfl
theorem Ybaf.fo40_0 : fieldOff Ybaf.prog 40 0 = some 0 := by kernel_rfl
theorem Ybaf.fo40_1 : fieldOff Ybaf.prog 40 1 = some 1 := by kernel_rfl
theorem Ybaf.fo42_0 : fieldOff Ybaf.prog 42 0 = some 0 := by kernel_rfl
theorem Ybaf.fo42_1 : fieldOff Ybaf.prog 42 1 = some 1 := by kernel_rfl
theorem Ybaf.fo42_2 : fieldOff Ybaf.prog 42 2 = some 2 := by kernel_rfl
theorem Ybaf.fo48_0 : fieldOff Ybaf.prog 48 0 = some 0 := by kernel_rfl
theorem Ybaf.fo48_1 : fieldOff Ybaf.prog 48 1 = some 1 := by kernel_rfl
theorem Ybaf.fo48_2 : fieldOff Ybaf.prog 48 2 = some 2 := by kernel_rfl
theorem Ybaf.fo48_3 : fieldOff Ybaf.prog 48 3 = some 3 := by kernel_rfl
theorem Ybaf.fo51_0 : fieldOff Ybaf.prog 51 0 = some 0 := by kernel_rfl
theorem Ybaf.fo51_1 : fieldOff Ybaf.prog 51 1 = some 1 := by kernel_rfl
theorem Ybaf.fo57_0 : fieldOff Ybaf.prog 57 0 = some 0 := by kernel_rfl
theorem Ybaf.fo57_1 : fieldOff Ybaf.prog 57 1 = some 1 := by kernel_rfl
theorem Ybaf.fo57_2 : fieldOff Ybaf.prog 57 2 = some 2 := by kernel_rfl
theorem Ybaf.fo57_3 : fieldOff Ybaf.prog 57 3 = some 3 := by kernel_rfl
theorem Ybaf.fo57_4 : fieldOff Ybaf.prog 57 4 = some 4 := by kernel_rfl
theorem Ybaf.fo64_0 : fieldOff Ybaf.prog 64 0 = some 0 := by kernel_rfl
theorem Ybaf.fo64_1 : fieldOff Ybaf.prog 64 1 = some 1 := by kernel_rfl
theorem Ybaf.fo64_2 : fieldOff Ybaf.prog 64 2 = some 2 := by kernel_rfl
theorem Ybaf.fo64_3 : fieldOff Ybaf.prog 64 3 = some 3 := by kernel_rfl
theorem Ybaf.fo92_0 : fieldOff Ybaf.prog 92 0 = some 0 := by kernel_rfl
theorem Ybaf.fo92_1 : fieldOff Ybaf.prog 92 1 = some 1 := by kernel_rfl
theorem Ybaf.zo2 : zeroOf Ybaf.prog 2 = some (Value.int .i64 0) := by kernel_rfl
theorem Ybaf.zo3 : zeroOf Ybaf.prog 3 = some (Value.int .i64 0) := by kernel_rfl
theorem Ybaf.zo4 : zeroOf Ybaf.prog 4 = some (Value.bool false) := by kernel_rfl
theorem Ybaf.zo5 : zeroOf Ybaf.prog 5 = some (Value.int .u8 0) := by kernel_rfl
theorem Ybaf.zo20 : zeroOf Ybaf.prog 20 = some (Value.nilIface) := by kernel_rfl
theorem Ybaf.zo25 : zeroOf Ybaf.prog 25 = some (Value.int .i8 0) := by kernel_rfl
theorem Ybaf.zo32 : zeroOf Ybaf.prog 32 = some (Value.agg #[Value.int .i64 0, Value.int .i64 0, Value.int .i64 0]) := by kernel_rfl
theorem Ybaf.zo34 : zeroOf Ybaf.prog 34 = some (Value.pointer none) := by kernel_rfl
theorem Ybaf.zo36 : zeroOf Ybaf.prog 36 = some (Value.nilIface) := by kernel_rfl
theorem Ybaf.zo46 : zeroOf Ybaf.prog 46 = some (Value.slice none 0 0) := by kernel_rfl
theorem Ybaf.zo48 : zeroOf Ybaf.prog 48 = some (Value.agg #[Value.int .i64 0, Value.slice none 0 0, Value.int .i64 0, Value.int .i64 0]) := by kernel_rfl
theorem Ybaf.zo52 : zeroOf Ybaf.prog 52 = some (Value.pointer none) := by kernel_rfl
theorem Ybaf.zo54 : zeroOf Ybaf.prog 54 = some (Value.slice none 0 0) := by kernel_rfl
theorem Ybaf.zo57 : zeroOf Ybaf.prog 57 = some (Value.agg #[Value.int .u8 0, Value.slice none 0 0, Value.bool false, Value.int .i8 0, Value.int .i8 0]) := by kernel_rfl
theorem Ybaf.zo62 : zeroOf Ybaf.prog 62 = some (Value.slice none 0 0) := by kernel_rfl
theorem Ybaf.zo64 : zeroOf Ybaf.prog 64 = some (Value.agg #[Value.string ⟨#[]⟩, Value.bool false, Value.nilIface, Value.slice none 0 0]) := by kernel_rfl
theorem Ybaf.zo66 : zeroOf Ybaf.prog 66 = some (Value.pointer none) := by kernel_rfl
theorem Ybaf.zo86 : zeroOf Ybaf.prog 86 = some (Value.map none) := by kernel_rfl
theorem Ybaf.zo87 : zeroOf Ybaf.prog 87 = some (Value.slice none 0 0) := by kernel_rfl
theorem Ybaf.zo92 : zeroOf Ybaf.prog 92 = some (Value.agg #[Value.int .i64 0, Value.int .i64 0]) := by kernel_rfl
theorem Ybaf.sl22 : Ybaf.prog.underlying 22 = some (.slice 54) := by kernel_rfl
theorem Ybaf.sl23 : Ybaf.prog.underlying 23 = some (.slice 62) := by kernel_rfl
theorem Ybaf.sl24 : Ybaf.prog.underlying 24 = some (.slice 57) := by kernel_rfl
theorem Ybaf.sl27 : Ybaf.prog.underlying 27 = some (.slice 52) := by kernel_rfl
theorem Ybaf.sl28 : Ybaf.prog.underlying 28 = some (.slice 48) := by kernel_rfl
theorem Ybaf.sl46 : Ybaf.prog.underlying 46 = some (.slice 3) := by kernel_rfl
theorem Ybaf.sl49 : Ybaf.prog.underlying 49 = some (.slice 64) := by kernel_rfl
theorem Ybaf.sl54 : Ybaf.prog.underlying 54 = some (.slice 25) := by kernel_rfl
theorem Ybaf.sl55 : Ybaf.prog.underlying 55 = some (.slice 5) := by kernel_rfl
theorem Ybaf.sl58 : Ybaf.prog.underlying 58 = some (.slice 2) := by kernel_rfl
theorem Ybaf.sl59 : Ybaf.prog.underlying 59 = some (.slice 2) := by kernel_rfl
theorem Ybaf.sl62 : Ybaf.prog.underlying 62 = some (.slice 4) := by kernel_rfl
theorem Ybaf.sl76 : Ybaf.prog.underlying 76 = some (.slice 46) := by kernel_rfl
theorem Ybaf.sl83 : Ybaf.prog.underlying 83 = some (.slice 20) := by kernel_rfl
theorem Ybaf.sl87 : Ybaf.prog.underlying 87 = some (.slice 92) := by kernel_rfl
theorem Ybaf.sz2 : (Ybaf.prog.info? 2).map (·.size) = some 1 := by kernel_rfl
theorem Ybaf.in2 : (Ybaf.prog.info? 2).map (fun i => (i.zero, i.size, i.bytes)) = some (some (Value.int .i64 0), 1, 8) := by kernel_rfl
theorem Ybaf.sz3 : (Ybaf.prog.info? 3).map (·.size) = some 1 := by kernel_rfl
theorem Ybaf.in3 : (Ybaf.prog.info? 3).map (fun i => (i.zero, i.size, i.bytes)) = some (some (Value.int .i64 0), 1, 8) := by kernel_rfl
theorem Ybaf.sz4 : (Ybaf.prog.info? 4).map (·.size) = some 1 := by kernel_rfl
theorem Ybaf.in4 : (Ybaf.prog.info? 4).map (fun i => (i.zero, i.size, i.bytes)) = some (some (Value.bool false), 1, 1) := by kernel_rfl
theorem Ybaf.sz5 : (Ybaf.prog.info? 5).map (·.size) = some 1 := by kernel_rfl
theorem Ybaf.in5 : (Ybaf.prog.info? 5).map (fun i => (i.zero, i.size, i.bytes)) = some (some (Value.int .u8 0), 1, 1) := by kernel_rfl
theorem Ybaf.sz20 : (Ybaf.prog.info? 20).map (·.size) = some 1 := by kernel_rfl
theorem Ybaf.in20 : (Ybaf.prog.info? 20).map (fun i => (i.zero, i.size, i.bytes)) = some (some (Value.nilIface), 1, 16) := by kernel_rfl
theorem Ybaf.sz25 : (Ybaf.prog.info? 25).map (·.size) = some 1 := by kernel_rfl
theorem Ybaf.in25 : (Ybaf.prog.info? 25).map (fun i => (i.zero, i.size, i.bytes)) = some (some (Value.int .i8 0), 1, 1) := by kernel_rfl
theorem Ybaf.sz46 : (Ybaf.prog.info? 46).map (·.size) = some 1 := by kernel_rfl
theorem Ybaf.in46 : (Ybaf.prog.info? 46).map (fun i => (i.zero, i.size, i.bytes)) = some (some (Value.slice none 0 0), 1, 24) := by kernel_rfl
theorem Ybaf.sz48 : (Ybaf.prog.info? 48).map (·.size) = some 4 := by kernel_rfl
theorem Ybaf.in48 : (Ybaf.prog.info? 48).map (fun i => (i.zero, i.size, i.bytes)) = some (some (Value.agg #[Value.int .i64 0, Value.slice none 0 0, Value.int .i64 0, Value.int .i64 0]), 4, 48) := by kernel_rfl
theorem Ybaf.sz52 : (Ybaf.prog.info? 52).map (·.size) = some 1 := by kernel_rfl
theorem Ybaf.in52 : (Ybaf.prog.info? 52).map (fun i => (i.zero, i.size, i.bytes)) = some (some (Value.pointer none), 1, 8) := by kernel_rfl
theorem Ybaf.sz54 : (Ybaf.prog.info? 54).map (·.size) = some 1 := by kernel_rfl
theorem Ybaf.in54 : (Ybaf.prog.info? 54).map (fun i => (i.zero, i.size, i.bytes)) = some (some (Value.slice none 0 0), 1, 24) := by kernel_rfl
theorem Ybaf.sz57 : (Ybaf.prog.info? 57).map (·.size) = some 5 := by kernel_rfl
theorem Ybaf.in57 : (Ybaf.prog.info? 57).map (fun i => (i.zero, i.size, i.bytes)) = some (some (Value.agg #[Value.int .u8 0, Value.slice none 0 0, Value.bool false, Value.int .i8 0, Value.int .i8 0]), 5, 40) := by kernel_rfl
theorem Ybaf.sz62 : (Ybaf.prog.info? 62).map (·.size) = some 1 := by kernel_rfl
theorem Ybaf.in62 : (Ybaf.prog.info? 62).map (fun i => (i.zero, i.size, i.bytes)) = some (some (Value.slice none 0 0), 1, 24) := by kernel_rfl
theorem Ybaf.sz64 : (Ybaf.prog.info? 64).map (·.size) = some 4 := by kernel_rfl
theorem Ybaf.in64 : (Ybaf.prog.info? 64).map (fun i => (i.zero, i.size, i.bytes)) = some (some (Value.agg #[Value.string ⟨#[]⟩, Value.bool false, Value.nilIface, Value.slice none 0 0]), 4, 64) := by kernel_rfl
theorem Ybaf.sz92 : (Ybaf.prog.info? 92).map (·.size) = some 2 := by kernel_rfl
theorem Ybaf.in92 : (Ybaf.prog.info? 92).map (fun i => (i.zero, i.size, i.bytes)) = some (some (Value.agg #[Value.int .i64 0, Value.int .i64 0]), 2, 16) := by kernel_rfl
theorem Ybaf.sz42 : (Ybaf.prog.info? 42).map (·.size) = some 3 := by kernel_rfl
theorem Ybaf.pt34 : Ybaf.prog.underlying 34 = some (.pointer 42) := by kernel_rfl
theorem Ybaf.mp86 : Ybaf.prog.underlying 86 = some (.map 92 3) := by kernel_rfl
theorem Ybaf.cv5_2 : (Ybaf.prog.underlying 5).isSome = true := by kernel_rfl
theorem Ybaf.cv5_3 : (Ybaf.prog.underlying 5).isSome = true := by kernel_rfl
theorem Ybaf.cv25_2 : (Ybaf.prog.underlying 25).isSome = true := by kernel_rfl
theorem Ybaf.kd2 : kindOf Ybaf.prog 2 = some .i64 := by kernel_rfl
theorem Ybaf.kd3 : kindOf Ybaf.prog 3 = some .i64 := by kernel_rfl
theorem Ybaf.pl32_0_1_2 : places Ybaf.prog 32 = some [(0, 1), (1, 1), (2, 1)] := by kernel_rfl
theorem Ybaf.zb32_0_1_2 : zeroOf Ybaf.prog 32 = some (Value.agg #[Value.int .i64 0, Value.int .i64 0, Value.int .i64 0]) := by kernel_rfl
theorem Ybaf.bl32_0_1_2 {ρ : Operand → Value} {w : World} {ty : TypeId} {x0 x1 x2 : Operand} {v0 v1 v2 : Value} (h0 : ρ x0 = v0) (c0 : v0.cells = #[v0]) (h1 : ρ x1 = v1) (c1 : v1.cells = #[v1]) (h2 : ρ x2 = v2) (c2 : v2.cells = #[v2]) : ex Ybaf.prog ρ (.build 32 #[(0, x0), (1, x1), (2, x2)]) ty w = .ok (.value (.agg #[v0, v1, v2])) w :=
  ex_build Ybaf.zb32_0_1_2 Ybaf.pl32_0_1_2 (by simp [Instr.fill, h0, c0, h1, c1, h2, c2, cells_agg])
theorem Ybaf.pl40_0_1 : places Ybaf.prog 40 = some [(0, 1), (1, 1)] := by kernel_rfl
theorem Ybaf.zb40_0_1 : zeroOf Ybaf.prog 40 = some (Value.agg #[Value.int .i64 0, Value.int .i64 0]) := by kernel_rfl
theorem Ybaf.bl40_0_1 {ρ : Operand → Value} {w : World} {ty : TypeId} {x0 x1 : Operand} {v0 v1 : Value} (h0 : ρ x0 = v0) (c0 : v0.cells = #[v0]) (h1 : ρ x1 = v1) (c1 : v1.cells = #[v1]) : ex Ybaf.prog ρ (.build 40 #[(0, x0), (1, x1)]) ty w = .ok (.value (.agg #[v0, v1])) w :=
  ex_build Ybaf.zb40_0_1 Ybaf.pl40_0_1 (by simp [Instr.fill, h0, c0, h1, c1, cells_agg])
theorem Ybaf.pl42_0_1 : places Ybaf.prog 42 = some [(0, 1), (1, 1), (2, 1)] := by kernel_rfl
theorem Ybaf.zb42_0_1 : zeroOf Ybaf.prog 42 = some (Value.agg #[Value.slice none 0 0, Value.int .i64 0, Value.slice none 0 0]) := by kernel_rfl
theorem Ybaf.bl42_0_1 {ρ : Operand → Value} {w : World} {ty : TypeId} {x0 x1 : Operand} {v0 v1 : Value} (h0 : ρ x0 = v0) (c0 : v0.cells = #[v0]) (h1 : ρ x1 = v1) (c1 : v1.cells = #[v1]) : ex Ybaf.prog ρ (.build 42 #[(0, x0), (1, x1)]) ty w = .ok (.value (.agg #[v0, v1, Value.slice none 0 0])) w :=
  ex_build Ybaf.zb42_0_1 Ybaf.pl42_0_1 (by simp [Instr.fill, h0, c0, h1, c1, cells_agg])
theorem Ybaf.pl48_0_1_2_3 : places Ybaf.prog 48 = some [(0, 1), (1, 1), (2, 1), (3, 1)] := by kernel_rfl
theorem Ybaf.zb48_0_1_2_3 : zeroOf Ybaf.prog 48 = some (Value.agg #[Value.int .i64 0, Value.slice none 0 0, Value.int .i64 0, Value.int .i64 0]) := by kernel_rfl
theorem Ybaf.bl48_0_1_2_3 {ρ : Operand → Value} {w : World} {ty : TypeId} {x0 x1 x2 x3 : Operand} {v0 v1 v2 v3 : Value} (h0 : ρ x0 = v0) (c0 : v0.cells = #[v0]) (h1 : ρ x1 = v1) (c1 : v1.cells = #[v1]) (h2 : ρ x2 = v2) (c2 : v2.cells = #[v2]) (h3 : ρ x3 = v3) (c3 : v3.cells = #[v3]) : ex Ybaf.prog ρ (.build 48 #[(0, x0), (1, x1), (2, x2), (3, x3)]) ty w = .ok (.value (.agg #[v0, v1, v2, v3])) w :=
  ex_build Ybaf.zb48_0_1_2_3 Ybaf.pl48_0_1_2_3 (by simp [Instr.fill, h0, c0, h1, c1, h2, c2, h3, c3, cells_agg])
theorem Ybaf.pl48_0_2_3 : places Ybaf.prog 48 = some [(0, 1), (1, 1), (2, 1), (3, 1)] := by kernel_rfl
theorem Ybaf.zb48_0_2_3 : zeroOf Ybaf.prog 48 = some (Value.agg #[Value.int .i64 0, Value.slice none 0 0, Value.int .i64 0, Value.int .i64 0]) := by kernel_rfl
theorem Ybaf.bl48_0_2_3 {ρ : Operand → Value} {w : World} {ty : TypeId} {x0 x1 x2 : Operand} {v0 v1 v2 : Value} (h0 : ρ x0 = v0) (c0 : v0.cells = #[v0]) (h1 : ρ x1 = v1) (c1 : v1.cells = #[v1]) (h2 : ρ x2 = v2) (c2 : v2.cells = #[v2]) : ex Ybaf.prog ρ (.build 48 #[(0, x0), (2, x1), (3, x2)]) ty w = .ok (.value (.agg #[v0, Value.slice none 0 0, v1, v2])) w :=
  ex_build Ybaf.zb48_0_2_3 Ybaf.pl48_0_2_3 (by simp [Instr.fill, h0, c0, h1, c1, h2, c2, cells_agg])
theorem Ybaf.pl51_0_1 : places Ybaf.prog 51 = some [(0, 1), (1, 1)] := by kernel_rfl
theorem Ybaf.zb51_0_1 : zeroOf Ybaf.prog 51 = some (Value.agg #[Value.slice none 0 0, Value.int .i64 0]) := by kernel_rfl
theorem Ybaf.bl51_0_1 {ρ : Operand → Value} {w : World} {ty : TypeId} {x0 x1 : Operand} {v0 v1 : Value} (h0 : ρ x0 = v0) (c0 : v0.cells = #[v0]) (h1 : ρ x1 = v1) (c1 : v1.cells = #[v1]) : ex Ybaf.prog ρ (.build 51 #[(0, x0), (1, x1)]) ty w = .ok (.value (.agg #[v0, v1])) w :=
  ex_build Ybaf.zb51_0_1 Ybaf.pl51_0_1 (by simp [Instr.fill, h0, c0, h1, c1, cells_agg])
theorem Ybaf.pl64_0_2 : places Ybaf.prog 64 = some [(0, 1), (1, 1), (2, 1), (3, 1)] := by kernel_rfl
theorem Ybaf.zb64_0_2 : zeroOf Ybaf.prog 64 = some (Value.agg #[Value.string ⟨#[]⟩, Value.bool false, Value.nilIface, Value.slice none 0 0]) := by kernel_rfl
theorem Ybaf.bl64_0_2 {ρ : Operand → Value} {w : World} {ty : TypeId} {x0 x1 : Operand} {v0 v1 : Value} (h0 : ρ x0 = v0) (c0 : v0.cells = #[v0]) (h1 : ρ x1 = v1) (c1 : v1.cells = #[v1]) : ex Ybaf.prog ρ (.build 64 #[(0, x0), (2, x1)]) ty w = .ok (.value (.agg #[v0, Value.bool false, v1, Value.slice none 0 0])) w :=
  ex_build Ybaf.zb64_0_2 Ybaf.pl64_0_2 (by simp [Instr.fill, h0, c0, h1, c1, cells_agg])
theorem Ybaf.pl92_0_1 : places Ybaf.prog 92 = some [(0, 1), (1, 1)] := by kernel_rfl
theorem Ybaf.zb92_0_1 : zeroOf Ybaf.prog 92 = some (Value.agg #[Value.int .i64 0, Value.int .i64 0]) := by kernel_rfl
theorem Ybaf.bl92_0_1 {ρ : Operand → Value} {w : World} {ty : TypeId} {x0 x1 : Operand} {v0 v1 : Value} (h0 : ρ x0 = v0) (c0 : v0.cells = #[v0]) (h1 : ρ x1 = v1) (c1 : v1.cells = #[v1]) : ex Ybaf.prog ρ (.build 92 #[(0, x0), (1, x1)]) ty w = .ok (.value (.agg #[v0, v1])) w :=
  ex_build Ybaf.zb92_0_1 Ybaf.pl92_0_1 (by simp [Instr.fill, h0, c0, h1, c1, cells_agg])
theorem Ybaf.fun3 : Fun Ybaf.prog 3 := Fun.of Ybaf.func3 (by kernel_rfl) (by kernel_rfl)
theorem Ybaf.fun4 : Fun Ybaf.prog 4 := Fun.of Ybaf.func4 (by kernel_rfl) (by kernel_rfl)
theorem Ybaf.fun5 : Fun Ybaf.prog 5 := Fun.of Ybaf.func5 (by kernel_rfl) (by kernel_rfl)
theorem Ybaf.fun6 : Fun Ybaf.prog 6 := Fun.of Ybaf.func6 (by kernel_rfl) (by kernel_rfl)
theorem Ybaf.fun7 : Fun Ybaf.prog 7 := Fun.of Ybaf.func7 (by kernel_rfl) (by kernel_rfl)
theorem Ybaf.fun8 : Fun Ybaf.prog 8 := Fun.of Ybaf.func8 (by kernel_rfl) (by kernel_rfl)
theorem Ybaf.fun9 : Fun Ybaf.prog 9 := Fun.of Ybaf.func9 (by kernel_rfl) (by kernel_rfl)
theorem Ybaf.fun10 : Fun Ybaf.prog 10 := Fun.of Ybaf.func10 (by kernel_rfl) (by kernel_rfl)
theorem Ybaf.fun11 : Fun Ybaf.prog 11 := Fun.of Ybaf.func11 (by kernel_rfl) (by kernel_rfl)
theorem Ybaf.fun12 : Fun Ybaf.prog 12 := Fun.of Ybaf.func12 (by kernel_rfl) (by kernel_rfl)
theorem Ybaf.fun13 : Fun Ybaf.prog 13 := Fun.of Ybaf.func13 (by kernel_rfl) (by kernel_rfl)
theorem Ybaf.fun14 : Fun Ybaf.prog 14 := Fun.of Ybaf.func14 (by kernel_rfl) (by kernel_rfl)
theorem Ybaf.fun15 : Fun Ybaf.prog 15 := Fun.of Ybaf.func15 (by kernel_rfl) (by kernel_rfl)
theorem Ybaf.fun16 : Fun Ybaf.prog 16 := Fun.of Ybaf.func16 (by kernel_rfl) (by kernel_rfl)
theorem Ybaf.fun17 : Fun Ybaf.prog 17 := Fun.of Ybaf.func17 (by kernel_rfl) (by kernel_rfl)
theorem Ybaf.fun18 : Fun Ybaf.prog 18 := Fun.of Ybaf.func18 (by kernel_rfl) (by kernel_rfl)
theorem Ybaf.fun19 : Fun Ybaf.prog 19 := Fun.of Ybaf.func19 (by kernel_rfl) (by kernel_rfl)
theorem Ybaf.fun20 : Fun Ybaf.prog 20 := Fun.of Ybaf.func20 (by kernel_rfl) (by kernel_rfl)
theorem Ybaf.fun21 : Fun Ybaf.prog 21 := Fun.of Ybaf.func21 (by kernel_rfl) (by kernel_rfl)
theorem Ybaf.fun22 : Fun Ybaf.prog 22 := Fun.of Ybaf.func22 (by kernel_rfl) (by kernel_rfl)
theorem Ybaf.fun23 : Fun Ybaf.prog 23 := Fun.of Ybaf.func23 (by kernel_rfl) (by kernel_rfl)
theorem Ybaf.fun24 : Fun Ybaf.prog 24 := Fun.of Ybaf.func24 (by kernel_rfl) (by kernel_rfl)
theorem Ybaf.fun25 : Fun Ybaf.prog 25 := Fun.of Ybaf.func25 (by kernel_rfl) (by kernel_rfl)
theorem Ybaf.fun28 : Fun Ybaf.prog 28 := Fun.of Ybaf.func28 (by kernel_rfl) (by kernel_rfl)
theorem Ybaf.fun29 : Fun Ybaf.prog 29 := Fun.of Ybaf.func29 (by kernel_rfl) (by kernel_rfl)
theorem Ybaf.fun30 : Fun Ybaf.prog 30 := Fun.of Ybaf.func30 (by kernel_rfl) (by kernel_rfl)
theorem Ybaf.fun31 : Fun Ybaf.prog 31 := Fun.of Ybaf.func31 (by kernel_rfl) (by kernel_rfl)
theorem Ybaf.fun32 : Fun Ybaf.prog 32 := Fun.of Ybaf.func32 (by kernel_rfl) (by kernel_rfl)
end Go.Proofs.YbulknocFmt
