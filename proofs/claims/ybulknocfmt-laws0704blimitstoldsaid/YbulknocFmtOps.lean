/-
  THE ENGINE's LAWS, one an operation ('ex': what an operation does, by its op and type alone). Over whatever program.
-/
import Derived.Test.YbulknocFmtEng
namespace Go.Eng
open Go Go.RowKit

/-! ### Facts on types, as closed reckonings -/
/-- A type of one cell that is no struct and no array. -/
def scal (P : Program) (t : TypeId) : Bool :=
  match P.underlying t with
  | some (.struct _) => false
  | some (.array _ _) => false
  | some _ => (P.info? t).map (·.size) == some 1
  | none => false
/-- A struct or an array: its cells. -/
def aggN (P : Program) (t : TypeId) : Option Nat :=
  match P.underlying t with
  | some (.struct _) => (P.info? t).map (·.size)
  | some (.array _ _) => (P.info? t).map (·.size)
  | _ => none
def zeroOf (P : Program) (t : TypeId) : Option Value := (P.info? t).bind (·.zero)
def sizeN (P : Program) (t : TypeId) : Option Nat := (P.info? t).map (·.size)
/-- A field's place, where it has cells. -/
def fieldOff (P : Program) (s f : Nat) : Option Nat :=
  match P.underlying s with
  | some (.struct fields) => (fields[f]?).bind fun x => match sizeN P x.type with
    | some (_ + 1) => some x.offset
    | _ => none
  | _ => none
/-- A struct's places. -/
def places (P : Program) (s : Nat) : Option (List (Nat × Nat)) :=
  match P.underlying s with
  | some (.struct fields) => fields.toList.mapM fun f => (sizeN P f.type).map fun n => (f.offset, n)
  | _ => none

section
variable {P : Program} {ρ : Operand → Value} {w : World} {ty : TypeId}

theorem run_isAgg_scal {t : TypeId} (h : scal P t = true) : (isAgg t).run P w = .ok false w := by
  unfold scal at h
  unfold isAgg
  cases hu : P.underlying t with
  | none => rw [hu] at h; cases h
  | some d =>
    rw [hu] at h
    rw [Sem.run_bind, run_underlying hu w]
    cases d <;> first | cases h | rfl
theorem size_scal {t : TypeId} (h : scal P t = true) : (P.info? t).map (·.size) = some 1 := by
  unfold scal at h
  cases hu : P.underlying t with
  | none => rw [hu] at h; cases h
  | some d =>
    rw [hu] at h
    cases d <;> first | cases h | exact beq_iff_eq.1 h
theorem run_isAgg_agg {t n : Nat} (h : aggN P t = some n) : (isAgg t).run P w = .ok true w := by
  unfold aggN at h
  unfold isAgg
  cases hu : P.underlying t with
  | none => rw [hu] at h; cases h
  | some d =>
    rw [hu] at h
    rw [Sem.run_bind, run_underlying hu w]
    cases d <;> first | cases h | rfl
theorem size_agg {t n : Nat} (h : aggN P t = some n) : (P.info? t).map (·.size) = some n := by
  unfold aggN at h
  cases hu : P.underlying t with
  | none => rw [hu] at h; cases h
  | some d => rw [hu] at h; cases d <;> first | cases h | exact h
theorem run_sizeOf {t n : Nat} (h : (P.info? t).map (·.size) = some n) : (sizeOf t).run P w = .ok n w := by
  cases hi : P.info? t with
  | none => rw [hi] at h; cases h
  | some i =>
    rw [hi] at h
    simp only [Option.map_some, Option.some.injEq] at h
    simp [sizeOf, typeInfo, hi, h]
theorem run_zeroValue {t : Nat} {z : Value} (h : zeroOf P t = some z) : (zeroValue t).run P w = .ok z w := by
  unfold zeroOf at h
  cases hi : P.info? t with
  | none => rw [hi] at h; cases h
  | some i =>
    rw [hi] at h
    simp only [Option.bind_some] at h
    simp [zeroValue, typeInfo, hi, h]

/-! ### Cells -/
theorem cells_agg (cs : Array Value) : (Value.agg cs).cells = cs := rfl
theorem add_lit (b o n : Nat) : (⟨b, o, none⟩ : Addr).add n = ⟨b, o + n, none⟩ := by
  unfold Addr.add; split
  · rename_i h; subst h; rfl
  · rfl
theorem cellOf {b i : Nat} {c : Array Value} {T : TypeId} {fz : Nat × Nat} {v : Value} (h : w.heap[b]? = some (.cells c T fz)) (hv : c[i]? = some v) : w.cell? ⟨b, i, none⟩ = some v := by
  rw [cell_of_row w b i c T fz h]; exact hv

/-- A list's element, by a recursion that the unifier reckons. -/
def nth : List Value → Nat → Option Value
  | [], _ => none
  | x :: _, 0 => some x
  | _ :: l, n + 1 => nth l n
theorem nth_eq : ∀ (l : List Value) (i : Nat), nth l i = l[i]?
  | [], i => by simp [nth]
  | x :: l, 0 => by simp [nth]
  | x :: l, i + 1 => by simp [nth, nth_eq l i]

/-! ### Plain operations -/
theorem ex_move {x : Operand} {v : Value} (h : ρ x = v) : ex P ρ (.move x) ty w = .ok (.value v) w := by subst h; rfl
theorem ex_assign {x : Operand} {v : Value} (h : ρ x = v) : ex P ρ (.assign x) ty w = .ok (.value v) w := by subst h; rfl
theorem ex_pick {c a b : Operand} {p : Bool} {u v : Value} (hc : ρ c = .bool p) (ha : ρ a = u) (hb : ρ b = v) : ex P ρ (.pick c a b) ty w = .ok (.value (if p then u else v)) w := by
  subst ha; subst hb
  unfold ex execOp
  simp only [hc]
  cases p <;> rfl
theorem ex_pick_t {c a b : Operand} {u : Value} (hc : ρ c = .bool true) (ha : ρ a = u) : ex P ρ (.pick c a b) ty w = .ok (.value u) w := by
  subst ha
  unfold ex execOp
  simp only [hc]
  rfl
theorem ex_pick_f {c a b : Operand} {u : Value} (hc : ρ c = .bool false) (hb : ρ b = u) : ex P ρ (.pick c a b) ty w = .ok (.value u) w := by
  subst hb
  unfold ex execOp
  simp only [hc]
  rfl
theorem ex_not {t : TypeId} {x : Operand} {b : Bool} (h : ρ x = .bool b) : ex P ρ (.unOp .not t x) ty w = .ok (.value (.bool (!b))) w := by
  unfold ex execOp
  simp only [h]
  rfl
theorem ex_extract {x : Operand} {vs : Array Value} {i : Nat} {v : Value} (h : ρ x = .tuple vs) (hv : vs[i]? = some v) : ex P ρ (.extract x i) ty w = .ok (.value v) w := by
  unfold ex execOp
  simp only [h]
  simp [Instr.extract, hv]
theorem ex_nilCheck {x : Operand} {a : Addr} (h : ρ x = .pointer (some a)) : ex P ρ (.nilCheck x) ty w = .ok (.value (.pointer (some a))) w := by
  unfold ex execOp
  simp only [h]
  rfl
theorem ex_makeFunc {fn : FuncId} {cap : Array Operand} {vs : Array Value} (h : cap.map ρ = vs) : ex P ρ (.makeFunc (.func fn) #[] cap) ty w = .ok (.value (.func (.func fn) #[] vs)) w := by
  subst h
  unfold ex execOp Instr.makeFunc
  simp

/-! ### Memory -/
theorem ex_alloc {t q : Nat} {z : Value} (hz : zeroOf P t = some z) (hq : w.heap.size = q) : ex P ρ (.alloc t) ty w = .ok (.value (.pointer (some ⟨q, 0, none⟩))) (w.alloc (.cells z.cells t)) := by
  subst hq
  unfold ex execOp Instr.alloc
  simp [run_zeroValue hz, newVar, newRow]
theorem ex_box {t q : Nat} {x : Operand} {v : Value} (h : ρ x = v) (hq : w.heap.size = q) : ex P ρ (.box t x) ty w = .ok (.value (.pointer (some ⟨q, 0, none⟩))) (w.alloc (.cells v.cells t)) := by
  subst hq
  subst h
  unfold ex execOp Instr.box
  simp [newVar, newRow]
theorem ex_load {t : TypeId} {x : Operand} {a : Addr} {v : Value} (hx : ρ x = .pointer (some a)) (hs : scal P t = true) (hc : w.cell? a = some v) : ex P ρ (.load t x) ty w = .ok (.value v) w := by
  unfold ex execOp
  simp only [hx]
  simp [Instr.loadAt, Instr.sureAddr, loadVar, run_isAgg_scal hs, hc]
theorem ex_loadB {t : TypeId} {x : Operand} {b i : Nat} {v : Value} {c : Array Value} {T : TypeId} {fz : Nat × Nat} (hx : ρ x = .pointer (some ⟨b, i, none⟩)) (hs : scal P t = true)
    (hb : w.heap[b]? = some (.cells c T fz)) (hv : nth c.toList i = some v) : ex P ρ (.load t x) ty w = .ok (.value v) w := ex_load hx hs (cellOf hb (by rw [nth_eq] at hv; simpa using hv))
theorem run_loadVar_at {t n : Nat} {a : Addr} {vs : List Value} (hn : aggN P t = some n) (hl : vs.length = n) (hc : ∀ j v, vs[j]? = some v → w.cell? (a.add j) = some v) :
    (loadVar t a).run P w = .ok (.agg vs.toArray) w := by
  have h1 := run_loadCells_list (P := P) w a vs hc
  rw [hl] at h1
  simp [loadVar, run_isAgg_agg hn, run_sizeOf (size_agg hn), h1]
theorem ex_loadA {t n : Nat} {x : Operand} {a : Addr} {vs : List Value} (hx : ρ x = .pointer (some a)) (hn : aggN P t = some n) (hl : vs.length = n) (hc : ∀ j v, vs[j]? = some v → w.cell? (a.add j) = some v) :
    ex P ρ (.load t x) ty w = .ok (.value (.agg vs.toArray)) w := by
  unfold ex execOp
  simp only [hx]
  simp [Instr.loadAt, Instr.sureAddr, run_loadVar_at hn hl hc]
/-- A whole block. -/
theorem ex_loadW {t n : Nat} {x : Operand} {b : Nat} {c : Array Value} {T : TypeId} {fz : Nat × Nat} (hx : ρ x = .pointer (some ⟨b, 0, none⟩)) (hb : w.heap[b]? = some (.cells c T fz)) (hn : aggN P t = some n) (hc : c.size = n) :
    ex P ρ (.load t x) ty w = .ok (.value (.agg c)) w := by
  subst hc
  have h := ex_loadA (w := w) (ty := ty) (vs := c.toList) hx hn (by simp) (fun j v hv => by
    rw [add_lit, Nat.zero_add]
    exact cellOf hb (by simpa using hv))
  simpa using h
/-- A row of a block. -/
theorem ex_loadR {t n : Nat} {x : Operand} {b i : Nat} {c : Array Value} {T : TypeId} {fz : Nat × Nat} {vs : List Value} (hx : ρ x = .pointer (some ⟨b, i, none⟩)) (hb : w.heap[b]? = some (.cells c T fz)) (hn : aggN P t = some n) (hl : vs.length = n)
    (hv : (c.toList.drop i).take n = vs) : ex P ρ (.load t x) ty w = .ok (.value (.agg vs.toArray)) w :=
  ex_loadA hx hn hl (fun j v hj => by
    rw [add_lit]
    refine cellOf hb ?_
    rw [← hv] at hj
    have hlt : j < n := by
      rcases Nat.lt_or_ge j n with h | h
      · exact h
      · rw [List.getElem?_take, if_neg (by omega)] at hj; cases hj
    rw [List.getElem?_take, if_pos hlt, List.getElem?_drop] at hj
    simpa using hj)

theorem ex_store {t : TypeId} {x y : Operand} {b i : Nat} {v : Value} {c : Array Value} {T : TypeId} (hx : ρ x = .pointer (some ⟨b, i, none⟩)) (hy : ρ y = v) (hs : scal P t = true) (h1 : v.oneCell' = true)
    (hb : w.heap[b]? = some (.cells c T (0, 0))) (hi : Nat.blt i c.size = true) : ex P ρ (.store t x y) ty w = .ok .skip (w.setRow b (c.setIfInBounds i v)) := by
  subst hy
  have hi' : i < c.size := by simpa using hi
  have hc : (ρ y).cells = #[ρ y] := by
    cases hv : ρ y <;> first | rfl | (rw [hv] at h1; cases h1)
  have hcell : w.cell? ⟨b, i, none⟩ = some c[i] := by simp [World.cell?, hb, hi']
  have hfro : w.frozen? ⟨b, i, none⟩ = false := by simp [World.frozen?, hb]
  have hst : (store (⟨b, i, none⟩ : Addr) (ρ y)).run P w = .ok () (w.setRow b (c.setIfInBounds i (ρ y))) := by
    rw [run_store P w _ _ _ h1, hcell]
    simp [hfro, setCell_eq_setRow w b i c T (0, 0) (ρ y) hb]
  unfold ex execOp
  simp only [hx]
  simp [Instr.storeAt, Instr.sureAddr, storeVar, hc, run_sizeOf (size_scal hs), storeCells, Addr.add, hst]
/-- A struct, over a whole block. -/
theorem ex_storeW {t n : Nat} {x y : Operand} {b : Nat} {vs : Array Value} {c : Array Value} {T : TypeId} (hx : ρ x = .pointer (some ⟨b, 0, none⟩)) (hy : ρ y = .agg vs) (hn : aggN P t = some n) (hb : w.heap[b]? = some (.cells c T (0, 0))) (hc : c.size = n) (hl : vs.size = n)
    (h1 : vs.toList.all Value.oneCell' = true) : ex P ρ (.store t x y) ty w = .ok .skip (w.setRow b vs) := by
  subst hc
  have h1 : ∀ v ∈ vs.toList, v.oneCell' = true := List.all_eq_true.1 h1
  have hst := run_storeCells_at (P := P) b 0 T vs.toList 0 c w hb (by simp [hl]) h1
  simp only [Nat.add_zero, List.take_zero, List.nil_append, Nat.zero_add, Array.length_toList, hl] at hst
  rw [List.drop_of_length_le (by simp), List.append_nil, Array.toArray_toList] at hst
  unfold ex execOp
  simp only [hx, hy]
  simp [Instr.storeAt, Instr.sureAddr, storeVar, Value.cells, run_sizeOf (size_agg hn), hl, hst]
/-- A struct, into a row of a block. -/
theorem ex_storeR {t n : Nat} {x y : Operand} {b i : Nat} {vs : Array Value} {c : Array Value} {T : TypeId} (hx : ρ x = .pointer (some ⟨b, i, none⟩)) (hy : ρ y = .agg vs) (hn : aggN P t = some n) (hl : vs.size = n)
    (h1 : vs.toList.all Value.oneCell' = true) (hb : w.heap[b]? = some (.cells c T (0, 0))) (hfit : i + n ≤ c.size) :
    ex P ρ (.store t x y) ty w = .ok .skip (w.setRow b (c.toList.take i ++ vs.toList ++ c.toList.drop (i + n)).toArray) := by
  have h1 : ∀ v ∈ vs.toList, v.oneCell' = true := List.all_eq_true.1 h1
  have hst := run_storeCells_at (P := P) b i T vs.toList 0 c w hb (by simp [hl]; omega) h1
  simp only [Nat.add_zero, Array.length_toList, hl] at hst
  unfold ex execOp
  simp only [hx, hy]
  simp [Instr.storeAt, Instr.sureAddr, storeVar, Value.cells, run_sizeOf (size_agg hn), hl, hst]

theorem ex_fieldAddr {s f o : Nat} {x : Operand} {b i : Nat} (hx : ρ x = .pointer (some ⟨b, i, none⟩)) (hf : fieldOff P s f = some o) : ex P ρ (.fieldAddr s x f) ty w = .ok (.value (.pointer (some ⟨b, i + o, none⟩))) w := by
  unfold fieldOff at hf
  cases hu : P.underlying s with
  | none => rw [hu] at hf; cases hf
  | some d =>
    rw [hu] at hf
    cases d <;> try cases hf
    rename_i fields
    simp only at hf
    cases hg : fields[f]? with
    | none => rw [hg] at hf; cases hf
    | some fd =>
      rw [hg] at hf
      simp only [Option.bind_some] at hf
      cases hn : sizeN P fd.type with
      | none => rw [hn] at hf; cases hf
      | some n =>
        rw [hn] at hf
        cases n with
        | zero => cases hf
        | succ n =>
          simp only [Option.some.injEq] at hf
          subst hf
          unfold ex execOp
          simp only [hx]
          simp [Instr.fieldAt, run_underlying hu, hg, Instr.sureAddr, fieldPlace, run_sizeOf hn, add_lit]

theorem ex_indexAddr {t e n : Nat} {x y : Operand} {b o len cap : Nat} {k : IntKind} {i : Int} {m : Nat} (hx : ρ x = .slice (some ⟨b, o, none⟩) len cap) (hy : ρ y = .int k i) (ht : P.underlying t = some (.slice e)) (hn : (P.info? e).map (·.size) = some n)
    (hi : i = (m : Int)) (hlt : m < len) : ex P ρ (.indexAddr t x y) ty w = .ok (.value (.pointer (some ⟨b, o + m * n, none⟩))) w := by
  subst hi
  unfold ex execOp
  simp only [hx, hy]
  simp [Instr.indexAt, run_underlying ht, asIntOf, run_sizeOf hn, hlt, add_lit]

/-- At a block's head. -/
theorem ex_ix0 {t e n : Nat} {x y : Operand} {b len cap : Nat} {k : IntKind} {i : Int} {m : Nat} (hx : ρ x = .slice (some ⟨b, 0, none⟩) len cap) (hy : ρ y = .int k i) (ht : P.underlying t = some (.slice e)) (hn : (P.info? e).map (·.size) = some n)
    (hi : i = (m : Int)) (hlt : m < len) : ex P ρ (.indexAddr t x y) ty w = .ok (.value (.pointer (some ⟨b, m * n, none⟩))) w := by
  have h := ex_indexAddr (w := w) (ty := ty) hx hy ht hn hi hlt
  rw [Nat.zero_add] at h
  exact h
/-- At a block's head, elements of one cell. -/
theorem ex_ix1 {t e : Nat} {x y : Operand} {b len cap : Nat} {k : IntKind} {i : Int} {m : Nat} (hx : ρ x = .slice (some ⟨b, 0, none⟩) len cap) (hy : ρ y = .int k i) (ht : P.underlying t = some (.slice e)) (hn : (P.info? e).map (·.size) = some 1)
    (hi : i = (m : Int)) (hlt : m < len) : ex P ρ (.indexAddr t x y) ty w = .ok (.value (.pointer (some ⟨b, m, none⟩))) w := by
  have h := ex_ix0 (w := w) (ty := ty) hx hy ht hn hi hlt
  rw [Nat.mul_one] at h
  exact h
/-- Anywhere, elements of one cell. -/
theorem ex_ixa {t e : Nat} {x y : Operand} {b o len cap : Nat} {k : IntKind} {i : Int} {m : Nat} (hx : ρ x = .slice (some ⟨b, o, none⟩) len cap) (hy : ρ y = .int k i) (ht : P.underlying t = some (.slice e)) (hn : (P.info? e).map (·.size) = some 1)
    (hi : i = (m : Int)) (hlt : m < len) : ex P ρ (.indexAddr t x y) ty w = .ok (.value (.pointer (some ⟨b, o + m, none⟩))) w := by
  have h := ex_indexAddr (w := w) (ty := ty) hx hy ht hn hi hlt
  rw [Nat.mul_one] at h
  exact h

/-! ### Integers -/
theorem wrap_i64 {n : Int} (h0 : -9223372036854775808 ≤ n) (h1 : n ≤ 9223372036854775807) : IntKind.i64.wrap n = n := by rw [IntKind.wrap_i64]; omega
theorem wrap_u8 {n : Int} (h0 : 0 ≤ n) (h1 : n ≤ 255) : IntKind.u8.wrap n = n := by rw [IntKind.wrap_u8]; omega
theorem wrap_u32 {n : Int} (h0 : 0 ≤ n) (h1 : n ≤ 4294967295) : IntKind.u32.wrap n = n := by rw [IntKind.wrap_u32]; omega
theorem wrap_u64 {n : Int} (h0 : 0 ≤ n) (h1 : n ≤ 18446744073709551615) : IntKind.u64.wrap n = n := by rw [IntKind.wrap_u64]; omega

theorem run_eqGuard_int {op : BinOp} {t : TypeId} {x y : Operand} {k k' : IntKind} {a b : Int} : (eqGuard op t x y (.int k a) (.int k' b)).run P w = .ok () w := by
  unfold eqGuard
  cases op <;> rfl
theorem ex_add {t t' : TypeId} {x y : Operand} {k : IntKind} {a b c : Int} (hx : ρ x = .int k a) (hy : ρ y = .int k b) (hc : k.wrap (a + b) = c) : ex P ρ (.binOp .add t x y t') ty w = .ok (.value (.int k c)) w := by
  subst hc
  unfold ex execOp
  simp only [hx, hy]
  simp [run_eqGuard_int, binOp, Op.intArith]
theorem ex_sub {t t' : TypeId} {x y : Operand} {k : IntKind} {a b c : Int} (hx : ρ x = .int k a) (hy : ρ y = .int k b) (hc : k.wrap (a - b) = c) : ex P ρ (.binOp .sub t x y t') ty w = .ok (.value (.int k c)) w := by
  subst hc
  unfold ex execOp
  simp only [hx, hy]
  simp [run_eqGuard_int, binOp, Op.intArith]
theorem ex_mul {t t' : TypeId} {x y : Operand} {k : IntKind} {a b c : Int} (hx : ρ x = .int k a) (hy : ρ y = .int k b) (hc : k.wrap (a * b) = c) : ex P ρ (.binOp .mul t x y t') ty w = .ok (.value (.int k c)) w := by
  subst hc
  unfold ex execOp
  simp only [hx, hy]
  simp [run_eqGuard_int, binOp, Op.intArith]
theorem ex_quo {t t' : TypeId} {x y : Operand} {k : IntKind} {a b c : Int} (hx : ρ x = .int k a) (hy : ρ y = .int k b) (hb : b ≠ 0) (hc : k.wrap (a.tdiv b) = c) : ex P ρ (.binOp .quo t x y t') ty w = .ok (.value (.int k c)) w := by
  subst hc
  unfold ex execOp
  simp only [hx, hy]
  simp [run_eqGuard_int, binOp, Op.intDiv, hb]
theorem ex_rem {t t' : TypeId} {x y : Operand} {k : IntKind} {a b : Int} (hx : ρ x = .int k a) (hy : ρ y = .int k b) (hb : b ≠ 0) : ex P ρ (.binOp .rem t x y t') ty w = .ok (.value (.int k (a.tmod b))) w := by
  unfold ex execOp
  simp only [hx, hy]
  simp [run_eqGuard_int, binOp, Op.intDiv, hb]
theorem ex_lss {t t' : TypeId} {x y : Operand} {k : IntKind} {a b : Int} (hx : ρ x = .int k a) (hy : ρ y = .int k b) : ex P ρ (.binOp .lss t x y t') ty w = .ok (.value (.bool (decide (a < b)))) w := by
  unfold ex execOp
  simp only [hx, hy]
  simp [run_eqGuard_int, binOp, Op.intCmp]
theorem ex_leq {t t' : TypeId} {x y : Operand} {k : IntKind} {a b : Int} (hx : ρ x = .int k a) (hy : ρ y = .int k b) : ex P ρ (.binOp .leq t x y t') ty w = .ok (.value (.bool (decide (a ≤ b)))) w := by
  unfold ex execOp
  simp only [hx, hy]
  simp [run_eqGuard_int, binOp, Op.intCmp]
theorem ex_gtr {t t' : TypeId} {x y : Operand} {k : IntKind} {a b : Int} (hx : ρ x = .int k a) (hy : ρ y = .int k b) : ex P ρ (.binOp .gtr t x y t') ty w = .ok (.value (.bool (decide (b < a)))) w := by
  unfold ex execOp
  simp only [hx, hy]
  simp [run_eqGuard_int, binOp, Op.intCmp]
theorem ex_geq {t t' : TypeId} {x y : Operand} {k : IntKind} {a b : Int} (hx : ρ x = .int k a) (hy : ρ y = .int k b) : ex P ρ (.binOp .geq t x y t') ty w = .ok (.value (.bool (decide (b ≤ a)))) w := by
  unfold ex execOp
  simp only [hx, hy]
  simp [run_eqGuard_int, binOp, Op.intCmp]
theorem ex_eql {t t' : TypeId} {x y : Operand} {k : IntKind} {a b : Int} (hx : ρ x = .int k a) (hy : ρ y = .int k b) : ex P ρ (.binOp .eql t x y t') ty w = .ok (.value (.bool (decide (a = b)))) w := by
  unfold ex execOp
  simp only [hx, hy]
  simp [run_eqGuard_int, binOp, Op.intCmp]
  by_cases h : a = b <;> simp [h]
theorem ex_neq {t t' : TypeId} {x y : Operand} {k : IntKind} {a b : Int} (hx : ρ x = .int k a) (hy : ρ y = .int k b) : ex P ρ (.binOp .neq t x y t') ty w = .ok (.value (.bool (decide (a ≠ b)))) w := by
  unfold ex execOp
  simp only [hx, hy]
  simp [run_eqGuard_int, binOp, Op.intCmp]
  by_cases h : a = b <;> simp [h]
def kindOf (P : Program) (t : TypeId) : Option IntKind := match P.underlying t with | some (.int k) => some k | _ => none
theorem ex_convert {s d : TypeId} {x : Operand} {k k' : IntKind} {n m : Int} (hx : ρ x = .int k n) (hs : (P.underlying s).isSome = true) (hd : kindOf P d = some k') (hm : k'.wrap n = m) :
    ex P ρ (.convert s d x) ty w = .ok (.value (.int k' m)) w := by
  subst hm
  unfold kindOf at hd
  cases hu : P.underlying d with
  | none => rw [hu] at hd; cases hd
  | some dd =>
    rw [hu] at hd
    cases dd <;> try cases hd
    obtain ⟨sd, hsd⟩ := Option.isSome_iff_exists.mp hs
    unfold ex execOp
    simp only [hx]
    simp [convert, run_underlying hsd, run_underlying hu, Conv.intToInt]

/-! ### Strings, pointers, slices: '==' -/
theorem run_eqGuard_string {op : BinOp} {t : TypeId} {x y : Operand} {a b : ByteArray} : (eqGuard op t x y (.string a) (.string b)).run P w = .ok () w := by
  unfold eqGuard
  cases op <;> rfl
theorem bytes_beq (a b : ByteArray) : (a.toList == b.toList) = decide (a = b) := by
  by_cases h : a = b
  · subst h; simp
  · have h' : a.toList ≠ b.toList := fun e => h (by
      rw [ByteArray.toList_eq, ByteArray.toList_eq] at e
      exact ByteArray.ext (Array.ext' e))
    simp [h, h']
theorem ex_neq_str {t t' : TypeId} {x y : Operand} {a b : ByteArray} (hx : ρ x = .string a) (hy : ρ y = .string b) : ex P ρ (.binOp .neq t x y t') ty w = .ok (.value (.bool (decide (a ≠ b)))) w := by
  unfold ex execOp
  simp only [hx, hy]
  simp [run_eqGuard_string, binOp, Op.stringOp, bytes_beq]
theorem ex_eql_str {t t' : TypeId} {x y : Operand} {a b : ByteArray} (hx : ρ x = .string a) (hy : ρ y = .string b) : ex P ρ (.binOp .eql t x y t') ty w = .ok (.value (.bool (decide (a = b)))) w := by
  unfold ex execOp
  simp only [hx, hy]
  simp [run_eqGuard_string, binOp, Op.stringOp, bytes_beq]
theorem run_eqGuard_ptr {op : BinOp} {t : TypeId} {x y : Operand} {a b : Option Addr} : (eqGuard op t x y (.pointer a) (.pointer b)).run P w = .ok () w := by
  unfold eqGuard
  cases op <;> rfl
theorem run_equal_nil {t e : TypeId} {a : Option Addr} (ht : P.underlying t = some (.pointer e)) : (Op.equal t (.pointer a) (.pointer none)).run P w = .ok a.isNone w := by
  unfold Op.equal Op.maxDepth Op.equalIn
  rw [Sem.run_bind, run_underlying ht w]
  cases a <;> rfl
theorem ex_eql_nil {t t' e : TypeId} {x y : Operand} {a : Option Addr} (hx : ρ x = .pointer a) (hy : ρ y = .pointer none) (ht : P.underlying t = some (.pointer e)) : ex P ρ (.binOp .eql t x y t') ty w = .ok (.value (.bool a.isNone)) w := by
  unfold ex execOp
  simp only [hx, hy]
  simp [run_eqGuard_ptr, binOp, run_equal_nil ht]
theorem ex_neq_nil {t t' e : TypeId} {x y : Operand} {a : Option Addr} (hx : ρ x = .pointer a) (hy : ρ y = .pointer none) (ht : P.underlying t = some (.pointer e)) : ex P ρ (.binOp .neq t x y t') ty w = .ok (.value (.bool a.isSome)) w := by
  unfold ex execOp
  simp only [hx, hy]
  simp [run_eqGuard_ptr, binOp, run_equal_nil ht]
theorem run_eqGuard_slice {op : BinOp} {t : TypeId} {x y : Operand} {a b : Option Addr} {l c l' c' : Nat} : (eqGuard op t x y (.slice a l c) (.slice b l' c')).run P w = .ok () w := by
  unfold eqGuard
  cases op <;> rfl
theorem run_equal_nilslice {t e : TypeId} {a : Option Addr} {l c : Nat} (ht : P.underlying t = some (.slice e)) : (Op.equal t (.slice a l c) (.slice none 0 0)).run P w = .ok a.isNone w := by
  unfold Op.equal Op.maxDepth Op.equalIn
  rw [Sem.run_bind, run_underlying ht w]
  cases a <;> rfl
theorem ex_neq_nilslice {t t' e : TypeId} {x y : Operand} {a : Option Addr} {l c : Nat} (hx : ρ x = .slice a l c) (hy : ρ y = .slice none 0 0) (ht : P.underlying t = some (.slice e)) : ex P ρ (.binOp .neq t x y t') ty w = .ok (.value (.bool a.isSome)) w := by
  unfold ex execOp
  simp only [hx, hy]
  simp [run_eqGuard_slice, binOp, run_equal_nilslice ht]
theorem ex_eql_nilslice {t t' e : TypeId} {x y : Operand} {a : Option Addr} {l c : Nat} (hx : ρ x = .slice a l c) (hy : ρ y = .slice none 0 0) (ht : P.underlying t = some (.slice e)) : ex P ρ (.binOp .eql t x y t') ty w = .ok (.value (.bool a.isNone)) w := by
  unfold ex execOp
  simp only [hx, hy]
  simp [run_eqGuard_slice, binOp, run_equal_nilslice ht]

/-! ### Builtins -/
theorem ex_len {t e : TypeId} {x : Operand} {a : Option Addr} {n c : Nat} (hx : ρ x = .slice a n c) (ht : P.underlying t = some (.slice e)) :
    ex P ρ (.call { callee := .builtin .len, args := #[x], argTypes := #[t] }) ty w = .ok (.value (.int .i64 n)) w := by
  unfold ex execOp
  simp only [resolve, invoke, builtin, List.map_toArray, List.map_cons, List.map_nil, hx]
  simp [Builtin.len_, run_underlying ht, goInt]
theorem ex_len_str {t : TypeId} {x : Operand} {s : ByteArray} (hx : ρ x = .string s) (ht : P.underlying t = some .string) :
    ex P ρ (.call { callee := .builtin .len, args := #[x], argTypes := #[t] }) ty w = .ok (.value (.int .i64 s.size)) w := by
  unfold ex execOp
  simp only [resolve, invoke, builtin, List.map_toArray, List.map_cons, List.map_nil, hx]
  simp [Builtin.len_, run_underlying ht, goInt]
theorem ex_cap {t e : TypeId} {x : Operand} {a : Option Addr} {n c : Nat} (hx : ρ x = .slice a n c) (ht : P.underlying t = some (.slice e)) :
    ex P ρ (.call { callee := .builtin .cap, args := #[x], argTypes := #[t] }) ty w = .ok (.value (.int .i64 c)) w := by
  unfold ex execOp
  simp only [resolve, invoke, builtin, List.map_toArray, List.map_cons, List.map_nil, hx]
  simp [Builtin.cap_, run_underlying ht, goInt]
theorem ex_append (base : Nat) {t e : TypeId} {i : TypeInfo} {z : Value} {size bytes : Nat} (ht : P.underlying t = some (.slice e)) (hi : P.info? e = some i) (hz : i.zero = some z)
    (hsize : i.size = size) (hby : i.bytes = bytes) (hzs : z.cells.size = size) (hsz : 0 < size) {s x : Operand}
    {v : Value} {n : Nat} {xs : List Value} (hs : ρ s = v) (hown : w.ownsRow base e size v n xs)
    {ad : Addr} {m c : Nat} {news : List Value} (hx : ρ x = .slice (some ad) m c) (hl : news.length = m * size) (hnews : ∀ j u, news[j]? = some u → w.cell? (ad.add j) = some u) (h1 : ∀ u ∈ news, u.oneCell' = true)
    (h63 : n + m ≤ maxLen) (hbytes : (n + m) * bytes ≤ 140737488355328) (hbase : base ≤ w.heap.size) :
    ∃ v' w', ex P ρ (.call { callee := .builtin .append, args := #[s, x], argTypes := #[t, t] }) ty w = .ok (.value v') w' ∧ w'.ownsRow base e size v' (n + m) (xs ++ news) ∧ w.grownBy w' v.ownBlock ∧
      (v' = .slice none 0 0 ↔ v = .slice none 0 0 ∧ m = 0) := by
  obtain ⟨v', w', hr, h2, h3, h4⟩ := run_append_own (P := P) w base t ty e i z size bytes ht hi hz hsize hby hzs hsz v n xs hown ad m c news hl hnews h1 h63 hbytes hbase
  refine ⟨v', w', ?_, h2, h3, h4⟩
  unfold ex execOp
  simp only [resolve, invoke, builtin, Sem.run_bind, Sem.run_pure, Result.andThen_ok, List.map_toArray, List.map_cons, List.map_nil, hs, hx, hr]

/-! ### Calls -/
structure Fun (P : Program) (f : FuncId) : Prop where
  fn : ∃ fn, P.funcs[f]? = some fn ∧ fn.name ≠ "runtime.NumGoroutine" ∧ fn.body ≠ none
theorem Fun.of {f : FuncId} {fn : Func} (hf : P.funcs[f]? = some fn) (hn : (fn.name == "runtime.NumGoroutine") = false) (hb : fn.body.isNone = false) : Fun P f :=
  ⟨fn, hf, by simpa using hn, by intro h; rw [h] at hb; cases hb⟩
theorem ex_callV {f : FuncId} {x : Operand} {cap : Array Value} {args : Array Operand} {tys : Array TypeId} {vs : Array Value} (hx : ρ x = .func (.func f) #[] cap) (hargs : args.map ρ ++ cap = vs) (hf : Fun P f) :
    ex P ρ (.call { callee := .value x, args := args, argTypes := tys }) ty w = .ok (.enter f vs) w := by
  subst hargs
  obtain ⟨fn, hf, hn', hb'⟩ := hf
  unfold ex execOp
  simp [resolve, Deferred.ofValue, hx, invoke, callFunc, hf, hn', hb']
theorem ex_call0 {f : FuncId} {x : Operand} {tys : Array TypeId} (hx : ρ x = .func (.func f) #[] #[]) (hf : Fun P f) :
    ex P ρ (.call { callee := .value x, args := #[], argTypes := tys }) ty w = .ok (.enter f #[]) w := ex_callV hx (by simp) hf
theorem ex_call1 {f : FuncId} {x : Operand} {tys : Array TypeId} {x0 : Operand} {v0 : Value} (hx : ρ x = .func (.func f) #[] #[]) (h0 : ρ x0 = v0) (hf : Fun P f) :
    ex P ρ (.call { callee := .value x, args := #[x0], argTypes := tys }) ty w = .ok (.enter f #[v0]) w := ex_callV hx (by simp [h0]) hf
theorem ex_call2 {f : FuncId} {x : Operand} {tys : Array TypeId} {x0 x1 : Operand} {v0 v1 : Value} (hx : ρ x = .func (.func f) #[] #[]) (h0 : ρ x0 = v0) (h1 : ρ x1 = v1) (hf : Fun P f) :
    ex P ρ (.call { callee := .value x, args := #[x0, x1], argTypes := tys }) ty w = .ok (.enter f #[v0, v1]) w := ex_callV hx (by simp [h0, h1]) hf
theorem ex_call3 {f : FuncId} {x : Operand} {tys : Array TypeId} {x0 x1 x2 : Operand} {v0 v1 v2 : Value} (hx : ρ x = .func (.func f) #[] #[]) (h0 : ρ x0 = v0) (h1 : ρ x1 = v1) (h2 : ρ x2 = v2) (hf : Fun P f) :
    ex P ρ (.call { callee := .value x, args := #[x0, x1, x2], argTypes := tys }) ty w = .ok (.enter f #[v0, v1, v2]) w := ex_callV hx (by simp [h0, h1, h2]) hf
theorem ex_call4 {f : FuncId} {x : Operand} {tys : Array TypeId} {x0 x1 x2 x3 : Operand} {v0 v1 v2 v3 : Value} (hx : ρ x = .func (.func f) #[] #[]) (h0 : ρ x0 = v0) (h1 : ρ x1 = v1) (h2 : ρ x2 = v2) (h3 : ρ x3 = v3) (hf : Fun P f) :
    ex P ρ (.call { callee := .value x, args := #[x0, x1, x2, x3], argTypes := tys }) ty w = .ok (.enter f #[v0, v1, v2, v3]) w := ex_callV hx (by simp [h0, h1, h2, h3]) hf
theorem ex_call5 {f : FuncId} {x : Operand} {tys : Array TypeId} {x0 x1 x2 x3 x4 : Operand} {v0 v1 v2 v3 v4 : Value} (hx : ρ x = .func (.func f) #[] #[]) (h0 : ρ x0 = v0) (h1 : ρ x1 = v1) (h2 : ρ x2 = v2) (h3 : ρ x3 = v3) (h4 : ρ x4 = v4) (hf : Fun P f) :
    ex P ρ (.call { callee := .value x, args := #[x0, x1, x2, x3, x4], argTypes := tys }) ty w = .ok (.enter f #[v0, v1, v2, v3, v4]) w := ex_callV hx (by simp [h0, h1, h2, h3, h4]) hf
theorem ex_call6 {f : FuncId} {x : Operand} {tys : Array TypeId} {x0 x1 x2 x3 x4 x5 : Operand} {v0 v1 v2 v3 v4 v5 : Value} (hx : ρ x = .func (.func f) #[] #[]) (h0 : ρ x0 = v0) (h1 : ρ x1 = v1) (h2 : ρ x2 = v2) (h3 : ρ x3 = v3) (h4 : ρ x4 = v4) (h5 : ρ x5 = v5) (hf : Fun P f) :
    ex P ρ (.call { callee := .value x, args := #[x0, x1, x2, x3, x4, x5], argTypes := tys }) ty w = .ok (.enter f #[v0, v1, v2, v3, v4, v5]) w := ex_callV hx (by simp [h0, h1, h2, h3, h4, h5]) hf
theorem ex_callc0_1 {f : FuncId} {x : Operand} {tys : Array TypeId} {c0 : Value} (hx : ρ x = .func (.func f) #[] #[c0]) (hf : Fun P f) :
    ex P ρ (.call { callee := .value x, args := #[], argTypes := tys }) ty w = .ok (.enter f #[c0]) w := ex_callV hx (by simp) hf
theorem ex_callc0_2 {f : FuncId} {x : Operand} {tys : Array TypeId} {c0 c1 : Value} (hx : ρ x = .func (.func f) #[] #[c0, c1]) (hf : Fun P f) :
    ex P ρ (.call { callee := .value x, args := #[], argTypes := tys }) ty w = .ok (.enter f #[c0, c1]) w := ex_callV hx (by simp) hf
theorem ex_callc0_3 {f : FuncId} {x : Operand} {tys : Array TypeId} {c0 c1 c2 : Value} (hx : ρ x = .func (.func f) #[] #[c0, c1, c2]) (hf : Fun P f) :
    ex P ρ (.call { callee := .value x, args := #[], argTypes := tys }) ty w = .ok (.enter f #[c0, c1, c2]) w := ex_callV hx (by simp) hf
theorem ex_callc1_1 {f : FuncId} {x : Operand} {tys : Array TypeId} {x0 : Operand} {v0 : Value} {c0 : Value} (hx : ρ x = .func (.func f) #[] #[c0]) (h0 : ρ x0 = v0) (hf : Fun P f) :
    ex P ρ (.call { callee := .value x, args := #[x0], argTypes := tys }) ty w = .ok (.enter f #[v0, c0]) w := ex_callV hx (by simp [h0]) hf
theorem ex_callc1_2 {f : FuncId} {x : Operand} {tys : Array TypeId} {x0 : Operand} {v0 : Value} {c0 c1 : Value} (hx : ρ x = .func (.func f) #[] #[c0, c1]) (h0 : ρ x0 = v0) (hf : Fun P f) :
    ex P ρ (.call { callee := .value x, args := #[x0], argTypes := tys }) ty w = .ok (.enter f #[v0, c0, c1]) w := ex_callV hx (by simp [h0]) hf
theorem ex_callc1_3 {f : FuncId} {x : Operand} {tys : Array TypeId} {x0 : Operand} {v0 : Value} {c0 c1 c2 : Value} (hx : ρ x = .func (.func f) #[] #[c0, c1, c2]) (h0 : ρ x0 = v0) (hf : Fun P f) :
    ex P ρ (.call { callee := .value x, args := #[x0], argTypes := tys }) ty w = .ok (.enter f #[v0, c0, c1, c2]) w := ex_callV hx (by simp [h0]) hf
theorem ex_callc2_1 {f : FuncId} {x : Operand} {tys : Array TypeId} {x0 x1 : Operand} {v0 v1 : Value} {c0 : Value} (hx : ρ x = .func (.func f) #[] #[c0]) (h0 : ρ x0 = v0) (h1 : ρ x1 = v1) (hf : Fun P f) :
    ex P ρ (.call { callee := .value x, args := #[x0, x1], argTypes := tys }) ty w = .ok (.enter f #[v0, v1, c0]) w := ex_callV hx (by simp [h0, h1]) hf
theorem ex_callc2_2 {f : FuncId} {x : Operand} {tys : Array TypeId} {x0 x1 : Operand} {v0 v1 : Value} {c0 c1 : Value} (hx : ρ x = .func (.func f) #[] #[c0, c1]) (h0 : ρ x0 = v0) (h1 : ρ x1 = v1) (hf : Fun P f) :
    ex P ρ (.call { callee := .value x, args := #[x0, x1], argTypes := tys }) ty w = .ok (.enter f #[v0, v1, c0, c1]) w := ex_callV hx (by simp [h0, h1]) hf
theorem ex_callc2_3 {f : FuncId} {x : Operand} {tys : Array TypeId} {x0 x1 : Operand} {v0 v1 : Value} {c0 c1 c2 : Value} (hx : ρ x = .func (.func f) #[] #[c0, c1, c2]) (h0 : ρ x0 = v0) (h1 : ρ x1 = v1) (hf : Fun P f) :
    ex P ρ (.call { callee := .value x, args := #[x0, x1], argTypes := tys }) ty w = .ok (.enter f #[v0, v1, c0, c1, c2]) w := ex_callV hx (by simp [h0, h1]) hf
theorem ex_callc3_1 {f : FuncId} {x : Operand} {tys : Array TypeId} {x0 x1 x2 : Operand} {v0 v1 v2 : Value} {c0 : Value} (hx : ρ x = .func (.func f) #[] #[c0]) (h0 : ρ x0 = v0) (h1 : ρ x1 = v1) (h2 : ρ x2 = v2) (hf : Fun P f) :
    ex P ρ (.call { callee := .value x, args := #[x0, x1, x2], argTypes := tys }) ty w = .ok (.enter f #[v0, v1, v2, c0]) w := ex_callV hx (by simp [h0, h1, h2]) hf
theorem ex_callc3_2 {f : FuncId} {x : Operand} {tys : Array TypeId} {x0 x1 x2 : Operand} {v0 v1 v2 : Value} {c0 c1 : Value} (hx : ρ x = .func (.func f) #[] #[c0, c1]) (h0 : ρ x0 = v0) (h1 : ρ x1 = v1) (h2 : ρ x2 = v2) (hf : Fun P f) :
    ex P ρ (.call { callee := .value x, args := #[x0, x1, x2], argTypes := tys }) ty w = .ok (.enter f #[v0, v1, v2, c0, c1]) w := ex_callV hx (by simp [h0, h1, h2]) hf
theorem ex_callc3_3 {f : FuncId} {x : Operand} {tys : Array TypeId} {x0 x1 x2 : Operand} {v0 v1 v2 : Value} {c0 c1 c2 : Value} (hx : ρ x = .func (.func f) #[] #[c0, c1, c2]) (h0 : ρ x0 = v0) (h1 : ρ x1 = v1) (h2 : ρ x2 = v2) (hf : Fun P f) :
    ex P ρ (.call { callee := .value x, args := #[x0, x1, x2], argTypes := tys }) ty w = .ok (.enter f #[v0, v1, v2, c0, c1, c2]) w := ex_callV hx (by simp [h0, h1, h2]) hf
theorem ex_mf1 {fn : FuncId} {x0 : Operand} {v0 : Value} (h0 : ρ x0 = v0) : ex P ρ (.makeFunc (.func fn) #[] #[x0]) ty w = .ok (.value (.func (.func fn) #[] #[v0])) w := ex_makeFunc (by simp [h0])
theorem ex_mf2 {fn : FuncId} {x0 x1 : Operand} {v0 v1 : Value} (h0 : ρ x0 = v0) (h1 : ρ x1 = v1) : ex P ρ (.makeFunc (.func fn) #[] #[x0, x1]) ty w = .ok (.value (.func (.func fn) #[] #[v0, v1])) w := ex_makeFunc (by simp [h0, h1])
theorem ex_mf3 {fn : FuncId} {x0 x1 x2 : Operand} {v0 v1 v2 : Value} (h0 : ρ x0 = v0) (h1 : ρ x1 = v1) (h2 : ρ x2 = v2) : ex P ρ (.makeFunc (.func fn) #[] #[x0, x1, x2]) ty w = .ok (.value (.func (.func fn) #[] #[v0, v1, v2])) w := ex_makeFunc (by simp [h0, h1, h2])
theorem ex_mf4 {fn : FuncId} {x0 x1 x2 x3 : Operand} {v0 v1 v2 v3 : Value} (h0 : ρ x0 = v0) (h1 : ρ x1 = v1) (h2 : ρ x2 = v2) (h3 : ρ x3 = v3) : ex P ρ (.makeFunc (.func fn) #[] #[x0, x1, x2, x3]) ty w = .ok (.value (.func (.func fn) #[] #[v0, v1, v2, v3])) w := ex_makeFunc (by simp [h0, h1, h2, h3])

/-! ### Structs and slices that are laid -/
theorem mapM_run {α : Type} {f : Field → Sem α} {g : Field → Option α} (hf : ∀ x y, g x = some y → ∀ w, (f x).run P w = .ok y w) : ∀ (l : List Field) (r : List α), l.mapM g = some r → (l.mapM f).run P w = .ok r w
  | [], r, h => by
    simp only [List.mapM_nil] at h ⊢
    cases h
    rfl
  | x :: l, r, h => by
    simp only [List.mapM_cons] at h ⊢
    cases hx : g x with
    | none => rw [hx] at h; cases h
    | some y =>
      rw [hx] at h
      cases hl : l.mapM g with
      | none => rw [hl] at h; cases h
      | some ys =>
        rw [hl] at h
        cases h
        rw [Sem.run_bind, hf x y hx w, Result.andThen_ok, Sem.run_bind, mapM_run hf l ys hl, Result.andThen_ok]
        rfl
theorem ex_build {t : TypeId} {parts : Array (Nat × Operand)} {z : Value} {pl : List (Nat × Nat)} {cells : Array Value} (hz : zeroOf P t = some z) (hp : places P t = some pl)
    (hfill : Instr.fill (fun i => pl[i]?) z.cells (parts.toList.map fun p => (p.1, ρ p.2)) = some cells) : ex P ρ (.build t parts) ty w = .ok (.value (.agg cells)) w := by
  unfold places at hp
  cases hu : P.underlying t with
  | none => rw [hu] at hp; cases hp
  | some d =>
    rw [hu] at hp
    cases d <;> try cases hp
    rename_i fields
    simp only at hp
    have hm : (fields.mapM fun f => (Prod.mk f.offset <$> sizeOf f.type : Sem (Nat × Nat))).run P w = .ok pl.toArray w := by
      have h1 := mapM_run (P := P) (w := w) (f := fun f => (Prod.mk f.offset <$> sizeOf f.type : Sem (Nat × Nat))) (g := fun f => (sizeN P f.type).map fun n => (f.offset, n)) (fun x y hy w' => by
        cases hs : sizeN P x.type with
        | none => rw [hs] at hy; cases hy
        | some n =>
          rw [hs] at hy
          cases hy
          simp [run_sizeOf hs]) fields.toList pl hp
      have h2 : (fields.mapM fun f => (Prod.mk f.offset <$> sizeOf f.type : Sem (Nat × Nat))) = List.toArray <$> fields.toList.mapM fun f => (Prod.mk f.offset <$> sizeOf f.type : Sem (Nat × Nat)) := by
        rw [← List.mapM_toArray, Array.toArray_toList]
      rw [h2]
      simp [h1]
    unfold ex execOp
    simp [Instr.build, run_zeroValue hz, run_underlying hu, hm, hfill]
end
end Go.Eng
