/- Interfaces, min and max, cuts with two and three bounds, results in cells. -/
import Derived.Test.YbulknocFmtRange
namespace Go.Eng
open Go Go.RowKit
set_option linter.unusedVariables false
set_option linter.unusedSimpArgs false
section
variable {P : Program} {ρ : Operand → Value} {ty : TypeId} {w : World}
/-- No interface type. -/
def plainT (P : Program) (t : TypeId) : Bool := match P.underlying t with | some (.interface _) => false | some _ => true | none => false
theorem ex_typeAssert {x : Operand} {t xt : TypeId} {v : Value} (hx : ρ x = .iface t v) (ht : plainT P t = true) : ex P ρ (.typeAssert x xt t false) ty w = .ok (.value v) w := by
  unfold plainT at ht
  cases hu : P.underlying t with
  | none => rw [hu] at ht; cases ht
  | some d =>
    rw [hu] at ht
    unfold ex execOp
    simp only [hx]
    cases d <;> first | (simp at ht; done) | simp [Instr.typeAssert, run_underlying hu]
theorem ex_makeInterface {x : Operand} {t : TypeId} {v : Value} (hx : ρ x = v) (ht : plainT P t = true) : ex P ρ (.makeInterface t x) ty w = .ok (.value (.iface t v)) w := by
  unfold plainT at ht
  cases hu : P.underlying t with
  | none => rw [hu] at ht; cases ht
  | some d =>
    rw [hu] at ht
    unfold ex execOp
    simp only [hx]
    cases d <;> first | (simp at ht; done) | simp [Instr.makeInterface, run_underlying hu]
theorem ex_neg {t : TypeId} {x : Operand} {k : IntKind} {n c : Int} (hx : ρ x = .int k n) (hc : k.wrap (0 - n) = c) : ex P ρ (.unOp .neg t x) ty w = .ok (.value (.int k c)) w := by
  subst hc
  unfold ex execOp
  simp only [hx]
  simp [Op.unary, Op.intArith]
theorem ex_max {x y : Operand} {k : IntKind} {a b : Int} {tys : Array TypeId} (hx : ρ x = .int k a) (hy : ρ y = .int k b) : ex P ρ (.call { callee := .builtin .max, args := #[x, y], argTypes := tys }) ty w = .ok (.value (.int k (max a b))) w := by
  unfold ex execOp
  simp only [resolve, invoke, builtin, List.map_toArray, List.map_cons, List.map_nil, hx, hy]
  have e : (if b > a then b else a) = max a b := by split <;> omega
  simp only [Sem.run_bind, run_max_int2, e, Result.andThen_ok, Sem.run_pure]
theorem ex_min {x y : Operand} {k : IntKind} {a b : Int} {tys : Array TypeId} (hx : ρ x = .int k a) (hy : ρ y = .int k b) : ex P ρ (.call { callee := .builtin .min, args := #[x, y], argTypes := tys }) ty w = .ok (.value (.int k (min a b))) w := by
  unfold ex execOp
  simp only [resolve, invoke, builtin, List.map_toArray, List.map_cons, List.map_nil, hx, hy]
  have e : (if b < a then b else a) = min a b := by split <;> omega
  simp only [Sem.run_bind, run_min_int2, e, Result.andThen_ok, Sem.run_pure]
end
section
variable {P : Program} {N : Nat} {Q : Post} {F : Nat → Value} {w : World} {l : List Oper} {S : World → Prop} {E : List Nat} {fuel : Nat} {listed : Array Bool} {op : Op} {ty : TypeId} {pos : String} {after : Array Edge}
theorem AS.call {i : Nat} {d : Nat} {f : FuncId} {args : Array Value} {w' : World} {R : Value → World → Prop} (hi : l[i]? = some ⟨some d, op, ty, pos, after, none⟩) (hm : (Region.ready .any l.toArray listed).contains i = true) (hd : Nat.blt d N = true)
    (hx : ex P (ev F) op ty w = .ok (.enter f args) w') (hc : Calls P f args w' fun e w'' => ∃ v, e = .returned v ∧ R v w'')
    (h : ∀ v w'', R v w'' → (E.contains i = false → S w'') ∧ AE P N l.toArray S E Q fuel (listed.setIfInBounds i true) (upd F d v) w'') : AS P N l.toArray S E Q fuel listed i F w := by
  refine ⟨fun hdc ds a ha => ?_⟩
  have hi' : l.toArray[i]? = some ⟨some d, op, ty, pos, after, none⟩ := by simpa using hi
  obtain ⟨_, o, ho, hall⟩ := mem_ready.1 (show i ∈ Region.ready .any l.toArray listed by simpa using hm)
  rw [hi'] at ho
  cases ho
  refine wpOp_step hi' fun K' hK => ?_
  rw [if_pos (by simp [Region.wanted])]
  have hr' : (execOp a.eval ⟨some d, op, ty, pos, after, none⟩).run P w = .ok (.enter f args) w' := by rw [ha.eval]; exact hx
  unfold Oper.wp
  rw [hr', Oper.upon_enter]
  refine hc.mono ?_
  rintro e w'' ⟨v, rfl, hR⟩
  exact hK _ _ ⟨(h v w'' hR).1, (h v w'' hR).2.out (dc_set hdc hi' hall) _ _ (ha.put (by simpa using hd) v)⟩
end
theorem run_loadVar_one {P : Program} {w : World} {ty b : Nat} {v : Value} {T : TypeId} {fz : Nat × Nat} (hs : scal P ty = true) (hb : w.heap[b]? = some (.cells #[v] T fz)) : (loadVar ty ⟨b, 0, none⟩).run P w = .ok v w := by
  have hc : w.cell? ⟨b, 0, none⟩ = some v := cellOf hb rfl
  simp [loadVar, run_isAgg_scal hs, hc]
theorem results_cells2 {P : Program} {N : Nat} {fn : Func} {F : Nat → Value} {w : World} {t u ty uy b c : Nat} {v v' : Value} {T T' : TypeId} {fz fz' : Nat × Nat} (hres : fn.results = #[.cell t ty, .cell u uy]) (ht : F t = .pointer (some ⟨b, 0, none⟩)) (hu : F u = .pointer (some ⟨c, 0, none⟩))
    (hs : scal P ty = true) (hs' : scal P uy = true) (hb : w.heap[b]? = some (.cells #[v] T fz)) (hc : w.heap[c]? = some (.cells #[v'] T' fz')) : ∀ ds a, Rep N ds a F → (results fn a.tmps).run P w = .ok (.tuple #[v, v']) w := by
  intro ds a ha
  have h1 := ha.get t
  have h2 := ha.get u
  rw [ht] at h1
  rw [hu] at h2
  simp only [Array.getD_eq_getD_getElem?] at h1 h2
  simp [results, hres, h1, h2, asAddr, run_loadVar_one hs hb, run_loadVar_one hs' hc]
end Go.Eng
