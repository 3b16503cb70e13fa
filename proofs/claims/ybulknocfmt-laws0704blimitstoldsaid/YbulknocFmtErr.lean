/- fmt.Errorf gives an error that is not nil: the stop's own run, whatever its text. -/
import Derived.Test.YbulknocFmtLw
import Derived.Laws.Externs
import GoSem.ClaimTold
import Derived.Stop.FmtLaws
namespace Go.Proofs.YbulknocFmt
open Go Go.Eng Go.RowKit
open Go.Extern.Stop Go.Stop Go.Extern
set_option linter.unusedSimpArgs false
set_option linter.unusedVariables false

theorem Ybaf.call26 (args : Array Value) (w : World) : (callFunc 26 args).run Ybaf.prog w = ((FmtStop.errorf #[9, 83] #[36] args).run Ybaf.prog w).andThen fun v w' => .ok (.value v) w' :=
  run_callFunc_extern Ybaf.func26 (by kernel_rfl) (by kernel_rfl) (by kernel_rfl) (by kernel_rfl) args w
theorem Ybaf.guardE (w : World) : (FmtStop.guard "fmt.errorf").run Ybaf.prog w = .ok () w := by kernel_rfl
theorem Ybaf.prE1 (w : World) : (FmtDoors.printed E1 1).run Ybaf.prog w = .ok [(0, 100, false)] w := by kernel_rfl
theorem Ybaf.prE2 (w : World) : (FmtDoors.printed E2 1).run Ybaf.prog w = .ok [(0, 100, false)] w := by kernel_rfl
theorem Ybaf.op3 (x : Int) (w : World) : ∃ r, (FmtStop.operand "fmt.errorf" true 100 false (.iface 3 (.int .i64 x))).run Ybaf.prog w = .ok r w := ⟨([5, 3, 0, 0, 0, 0, 0, 0, 0, 105, 110, 116], Go.Extern.Stop.digits 8 (x % 2 ^ 64).toNat), by kernel_rfl⟩
theorem Ybaf.ptrE (w : World) : (FmtStop.ptrTo "errors.errorString").run Ybaf.prog w = .ok 94 w := by kernel_rfl
theorem Ybaf.elemE (w : World) : (elemOf 94).run Ybaf.prog w = .ok 96 w := by kernel_rfl

theorem run_cells1 {w : World} {b : Nat} {v : Value} {T : TypeId} {fz : Nat × Nat} (hb : w.heap[b]? = some (.cells #[v] T fz)) : (FmtStop.cells (.slice (some ⟨b, 0, none⟩) 1 1)).run Ybaf.prog w = .ok [v] w := by
  have hc : w.cell? ⟨b, 0, none⟩ = some v := cellOf hb rfl
  unfold FmtStop.cells
  simp [loadCells, loadCellsFrom, Addr.add, hc]
theorem run_errorf {w : World} {b : Nat} {lim : Int} {str : ByteArray} (hstr : str = E1 ∨ str = E2) (hb : w.heap[b]? = some (.cells #[.iface 3 (.int .i64 lim)] 20 (0, 0))) :
    ∃ u w', (FmtStop.errorf #[9, 83] #[36] #[.string str, .slice (some ⟨b, 0, none⟩) 1 1]).run Ybaf.prog w = .ok (.iface 94 u) w' ∧ Fr (fun _ => False) w w' := by
  obtain ⟨r, hr⟩ := Ybaf.op3 lim w
  have hp : (FmtDoors.printed str 1).run Ybaf.prog w = .ok [(0, 100, false)] w := by
    rcases hstr with rfl | rfl
    · exact Ybaf.prE1 w
    · exact Ybaf.prE2 w
  have hra : (FmtStop.readAll "fmt.errorf" true [.iface 3 (.int .i64 lim)] [(0, 100, false)]).run Ybaf.prog w = .ok [r] w := by
    simp [FmtStop.readAll, hr]
  have hne : ¬ ([Value.iface 3 (.int .i64 lim)].isEmpty && !str.data.contains 37) = true := by simp
  rw [FmtStop.errorf_lit]
  simp only [Sem.run_bind, Ybaf.guardE, run_cells1 hb, Result.andThen_ok, List.length_singleton]
  rw [if_neg hne]
  simp only [Sem.run_bind, hp, hra, Result.andThen_ok, FmtStop.text]
  simp [Ybaf.ptrE, Ybaf.elemE, newVar, newRow]
  split
  · exact ⟨_, _, rfl, (Fr.refl w).alloc _⟩
  · exact ⟨_, _, rfl, Fr.alloc (w' := w.drew) (Fr.drew (Fr.refl w) 1) _⟩
theorem ex_errorf {ρ : Operand → Value} {ty : TypeId} {w : World} {x x0 x1 : Operand} {tys : Array TypeId} {str : ByteArray} {v1 : Value} {v : Value} {w' : World} (hx : ρ x = .func (.func 26) #[] #[]) (h0 : ρ x0 = .string str) (h1 : ρ x1 = v1) (hr : (FmtStop.errorf #[9, 83] #[36] #[.string str, v1]).run Ybaf.prog w = .ok v w') :
    ex Ybaf.prog ρ (.call { callee := .value x, args := #[x0, x1], argTypes := tys }) ty w = .ok (.value v) w' := by
  have hc := Ybaf.call26 #[.string str, v1] w
  rw [hr] at hc
  unfold ex execOp
  simp only [Result.andThen_ok] at hc
  simp [resolve, Deferred.ofValue, hx, invoke, h0, h1, hc]
theorem errOk (w : World) : ErrOk w := by
  intro w1 b lim str hstr _ _ _ hb
  obtain ⟨u, w2, hr, hf⟩ := run_errorf hstr hb
  refine calls_of Ybaf.func15 rfl rfl ?_
  refine WP.seq ?_
  refine WP.region ?_
  refine RL.val rfl (ex_assign (by conv => lhs; whnf)) ?_
  refine RL.nil ?_
  refine WP.seq ?_
  refine WP.seq ?_
  refine WP.region ?_
  refine RL.val rfl (ex_move (by conv => lhs; whnf)) ?_
  refine RL.val rfl (ex_move (by conv => lhs; whnf)) ?_
  refine RL.val rfl (ex_errorf rfl (by conv => lhs; whnf) (by conv => lhs; whnf) hr) ?_
  refine RL.val rfl (ex_assign (by conv => lhs; whnf)) ?_
  refine RL.nil ?_
  refine WP.seq ?_
  refine WP.region ?_
  refine RL.val rfl (ex_move (by conv => lhs; whnf)) ?_
  refine RL.val rfl (ex_neq_if_some (by conv => lhs; whnf) rfl Ybaf.if36) ?_
  refine RL.nil ?_
  refine WP.cond_true rfl ?_
  refine WP.seq ?_
  refine WP.region ?_
  refine RL.val rfl (ex_move (by conv => lhs; whnf)) ?_
  refine RL.val rfl (ex_assign (by conv => lhs; whnf)) ?_
  refine RL.nil ?_
  refine WP.ret ?_
  repeat (first | refine thenQ_ret ?_ | refine blockQ_ret ?_)
  exact bodyQ_tmp rfl ⟨⟨94, u, rfl⟩, hf⟩
end Go.Proofs.YbulknocFmt
