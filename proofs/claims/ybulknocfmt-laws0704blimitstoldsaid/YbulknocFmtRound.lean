/- Ranges over functions: the walk of code that may stand in a round, of yield, of the loop. -/
import Derived.Test.YbulknocFmtMaps
import Derived.RangeFuncNested
import Derived.RangeFuncLeaves
import Derived.OrdersIn
import Derived.Sort.LoopGhostIn
namespace Go.Eng
open Go Go.RowKit
set_option linter.unusedVariables false
set_option linter.unusedSimpArgs false

def fe (ro : Option Nat) : Fence := { Fence.wide with round := ro }
abbrev PostD := Exit → List Deferred → (Nat → Value) → World → Prop
def liftD (N : Nat) (Q : PostD) : Exit → Act → World → Prop := fun e a w => ∃ ds F, Rep N ds a F ∧ Q e ds F w
structure WD (ro : Option Nat) (P : Program) (N : Nat) (c : Code) (Q : PostD) (ds : List Deferred) (F : Nat → Value) (w : World) : Prop where
  out : ∀ a, Rep N ds a F → Code.wpIn (fe ro) 0 P c (liftD N Q) a w
structure RD (ro : Option Nat) (P : Program) (N : Nat) (ops : Array Oper) (rest : List Oper) (Q : PostD) (ds : List Deferred) (F : Nat → Value) (w : World) : Prop where
  out : ∀ a, Rep N ds a F → wpListIn (fe ro) 0 P ops (liftD N Q) rest a w

theorem calls_in {ro : Option Nat} {n : Nat} {P : Program} {f : FuncId} {args : Array Value} {w : World} {R : Ending → World → Prop} (h : Calls P f args w R) : CallsIn (fe ro) n P f args w R :=
  (callsIn_wide (n := n)).2 h
theorem calls_out {n : Nat} {P : Program} {f : FuncId} {args : Array Value} {w : World} {R : Ending → World → Prop} (h : CallsIn (fe none) n P f args w R) : Calls P f args w R :=
  (callsIn_wide (n := n)).1 h

/-! ### Code -/
section
variable {ro : Option Nat} {P : Program} {N : Nat} {Q : PostD} {ds : List Deferred} {F : Nat → Value} {w : World}

def thenD (K : List Deferred → (Nat → Value) → World → Prop) (Q : PostD) : PostD
  | .normal, ds, F, w => K ds F w
  | e, ds, F, w => Q e ds F w
def blockD (id : Nat) (Q : PostD) : PostD
  | .exit id', ds, F, w => if id' = id then Q .normal ds F w else Q (.exit id') ds F w
  | e, ds, F, w => Q e ds F w

theorem WD.mono {c : Code} {Q' : PostD} (h : WD ro P N c Q ds F w) (hq : ∀ e ds F w, Q e ds F w → Q' e ds F w) : WD ro P N c Q' ds F w :=
  ⟨fun a ha => wpIn_mono (h.out a ha) (fun e _ w ⟨ds', F', hr, hQ⟩ => ⟨ds', F', hr, hq e ds' F' w hQ⟩)⟩
theorem WD.seq {x y : Code} (h : WD ro P N x (thenD (WD ro P N y Q) Q) ds F w) : WD ro P N (.seq x y) Q ds F w := by
  refine ⟨fun a ha => wpIn_seq (wpIn_mono (h.out a ha) ?_)⟩
  rintro e a' w' ⟨ds', F', hr, hq⟩
  cases e with
  | normal => exact hq.out a' hr
  | exit id => exact ⟨ds', F', hr, hq⟩
  | goto l => exact ⟨ds', F', hr, hq⟩
  | ret => exact ⟨ds', F', hr, hq⟩
  | panic ch => exact ⟨ds', F', hr, hq⟩
  | outgrown => exact ⟨ds', F', hr, hq⟩
theorem WD.seqc {x y : Code} (R : List Deferred → (Nat → Value) → World → Prop) (h : WD ro P N x (thenD R Q) ds F w) (h' : ∀ ds F w, R ds F w → WD ro P N y Q ds F w) : WD ro P N (.seq x y) Q ds F w :=
  WD.seq (h.mono fun e ds F w hq => by
    cases e with
    | normal => exact h' ds F w hq
    | exit id => exact hq
    | goto l => exact hq
    | ret => exact hq
    | panic ch => exact hq
    | outgrown => exact hq)
theorem WD.block {id : Nat} {c : Code} (h : WD ro P N c (blockD id Q) ds F w) : WD ro P N (.block id c) Q ds F w := by
  refine ⟨fun a ha => wpIn_block (wpIn_mono (h.out a ha) ?_)⟩
  rintro e a' w' ⟨ds', F', hr, hq⟩
  cases e with
  | normal => exact ⟨ds', F', hr, hq⟩
  | exit id' =>
    show (if id' = id then liftD N Q .normal a' w' else liftD N Q (.exit id') a' w')
    simp only [blockD] at hq
    split
    · rename_i h; rw [if_pos h] at hq; exact ⟨ds', F', hr, hq⟩
    · rename_i h; rw [if_neg h] at hq; exact ⟨ds', F', hr, hq⟩
  | goto l => exact ⟨ds', F', hr, hq⟩
  | ret => exact ⟨ds', F', hr, hq⟩
  | panic ch => exact ⟨ds', F', hr, hq⟩
  | outgrown => exact ⟨ds', F', hr, hq⟩
theorem blockD_hit {id : Nat} (h : Q .normal ds F w) : blockD id Q (.exit id) ds F w := by simp only [blockD, if_true]; exact h
theorem blockD_miss {id id' : Nat} (hne : Nat.beq id' id = false) (h : Q (.exit id') ds F w) : blockD id Q (.exit id') ds F w := by
  have : ¬ id' = id := fun e => by subst e; rw [Nat.beq_refl] at hne; cases hne
  simp only [blockD, if_neg this]; exact h
theorem thenD_exit {K : List Deferred → (Nat → Value) → World → Prop} {id : Nat} (h : Q (.exit id) ds F w) : thenD K Q (.exit id) ds F w := h
theorem thenD_ret {K : List Deferred → (Nat → Value) → World → Prop} (h : Q .ret ds F w) : thenD K Q .ret ds F w := h
theorem blockD_ret {id : Nat} (h : Q .ret ds F w) : blockD id Q .ret ds F w := h
theorem WD.skip (h : Q .normal ds F w) : WD ro P N .skip Q ds F w := ⟨fun _ ha => wpIn_skip ⟨ds, F, ha, h⟩⟩
theorem WD.exit {id : Nat} (h : Q (.exit id) ds F w) : WD ro P N (.exit id) Q ds F w := ⟨fun _ ha => wpIn_exit ⟨ds, F, ha, h⟩⟩
theorem WD.ret (h : Q .ret ds F w) : WD ro P N .ret Q ds F w := ⟨fun _ ha => wpIn_ret ⟨ds, F, ha, h⟩⟩
theorem WD.cond {c : Operand} {x y : Code} (b : Bool) (hc : ev F c = .bool b) (ht : b = true → WD ro P N x Q ds F w) (hf : b = false → WD ro P N y Q ds F w) : WD ro P N (.cond c x y) Q ds F w :=
  ⟨fun a ha => wpIn_cond_split (by rw [ha.eval]; exact hc) (fun h => (ht h).out a ha) (fun h => (hf h).out a ha)⟩
theorem WD.cond_true {c : Operand} {x y : Code} (hc : ev F c = .bool true) (ht : WD ro P N x Q ds F w) : WD ro P N (.cond c x y) Q ds F w :=
  WD.cond true hc (fun _ => ht) (fun h => by cases h)
theorem WD.cond_false {c : Operand} {x y : Code} (hc : ev F c = .bool false) (hf : WD ro P N y Q ds F w) : WD ro P N (.cond c x y) Q ds F w :=
  WD.cond false hc (fun h => by cases h) (fun _ => hf)
theorem WD.loop {c : Code} (I : Nat → List Deferred → (Nat → Value) → World → Prop) (n₀ : Nat) (h₀ : I n₀ ds F w)
    (round : ∀ n ds F w, I n ds F w → WD ro P N c (thenD (fun ds' F' w' => ∃ n', n' < n ∧ I n' ds' F' w') Q) ds F w) : WD ro P N (.loop c) Q ds F w := by
  refine ⟨fun a ha => wpIn_loop_ghost (fun n a w => ∃ ds F, Rep N ds a F ∧ I n ds F w) n₀ ⟨ds, F, ha, h₀⟩ ?_⟩
  rintro n a w ⟨ds', F', hr, hI⟩
  refine wpIn_mono ((round n ds' F' w hI).out a hr) ?_
  rintro e a' w' ⟨ds'', F'', hr', hq⟩
  cases e with
  | normal => obtain ⟨n', hlt, hI'⟩ := hq; exact ⟨n', hlt, ds'', F'', hr', hI'⟩
  | exit id => exact ⟨ds'', F'', hr', hq⟩
  | goto l => exact ⟨ds'', F'', hr', hq⟩
  | ret => exact ⟨ds'', F'', hr', hq⟩
  | panic ch => exact ⟨ds'', F'', hr', hq⟩
  | outgrown => exact ⟨ds'', F'', hr', hq⟩
theorem WD.loopk {c : Code} (I : Nat → List Deferred → (Nat → Value) → World → Prop) (n₀ : Nat) (h₀ : I n₀ ds F w)
    (round : ∀ n ds F w, I n ds F w → ∀ K : List Deferred → (Nat → Value) → World → Prop, (∀ n' ds' F' w', n' < n → I n' ds' F' w' → K ds' F' w') → WD ro P N c (thenD K Q) ds F w) : WD ro P N (.loop c) Q ds F w :=
  WD.loop I n₀ h₀ fun n ds F w hI => round n ds F w hI _ fun n' _ _ _ h1 h2 => ⟨n', h1, h2⟩

/-! ### Regions: the plain walk serves -/
def normQ (K : (Nat → Value) → World → Prop) : Post
  | .normal, F, w => K F w
  | _, _, _ => False
def noDefer (l : List Oper) : Bool := l.all fun o => match o.op with | .defer _ => false | _ => true
theorem noDefer_spec {l : List Oper} (h : noDefer l = true) : ∀ o ∈ l, ∀ c, o.op ≠ .defer c := by
  intro o ho c hc
  have := List.all_eq_true.1 h o ho
  rw [hc] at this
  cases this

theorem upon_in {o : Oper} {a : Act} {next : Act → World → Prop} {Q : Exit → Act → World → Prop} {r : Result Next} (h : o.upon P a next Q r) : o.uponIn (fe ro) 0 P a next Q r := by
  cases r with
  | ok x w' =>
    cases x with
    | value v => exact h
    | skip => exact h
    | defer d => exact h
    | enter f args => exact ⟨fun h => (by cases h), calls_in h⟩
    | row row args => exact ⟨fun h => (by cases h), fun c cs _ => let ⟨v, w', h1, h2⟩ := h c cs; ⟨v, w', h1, stepsIn_wide.2 h2⟩⟩
    | _ => exact (h : False).elim
  | halt hh w' =>
    cases hh with
    | panic v => exact h
    | _ => exact (h : False).elim
theorem wp_in {o : Oper} {a : Act} {next next' : Act → World → Prop} {Q : Exit → Act → World → Prop} (hd : ∀ c, o.op ≠ .defer c) (hn : ∀ a w, next a w → next' a w) (h : o.wp P a w next Q) : o.wpIn (fe ro) 0 P a w next' Q := by
  refine Oper.wpIn_mono hn ⟨fun _ _ => trivial, ?_⟩
  rw [Oper.semAt_eq _ _ _ hd]
  exact upon_in h
theorem wpList_in {ops : Array Oper} {Q : Exit → Act → World → Prop} (hQ : ¬ LetsOut Q) : ∀ (l : List Oper) (a : Act) (w : World), (∀ o ∈ l, ∀ c, o.op ≠ .defer c) → wpList P ops Q l a w → wpListIn (fe ro) 0 P ops Q l a w
  | [], _, _, _, h => h
  | o :: rest, a, w, hd, h => by
    unfold wpList at h
    unfold wpListIn
    split at h
    · rename_i hw
      rw [if_pos hw]
      rcases h with h | ⟨_, h⟩
      · exact wp_in (hd o List.mem_cons_self) (fun a w hh => wpList_in hQ rest a w (fun o ho => hd o (List.mem_cons_of_mem _ ho)) hh) h
      · exact absurd h hQ
    · rename_i hw
      rw [if_neg hw]
      exact ⟨fun _ _ => trivial, wpList_in hQ rest _ w (fun o ho => hd o (List.mem_cons_of_mem _ ho)) h⟩
theorem wpAny_in {ops : Array Oper} {Q : Exit → Act → World → Prop} (hQ : ¬ LetsOut Q) (hd : ∀ (i : Nat) (o : Oper), ops[i]? = some o → ∀ c, o.op ≠ .defer c) : ∀ (fuel : Nat) (listed : Array Bool) (a : Act) (w : World), wpAny P .any ops Q fuel listed a w → wpAnyIn (fe ro) 0 P .any ops Q fuel listed a w
  | 0, _, _, _, h => h
  | fuel + 1, listed, a, w, h => ⟨h.1, fun i hi => by
    have h1 := h.2 i hi
    unfold wpOp at h1
    unfold wpOpIn
    cases ho : ops[i]? with
    | none => rw [ho] at h1; exact wpAny_in hQ hd fuel _ a w h1
    | some o =>
      rw [ho] at h1
      simp only at h1 ⊢
      split at h1
      · rename_i hw
        rw [if_pos hw]
        rcases h1 with h1 | ⟨_, h1⟩
        · exact wp_in (hd i o ho) (fun a w hh => wpAny_in hQ hd fuel _ a w hh) h1
        · exact absurd h1 hQ
      · rename_i hw
        rw [if_neg hw]
        exact ⟨fun _ _ => trivial, wpAny_in hQ hd fuel _ _ w h1⟩⟩

theorem normQ_out {K : (Nat → Value) → World → Prop} {ds : List Deferred} : ¬ LetsOut (lift N ds (normQ K)) := by rintro ⟨a, w, F, _, h⟩; exact h
theorem normQ_up {K : (Nat → Value) → World → Prop} {ds : List Deferred} (hK : ∀ F w, K F w → Q .normal ds F w) : ∀ e a w, lift N ds (normQ K) e a w → liftD N Q e a w := by
  rintro e a w ⟨F, hr, h⟩
  cases e with
  | normal => exact ⟨ds, F, hr, hK F w h⟩
  | _ => exact (h : False).elim
theorem WD.region {id : Nat} {l : List Oper} (hd : noDefer l = true) (h : RL P N l.toArray l (normQ (fun F w => Q .normal ds F w)) F w) : WD ro P N (.region id l.toArray false) Q ds F w :=
  ⟨fun a ha => wpIn_mono (wpIn_region_lit (wpList_in normQ_out l a w (noDefer_spec hd) (h.out ds a ha))) (normQ_up fun _ _ h => h)⟩
theorem lift'_out {K : (Nat → Value) → World → Prop} {ds : List Deferred} : ¬ LetsOut (lift' N ds (normQ K)) := by rintro ⟨a, w, h⟩; exact h
theorem WD.draw {id : Nat} {l : List Oper} (E : List Nat) (hd : noDefer l = true) (hm : P.follows .mixedOrders = true) (h : AE P N l.toArray (Ext w) E (normQ (fun F w => Q .normal ds F w)) l.length (Array.replicate l.length false) F (w.drewN 1)) :
    WD ro P N (.region id l.toArray true) Q ds F w := by
  refine ⟨fun a ha => wpIn_mono (wpIn_region_any hm (wpAny_in lift'_out ?_ _ _ _ _ (wpAny_of_E _ _ _ _ (S := Ext w) (E := E) ?_))) (fun e a w hh => normQ_up (ds := ds) (fun _ _ h => h) e a w (lift'_imp e a w hh))⟩
  · intro i o ho
    exact noDefer_spec hd o (List.mem_of_getElem? (by simpa using ho))
  · have := h.out (dc0 _ _) ds a ha
    have e : w.drewN 1 = { w with drawn := w.drawn + 1 } := rfl
    rw [e] at this
    simpa using this

/-! ### A region that calls yield -/
theorem WD.regionD {id : Nat} {l : List Oper} (h : RD ro P N l.toArray l Q ds F w) : WD ro P N (.region id l.toArray false) Q ds F w := ⟨fun a ha => wpIn_region_lit (h.out a ha)⟩
theorem RD.nil {ops : Array Oper} (h : Q .normal ds F w) : RD ro P N ops [] Q ds F w := ⟨fun _ ha => wpListIn_nil ⟨ds, F, ha, h⟩⟩
variable {ops : Array Oper} {rest : List Oper} {op : Op} {ty : TypeId} {pos : String} {after : Array Edge}
theorem RD.val {d : Nat} {v : Value} {w' : World} (hd : Nat.blt d N = true) (hr : ex P (ev F) op ty w = .ok (.value v) w') (hop : ∀ c, op ≠ .defer c) (h : RD ro P N ops rest Q ds (upd F d v) w') :
    RD ro P N ops (⟨some d, op, ty, pos, after, none⟩ :: rest) Q ds F w := by
  refine ⟨fun a ha => wpListIn_plain rfl fun K hK => ⟨fun _ _ => trivial, ?_⟩⟩
  have hr' : (execOp a.eval ⟨some d, op, ty, pos, after, none⟩).run P w = .ok (.value v) w' := by rw [ha.eval]; exact hr
  rw [Oper.semAt_eq _ _ _ hop, hr']
  exact hK _ _ (h.out _ (ha.put (by simpa using hd) v))
theorem ex_yield {ρ : Operand → Value} {l : Nat} {x : Operand} {args : Array Operand} {tys : Array TypeId} {vs : Array Value} {r : Next} (hx : ρ x = .func (.yield l) #[] #[]) (hargs : args.map ρ = vs) (hr : (Instr.yield l vs).run P w = .ok r w) :
    ex P ρ (.call { callee := .value x, args := args, argTypes := tys }) ty w = .ok r w := by
  subst hargs
  unfold ex execOp
  simp [resolve, Deferred.ofValue, hx, invoke, hr]
/-- A call of yield: what a round does is told by R. -/
theorem RD.yield {d l : Nat} {x : Operand} {args : Array Operand} {tys : Array TypeId} {vs : Array Value} {R : Bool → World → Prop} (hd : Nat.blt d N = true) (hx : ev F x = .func (.yield l) #[] #[]) (hargs : args.map (ev F) = vs)
    (hy : YieldAt Fence.wide 0 P l vs w fun e w' => ∃ b, e = .returned (.bool b) ∧ R b w') (h : ∀ b w', R b w' → RD ro P N ops rest Q ds (upd F d (.bool b)) w') :
    RD ro P N ops (⟨some d, .call { callee := .value x, args := args, argTypes := tys }, ty, pos, after, none⟩ :: rest) Q ds F w := by
  refine ⟨fun a ha => wpListIn_plain rfl fun K hK => ⟨fun _ _ => trivial, ?_⟩⟩
  obtain ⟨fn, tmps, assign, body, hr, hR⟩ := hy
  have hr' : (execOp a.eval ⟨some d, .call { callee := .value x, args := args, argTypes := tys }, ty, pos, after, none⟩).run P w = .ok (.round l fn tmps assign body) w := by
    rw [ha.eval]; exact ex_yield hx hargs hr
  rw [Oper.semAt_eq _ _ _ (fun c h => by cases h), hr', Oper.uponIn_round]
  refine ⟨fun h => (by cases h), ?_⟩
  have hR' : RoundIn (fe ro) 0 P l fn tmps assign body w fun e w' => ∃ b, e = .returned (.bool b) ∧ R b w' := hR
  refine hR'.mono ?_
  rintro e w' ⟨b, rfl, hb⟩
  exact hK _ _ ((h b w' hb).out _ (ha.put (by simpa using hd) (.bool b)))
theorem RD.yield1 {d l : Nat} {x x0 : Operand} {tys : Array TypeId} {v0 : Value} {R : Bool → World → Prop} (hd : Nat.blt d N = true) (hx : ev F x = .func (.yield l) #[] #[]) (h0 : ev F x0 = v0)
    (hy : YieldAt Fence.wide 0 P l #[v0] w fun e w' => ∃ b, e = .returned (.bool b) ∧ R b w') (h : ∀ b w', R b w' → RD ro P N ops rest Q ds (upd F d (.bool b)) w') :
    RD ro P N ops (⟨some d, .call { callee := .value x, args := #[x0], argTypes := tys }, ty, pos, after, none⟩ :: rest) Q ds F w := RD.yield hd hx (by simp [h0]) hy h
theorem RD.yield2 {d l : Nat} {x x0 x1 : Operand} {tys : Array TypeId} {v0 v1 : Value} {R : Bool → World → Prop} (hd : Nat.blt d N = true) (hx : ev F x = .func (.yield l) #[] #[]) (h0 : ev F x0 = v0) (h1 : ev F x1 = v1)
    (hy : YieldAt Fence.wide 0 P l #[v0, v1] w fun e w' => ∃ b, e = .returned (.bool b) ∧ R b w') (h : ∀ b w', R b w' → RD ro P N ops rest Q ds (upd F d (.bool b)) w') :
    RD ro P N ops (⟨some d, .call { callee := .value x, args := #[x0, x1], argTypes := tys }, ty, pos, after, none⟩ :: rest) Q ds F w := RD.yield hd hx (by simp [h0, h1]) hy h
end
end Go.Eng
