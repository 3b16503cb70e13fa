/-
  THE ENGINE: a walk over frames that are FUNCTIONS from slot numbers to values, every judgement behind a structure (so that no unifier unfolds it), one small law an operation.
-/
import Derived.WalkKit
import Derived.WalkSpells
import Derived.WalkLawsBesides
import Derived.OrdersHeld
import Derived.Deep.LoopGhost
namespace Go.Eng
open Go Go.RowKit

/-- A frame as a function. -/
def upd (F : Nat → Value) (d : Nat) (v : Value) : Nat → Value := fun n => cond (Nat.beq n d) v (F n)
theorem upd_eq (F : Nat → Value) (d : Nat) (v : Value) : upd F d v d = v := by simp [upd, Nat.beq_refl]
theorem upd_ne (F : Nat → Value) (d n : Nat) (v : Value) (h : n ≠ d) : upd F d v n = F n := by
  have hb : Nat.beq n d = false := by
    cases hh : Nat.beq n d with
    | false => rfl
    | true => exact absurd (Nat.eq_of_beq_eq_true hh) h
  show cond (Nat.beq n d) v (F n) = F n
  rw [hb]; rfl

def ev (F : Nat → Value) : Operand → Value
  | .tmp t => F t
  | .const v => v
  | .global g => .pointer (some ⟨g, 0, none⟩)
  | .func f => .func (.func f) #[] #[]

structure Rep (N : Nat) (ds : List Deferred) (a : Act) (F : Nat → Value) : Prop where
  dfs : a.defers = ds
  siz : a.tmps.size = N
  get : ∀ n, a.tmps.getD n undef = F n

theorem Rep.eval {N : Nat} {ds : List Deferred} {a : Act} {F : Nat → Value} (h : Rep N ds a F) : a.eval = ev F := by
  funext x
  cases x with
  | tmp t => exact h.get t
  | const v => rfl
  | global g => rfl
  | func f => rfl

theorem Rep.put {N : Nat} {ds : List Deferred} {a : Act} {F : Nat → Value} (h : Rep N ds a F) {d : Nat} (hd : d < N) (v : Value) : Rep N ds (a.put (some d) v) (upd F d v) := by
  refine ⟨h.dfs, by simp [Act.put, h.siz], fun n => ?_⟩
  by_cases hn : n = d
  · subst hn
    rw [upd_eq]
    simp [Act.put, Array.getD, h.siz, hd]
  · rw [upd_ne _ _ _ _ hn, ← h.get n]
    have hn' : d ≠ n := fun e => hn e.symm
    simp only [Act.put, Array.getD_eq_getD_getElem?]
    rw [Array.getElem?_setIfInBounds_ne hn']

theorem Rep.put_none {N : Nat} {ds : List Deferred} {a : Act} {F : Nat → Value} (h : Rep N ds a F) (v : Value) : Rep N ds (a.put none v) F := h

abbrev Post := Exit → (Nat → Value) → World → Prop
def lift (N : Nat) (ds : List Deferred) (Q : Post) : Exit → Act → World → Prop := fun e a w => ∃ F, Rep N ds a F ∧ Q e F w

/-- A PIECE OF CODE. -/
structure WP (P : Program) (N : Nat) (c : Code) (Q : Post) (F : Nat → Value) (w : World) : Prop where
  out : ∀ ds a, Rep N ds a F → Code.wp P c (lift N ds Q) a w

/-- A LIST OF OPERATIONS. -/
structure RL (P : Program) (N : Nat) (ops : Array Oper) (rest : List Oper) (Q : Post) (F : Nat → Value) (w : World) : Prop where
  out : ∀ ds a, Rep N ds a F → wpList P ops (lift N ds Q) rest a w

section
variable {P : Program} {N : Nat} {Q : Post} {F : Nat → Value} {w : World}

def thenQ (K : (Nat → Value) → World → Prop) (Q : Post) : Post
  | .normal, F, w => K F w
  | e, F, w => Q e F w

theorem WP.mono {c : Code} {Q' : Post} (h : WP P N c Q F w) (hq : ∀ e F w, Q e F w → Q' e F w) : WP P N c Q' F w :=
  ⟨fun ds a ha => Code.wp_mono (fun e _ w ⟨F', hr, hQ⟩ => ⟨F', hr, hq e F' w hQ⟩) (h.out ds a ha)⟩

theorem WP.seq {x y : Code} (h : WP P N x (thenQ (WP P N y Q) Q) F w) : WP P N (.seq x y) Q F w := by
  refine ⟨fun ds a ha => wp_seq (Code.wp_mono ?_ (h.out ds a ha))⟩
  rintro e a' w' ⟨F', hr, hq⟩
  cases e with
  | normal => exact hq.out _ a' hr
  | exit id => exact ⟨F', hr, hq⟩
  | goto l => exact ⟨F', hr, hq⟩
  | ret => exact ⟨F', hr, hq⟩
  | panic ch => exact ⟨F', hr, hq⟩
  | outgrown => exact ⟨F', hr, hq⟩

/-- The same, what follows behind a letter. -/
theorem WP.seqk {x y : Code} (h : ∀ K : (Nat → Value) → World → Prop, (∀ F w, WP P N y Q F w → K F w) → WP P N x (thenQ K Q) F w) : WP P N (.seq x y) Q F w :=
  WP.seq (h _ fun _ _ h => h)

def blockQ (id : Nat) (Q : Post) : Post
  | .exit id', F, w => if id' = id then Q .normal F w else Q (.exit id') F w
  | e, F, w => Q e F w

theorem WP.block {id : Nat} {c : Code} (h : WP P N c (blockQ id Q) F w) : WP P N (.block id c) Q F w := by
  refine ⟨fun ds a ha => wp_block (Code.wp_mono ?_ (h.out ds a ha))⟩
  rintro e a' w' ⟨F', hr, hq⟩
  cases e with
  | normal => exact ⟨F', hr, hq⟩
  | exit id' =>
    show (if id' = id then lift N ds Q .normal a' w' else lift N ds Q (.exit id') a' w')
    simp only [blockQ] at hq
    split
    · rename_i h; rw [if_pos h] at hq; exact ⟨F', hr, hq⟩
    · rename_i h; rw [if_neg h] at hq; exact ⟨F', hr, hq⟩
  | goto l => exact ⟨F', hr, hq⟩
  | ret => exact ⟨F', hr, hq⟩
  | panic ch => exact ⟨F', hr, hq⟩
  | outgrown => exact ⟨F', hr, hq⟩

theorem blockQ_hit {id : Nat} (h : Q .normal F w) : blockQ id Q (.exit id) F w := by simp only [blockQ, if_true]; exact h
theorem blockQ_miss {id id' : Nat} (hne : Nat.beq id' id = false) (h : Q (.exit id') F w) : blockQ id Q (.exit id') F w := by
  have : ¬ id' = id := fun e => by subst e; rw [Nat.beq_refl] at hne; cases hne
  simp only [blockQ, if_neg this]; exact h

theorem thenQ_exit {K : (Nat → Value) → World → Prop} {id : Nat} (h : Q (.exit id) F w) : thenQ K Q (.exit id) F w := h
theorem thenQ_ret {K : (Nat → Value) → World → Prop} (h : Q .ret F w) : thenQ K Q .ret F w := h
theorem blockQ_ret {id : Nat} (h : Q .ret F w) : blockQ id Q .ret F w := h
theorem WP.skip (h : Q .normal F w) : WP P N .skip Q F w := ⟨fun _ _ ha => wp_skip ⟨F, ha, h⟩⟩
theorem WP.label {l : Nat} (h : Q .normal F w) : WP P N (.label l) Q F w := ⟨fun _ _ ha => wp_label ⟨F, ha, h⟩⟩
theorem WP.exit {id : Nat} (h : Q (.exit id) F w) : WP P N (.exit id) Q F w := ⟨fun _ _ ha => wp_exit ⟨F, ha, h⟩⟩
theorem WP.ret (h : Q .ret F w) : WP P N .ret Q F w := ⟨fun _ _ ha => wp_ret ⟨F, ha, h⟩⟩

theorem WP.cond {c : Operand} {x y : Code} (b : Bool) (hc : ev F c = .bool b) (ht : b = true → WP P N x Q F w) (hf : b = false → WP P N y Q F w) : WP P N (.cond c x y) Q F w :=
  ⟨fun ds a ha => wp_cond_split (by rw [ha.eval]; exact hc) (fun h => (ht h).out ds a ha) (fun h => (hf h).out ds a ha)⟩
theorem WP.cond_true {c : Operand} {x y : Code} (hc : ev F c = .bool true) (ht : WP P N x Q F w) : WP P N (.cond c x y) Q F w :=
  WP.cond true hc (fun _ => ht) (fun h => by cases h)
theorem WP.cond_false {c : Operand} {x y : Code} (hc : ev F c = .bool false) (hf : WP P N y Q F w) : WP P N (.cond c x y) Q F w :=
  WP.cond false hc (fun h => by cases h) (fun _ => hf)

/-- A LOOP: an invariant that bears a number, which every round lowers. -/
theorem WP.loop {c : Code} (I : Nat → (Nat → Value) → World → Prop) (n₀ : Nat) (h₀ : I n₀ F w)
    (round : ∀ n F w, I n F w → WP P N c (thenQ (fun F' w' => ∃ n', n' < n ∧ I n' F' w') Q) F w) : WP P N (.loop c) Q F w := by
  refine ⟨fun ds a ha => wp_loop_ghost (fun n a w => ∃ F, Rep N ds a F ∧ I n F w) n₀ ⟨F, ha, h₀⟩ ?_⟩
  rintro n a w ⟨F', hr, hI⟩
  refine Code.wp_mono ?_ ((round n F' w hI).out _ a hr)
  rintro e a' w' ⟨F'', hr', hq⟩
  cases e with
  | normal => obtain ⟨n', hlt, hI'⟩ := hq; exact ⟨n', hlt, F'', hr', hI'⟩
  | exit id => exact ⟨F'', hr', hq⟩
  | goto l => exact ⟨F'', hr', hq⟩
  | ret => exact ⟨F'', hr', hq⟩
  | panic ch => exact ⟨F'', hr', hq⟩
  | outgrown => exact ⟨F'', hr', hq⟩

/-- The same, the round's end behind a letter. -/
theorem WP.loopk {c : Code} (I : Nat → (Nat → Value) → World → Prop) (n₀ : Nat) (h₀ : I n₀ F w)
    (round : ∀ n F w, I n F w → ∀ K : (Nat → Value) → World → Prop, (∀ n' F' w', n' < n → I n' F' w' → K F' w') → WP P N c (thenQ K Q) F w) : WP P N (.loop c) Q F w :=
  WP.loop I n₀ h₀ fun n F w hI => round n F w hI _ fun n' _ _ h1 h2 => ⟨n', h1, h2⟩

theorem WP.region {id : Nat} {l : List Oper} (h : RL P N l.toArray l Q F w) : WP P N (.region id l.toArray false) Q F w :=
  ⟨fun ds a ha => wp_region_lit (h.out ds a ha)⟩

/-! ### Operations -/
/-- What an operation does, by its op and type alone. -/
def ex (P : Program) (ρ : Operand → Value) (op : Op) (ty : TypeId) (w : World) : Result Next := (execOp ρ ⟨none, op, ty, "", #[], none⟩).run P w

theorem RL.nil {ops : Array Oper} (h : Q .normal F w) : RL P N ops [] Q F w := ⟨fun _ _ ha => wpList_nil ⟨F, ha, h⟩⟩

variable {ops : Array Oper} {rest : List Oper} {op : Op} {ty : TypeId} {pos : String} {after : Array Edge}

theorem RL.val {d : Nat} {v : Value} {w' : World} (hd : Nat.blt d N = true) (hr : ex P (ev F) op ty w = .ok (.value v) w') (h : RL P N ops rest Q (upd F d v) w') :
    RL P N ops (⟨some d, op, ty, pos, after, none⟩ :: rest) Q F w := by
  refine ⟨fun ds a ha => wpList_plain rfl fun K hK => ?_⟩
  have hr' : (execOp a.eval ⟨some d, op, ty, pos, after, none⟩).run P w = .ok (.value v) w' := by rw [ha.eval]; exact hr
  unfold Oper.wp
  rw [hr']
  exact hK _ _ (h.out _ _ (ha.put (by simpa using hd) v))

theorem RL.unit {w' : World} (hr : ex P (ev F) op ty w = .ok .skip w') (h : RL P N ops rest Q F w') :
    RL P N ops (⟨none, op, ty, pos, after, none⟩ :: rest) Q F w := by
  refine ⟨fun ds a ha => wpList_plain rfl fun K hK => ?_⟩
  have hr' : (execOp a.eval ⟨none, op, ty, pos, after, none⟩).run P w = .ok .skip w' := by rw [ha.eval]; exact hr
  unfold Oper.wp
  rw [hr']
  exact hK _ _ (h.out _ _ ha)

/-- A value that goes nowhere. -/
theorem RL.val0 {v : Value} {w' : World} (hr : ex P (ev F) op ty w = .ok (.value v) w') (h : RL P N ops rest Q F w') :
    RL P N ops (⟨none, op, ty, pos, after, none⟩ :: rest) Q F w := by
  refine ⟨fun ds a ha => wpList_plain rfl fun K hK => ?_⟩
  have hr' : (execOp a.eval ⟨none, op, ty, pos, after, none⟩).run P w = .ok (.value v) w' := by rw [ha.eval]; exact hr
  unfold Oper.wp
  rw [hr']
  exact hK _ _ (h.out _ _ ha)

/-- A call of a Go function. -/
theorem RL.call {d : Nat} {f : FuncId} {args : Array Value} {w' : World} {R : Value → World → Prop} (hd : Nat.blt d N = true)
    (hr : ex P (ev F) op ty w = .ok (.enter f args) w') (hc : Calls P f args w' fun e w'' => ∃ v, e = .returned v ∧ R v w'')
    (h : ∀ v w'', R v w'' → RL P N ops rest Q (upd F d v) w'') : RL P N ops (⟨some d, op, ty, pos, after, none⟩ :: rest) Q F w := by
  refine ⟨fun ds a ha => wpList_plain rfl fun K hK => ?_⟩
  have hr' : (execOp a.eval ⟨some d, op, ty, pos, after, none⟩).run P w = .ok (.enter f args) w' := by rw [ha.eval]; exact hr
  unfold Oper.wp
  rw [hr', Oper.upon_enter]
  refine hc.mono ?_
  rintro e w'' ⟨v, rfl, hR⟩
  exact hK _ _ ((h v w'' hR).out _ _ (ha.put (by simpa using hd) v))

theorem RL.call0 {f : FuncId} {args : Array Value} {w' : World} {R : Value → World → Prop}
    (hr : ex P (ev F) op ty w = .ok (.enter f args) w') (hc : Calls P f args w' fun e w'' => ∃ v, e = .returned v ∧ R v w'')
    (h : ∀ v w'', R v w'' → RL P N ops rest Q F w'') : RL P N ops (⟨none, op, ty, pos, after, none⟩ :: rest) Q F w := by
  refine ⟨fun ds a ha => wpList_plain rfl fun K hK => ?_⟩
  have hr' : (execOp a.eval ⟨none, op, ty, pos, after, none⟩).run P w = .ok (.enter f args) w' := by rw [ha.eval]; exact hr
  unfold Oper.wp
  rw [hr', Oper.upon_enter]
  refine hc.mono ?_
  rintro e w'' ⟨v, rfl, hR⟩
  exact hK _ _ ((h v w'' hR).out _ _ ha)

/-! ### Guards -/
theorem yielded_of {ds : List Deferred} {a : Act} {j dj : Nat} (ha : Rep N ds a F) (hj : (ops[j]?).bind (·.dst) = some dj) {b : Bool} (hb : F dj = .bool b) : yielded ops a.tmps j = some b := by
  unfold yielded
  have hg := ha.get dj
  rw [hb] at hg
  have hg' : a.tmps[dj]? = some (.bool b) := by
    rw [Array.getD_eq_getD_getElem?] at hg
    cases hh : a.tmps[dj]? with
    | none => rw [hh] at hg; cases hg
    | some u => rw [hh] at hg; simp only [Option.getD_some] at hg; rw [hg]
  cases ho : ops[j]? with
  | none => rw [ho] at hj; cases hj
  | some o =>
    rw [ho] at hj
    simp only [Option.bind_some] at hj
    simp [hj, hg']

theorem RL.skip {d j dj : Nat} {want b : Bool} (hd : Nat.blt d N = true) (hj : (ops[j]?).bind (·.dst) = some dj) (hb : F dj = .bool b) (hne : want = !b)
    (h : RL P N ops rest Q (upd F d undef) w) : RL P N ops (⟨some d, op, ty, pos, after, some (j, want)⟩ :: rest) Q F w := by
  refine ⟨fun ds a ha => wpList_skip ?_ (h.out _ _ (ha.put (by simpa using hd) undef))⟩
  simp only [Region.wanted, yielded_of ha hj hb]
  subst hne
  cases b <;> rfl

theorem RL.take {o : Option Nat} {j dj : Nat} {want : Bool} (hj : (ops[j]?).bind (·.dst) = some dj) (hb : F dj = .bool want)
    (h : RL P N ops (⟨o, op, ty, pos, after, none⟩ :: rest) Q F w) : RL P N ops (⟨o, op, ty, pos, after, some (j, want)⟩ :: rest) Q F w := by
  refine ⟨fun ds a ha => ?_⟩
  have h1 := h.out ds a ha
  have hw : Region.wanted (⟨o, op, ty, pos, after, some (j, want)⟩ : Oper) (yielded ops a.tmps) = true := by
    simp only [Region.wanted, yielded_of ha hj hb]
    cases want <;> rfl
  have hw' : Region.wanted (⟨o, op, ty, pos, after, none⟩ : Oper) (yielded ops a.tmps) = true := rfl
  unfold wpList at h1 ⊢
  rw [if_pos hw'] at h1
  rw [if_pos hw]
  exact h1

/-! ### A function's body -/
def bodyQ (P : Program) (fn : Func) (R : Value → World → Prop) : Post
  | .normal, F, w | .ret, F, w => ∀ (ds : List Deferred) (a : Act), Rep fn.ntmps ds a F → ∃ v, (results fn a.tmps).run P w = .ok v w ∧ R v w
  | _, _, _ => False

def frame0 (args : Array Value) : Nat → Value := fun n => args.getD n undef

theorem calls_of {f : FuncId} {fn : Func} {c : Code} {args : Array Value} {R : Value → World → Prop} (hf : P.funcs[f]? = some fn) (hb : fn.body = some c) (hn : Nat.ble args.size fn.ntmps = true)
    (h : WP P fn.ntmps c (bodyQ P fn R) (frame0 args) w) : Calls P f args w fun e w' => ∃ v, e = .returned v ∧ R v w' := by
  have hn : args.size ≤ fn.ntmps := by simpa using hn
  refine calls_of_wp hf hb (Code.wp_mono ?_ (h.out [] _ ⟨rfl, by simp; omega, fun n => ?_⟩))
  · rintro e a' w' ⟨F', hr, hq⟩
    cases e with
    | normal => obtain ⟨v, h1, h2⟩ := hq _ a' hr; exact ⟨hr.dfs, v, h1, v, rfl, h2⟩
    | ret => obtain ⟨v, h1, h2⟩ := hq _ a' hr; exact ⟨hr.dfs, v, h1, v, rfl, h2⟩
    | exit id => exact hq.elim
    | goto l => exact hq.elim
    | panic ch => exact hq.elim
    | outgrown => exact hq.elim
  · simp only [frame0, Array.getD_eq_getD_getElem?, Array.getElem?_append, Array.getElem?_replicate]
    by_cases h1 : n < args.size
    · rw [if_pos h1]
    · rw [if_neg h1, Array.getElem?_eq_none (by omega)]
      split <;> rfl

theorem bodyQ_tmp {fn : Func} {R : Value → World → Prop} {t : Nat} (hres : fn.results = #[.tmp t]) (h : R (F t) w) : bodyQ P fn R .ret F w := by
  intro ds a ha
  refine ⟨F t, ?_, h⟩
  rw [results_tmp hres, ha.get]

theorem bodyQ_tmp_end {fn : Func} {R : Value → World → Prop} {t : Nat} (hres : fn.results = #[.tmp t]) (h : R (F t) w) : bodyQ P fn R .normal F w := by
  intro ds a ha
  refine ⟨F t, ?_, h⟩
  rw [results_tmp hres, ha.get]

theorem bodyQ_none {fn : Func} {R : Value → World → Prop} (hres : fn.results = #[]) (h : R (.tuple #[]) w) : bodyQ P fn R .normal F w := by
  intro ds a ha
  exact ⟨_, results_none hres _ _ _, h⟩
theorem bodyQ_none_ret {fn : Func} {R : Value → World → Prop} (hres : fn.results = #[]) (h : R (.tuple #[]) w) : bodyQ P fn R .ret F w := by
  intro ds a ha
  exact ⟨_, results_none hres _ _ _, h⟩

theorem bodyQ_tmp2 {fn : Func} {R : Value → World → Prop} {t u : Nat} (hres : fn.results = #[.tmp t, .tmp u]) (h : R (.tuple #[F t, F u]) w) : bodyQ P fn R .ret F w := by
  intro ds a ha
  refine ⟨_, ?_, h⟩
  rw [results_tmp2 hres, ha.get, ha.get]
end
end Go.Eng
