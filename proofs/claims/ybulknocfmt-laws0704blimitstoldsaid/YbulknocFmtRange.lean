/- The loop over a function: an iterator's contract, the caller's law, a function that holds such loops. -/
import Derived.Test.YbulknocFmtRound
namespace Go.Eng
open Go Go.RowKit
set_option linter.unusedVariables false
set_option linter.unusedSimpArgs false

/-- No cells lie there. -/
def NC (w : World) (k : Nat) : Prop := ∃ o, w.heap[k]? = some o ∧ o.isCells = false
/-- What an iterator and the loop's own book-keeping may turn: blocks that are no cells, from B on. -/
def ItS (B : Nat) (w w' : World) : Prop := Fr (fun k => B ≤ k ∧ NC w k) w w'
theorem ItS.of_pure {B : Nat} {w w' : World} (h : Fr (fun _ => False) w w') : ItS B w w' := h.mono (fun _ _ h => h.elim)
theorem ItS.mono {B B' : Nat} {w w' : World} (h : ItS B w w') (hb : B' ≤ B) : ItS B' w w' := Fr.mono h (fun _ _ h => ⟨Nat.le_trans hb h.1, h.2⟩)
theorem ItS.cells {B b : Nat} {w w' : World} {c : Array Value} {T : TypeId} {fz : Nat × Nat} (h : ItS B w w') (hb : w.heap[b]? = some (.cells c T fz)) : w'.heap[b]? = some (.cells c T fz) :=
  Fr.keep h hb (fun hk => by obtain ⟨_, o, ho, hc⟩ := hk; rw [hb] at ho; cases ho; cases hc)
theorem ItS.below {B b : Nat} {w w' : World} {o : Obj} (h : ItS B w w') (hb : w.heap[b]? = some o) (hlt : b < B) : w'.heap[b]? = some o := Fr.keep h hb (fun hk => by omega)
theorem ItS.put {B l : Nat} {w : World} {o o' : Obj} (hl : w.heap[l]? = some o) (hc : o.isCells = false) (hB : B ≤ l) : ItS B w (w.putObj l o') :=
  ⟨rfl, rfl, rfl, by simp, fun k hk hn => World.putObj_heap_other (fun e => hn (by subst e; exact ⟨hB, o, hl, hc⟩))⟩
theorem ItS.alloc {B : Nat} {w : World} (o : Obj) : ItS B w (w.alloc o) := ItS.of_pure ((Fr.refl w).alloc o)

/-- What a round keeps of what was laid since the iterator was called: the blocks of the kinds that κ names. -/
structure KO (κ : Obj → Bool) (B : Nat) (W W' : World) : Prop where
  size : W.heap.size ≤ W'.heap.size
  same : ∀ (k : Nat) (o : Obj), B ≤ k → W.heap[k]? = some o → κ o = true → W'.heap[k]? = some o
theorem KO.refl (κ : Obj → Bool) (B : Nat) (W : World) : KO κ B W W := ⟨Nat.le_refl _, fun _ _ _ h _ => h⟩
theorem KO.trans {κ : Obj → Bool} {B : Nat} {A C D : World} (h : KO κ B A C) (h' : KO κ B C D) : KO κ B A D := ⟨Nat.le_trans h.size h'.size, fun k o hk h0 ho => h'.same k o hk (h.same k o hk h0 ho) ho⟩
theorem KO.mono {κ : Obj → Bool} {B B' : Nat} {A C : World} (h : KO κ B A C) (hb : B ≤ B') : KO κ B' A C := ⟨h.size, fun k o hk h0 ho => h.same k o (Nat.le_trans hb hk) h0 ho⟩
theorem KO.put {κ : Obj → Bool} {B l : Nat} {W : World} {o : Obj} (hl : l < B) : KO κ B W (W.putObj l o) := ⟨by simp, fun k o' hk h0 _ => (World.putObj_heap_other (by omega)).trans h0⟩
theorem KO.of_fr {κ : Obj → Bool} {B : Nat} {S : Nat → Prop} {W W' : World} (h : Fr S W W') (hs : ∀ k o, B ≤ k → W.heap[k]? = some o → κ o = true → ¬ S k) : KO κ B W W' := ⟨h.size, fun k o hk h0 ho => h.keep h0 (hs k o hk h0 ho)⟩

/-- AN ITERATOR's CONTRACT: it hands over 'len' rounds' arguments, one behind the other; what it reads of memory ('Mf') it reads in the caller's own worlds. -/
def Iter (κ : Obj → Bool) (P : Program) (gf : Nat) (lb : Array Value) (len : Nat) (enc : Nat → Array Value) (Mf : World → Prop) : Prop :=
  ∀ (l : Nat) (W : World) (J : Nat → World → Prop) (Jx : World → Prop), (∀ i W1, J i W1 → Mf W1) → (∀ i W1 W2, J i W1 → ItS W.heap.size W1 W2 → J i W2) → (∀ W1 W2, Jx W1 → ItS W.heap.size W1 W2 → Jx W2) →
    (∀ i W1, i < len → J i W1 → YieldAt Fence.wide 0 P l (enc i) W1 fun e W' => ∃ b, e = .returned (.bool b) ∧ KO κ W.heap.size W1 W' ∧ (b = true → J (i + 1) W') ∧ (b = false → Jx W')) →
    J 0 W → Calls P gf (#[.func (.yield l) #[] #[]] ++ lb) W fun e W' => ∃ v, e = .returned v ∧ (J len W' ∨ Jx W')

def mark (D : Nat) : Deferred := { target := .collected D, args := #[] }
/-- The parameters of a round. -/
def updp (F : Nat → Value) : List (Tmp × Value) → (Nat → Value)
  | [] => F
  | p :: l => updp (upd F p.1 p.2) l
theorem Rep.updp {N : Nat} {ds : List Deferred} : ∀ (l : List (Tmp × Value)) (a : Act) (F : Nat → Value), (l.all fun p => Nat.blt p.1 N) = true → Rep N ds a F → Rep N ds { a with tmps := l.foldl (fun t p => t.setIfInBounds p.1 p.2) a.tmps } (Eng.updp F l)
  | [], a, F, _, h => h
  | p :: l, a, F, hp, h => by
    simp only [List.all_cons, Bool.and_eq_true] at hp
    have h1 : Rep N ds (a.put (some p.1) p.2) (upd F p.1 p.2) := h.put (by simpa using hp.1) p.2
    exact Rep.updp l (a.put (some p.1) p.2) (upd F p.1 p.2) hp.2 h1

/-- How a round's body may be left. -/
def roundQ (κ : Obj → Bool) (B : Nat) (W : World) (I : World → Prop) (Ix : Code → World → Prop) : PostD
  | .normal, _, _, W' => KO κ B W W' ∧ I W'
  | .ret, _, _, W' => KO κ B W W' ∧ Ix .ret W'
  | .exit id, _, _, W' => KO κ B W W' ∧ Ix (.exit id) W'
  | _, _, _, _ => False

section
variable {P : Program} {N : Nat} {Q : PostD} {ds : List Deferred} {F : Nat → Value} {w : World}

theorem WD.range {κ : Obj → Bool} (hκ : ∀ o : Obj, o.isCells = false → κ o = true) {g : Operand} {ps : Array Tmp} {assign body : Code} {gf : Nat} {lb : Array Value} {len : Nat} {enc : Nat → Array Value} {Mf : World → Prop} (hg : ev F g = .func (.func gf) #[] lb) (hgf : Fun P gf)
    (hit : Iter κ P gf lb len enc Mf) (hps : ∀ i, i < len → (enc i).size = ps.size) (hpN : ∀ i, i < len → ((ps.toList.zip (enc i).toList).all fun p => Nat.blt p.1 N) = true)
    (I : Nat → World → Prop) (Ix : Code → World → Prop) (A : Nat → (Nat → Value) → World → Prop) (hM : ∀ i W, I i W → Mf W)
    (hI : ∀ i W1 W2, I i W1 → ItS w.heap.size W1 W2 → I i W2) (hIx : ∀ c W1 W2, Ix c W1 → ItS w.heap.size W1 W2 → Ix c W2) (hA : ∀ i F' W1 W2, A i F' W1 → ItS w.heap.size W1 W2 → A i F' W2) (h0 : I 0 w)
    (hassign : ∀ l i W, i < len → w.heap.size ≤ l → I i W → WD (some l) P N assign (thenD (fun ds' F' W' => KO κ w.heap.size W W' ∧ A i F' W') (fun _ _ _ _ => False)) [] (updp F (ps.toList.zip (enc i).toList)) W)
    (hbody : ∀ l i F' W, i < len → w.heap.size ≤ l → (∃ r, W.heap[l]? = some (.loop r)) → A i F' W → ∀ dd, WD (some l) P N body (roundQ κ w.heap.size W (I (i + 1)) Ix) dd F' W)
    (hdone : ∀ D W, w.heap.size ≤ D → I len W → W.heap[D]? = some (.deferred (some [])) → Q .normal (mark D :: ds) F W)
    (hstop : ∀ D c W, w.heap.size ≤ D → Ix c W → W.heap[D]? = some (.deferred (some [])) → WD none P N c Q (mark D :: ds) F W) :
    WD none P N (.rangeFunc g ps assign body) Q ds F w := by
  refine ⟨fun a ha => wpIn_rangeFunc ?_⟩
  intro fn hfn
  obtain ⟨rec, hrec⟩ : ∃ rec : LoopState → Option Code → Loop, rec = fun st pe => { state := st, pending := pe, fn, tmps := a.tmps, params := ps, assign, body, defers := w.heap.size } := ⟨_, rfl⟩
  obtain ⟨W1, hW1⟩ : ∃ W1, (w.alloc (.deferred (some []))).alloc (.loop (rec .ready none)) = W1 := ⟨_, rfl⟩
  have hsz1 : W1.heap.size = w.heap.size + 2 := by rw [← hW1]; simp
  have hL1 : W1.heap[w.heap.size + 1]? = some (.loop (rec .ready none)) := by
    rw [← hW1]; have := World.alloc_heap_new (w.alloc (.deferred (some []))) (.loop (rec .ready none)); rwa [World.size_alloc] at this
  have hK1 : W1.heap[w.heap.size]? = some (.deferred (some [])) := by
    rw [← hW1]; exact (Below.heap_alloc _ _ _ (by simp)).trans (World.alloc_heap_new w _)
  have hI1 : I 0 W1 := by rw [← hW1]; exact hI _ _ _ (hI _ _ _ h0 (ItS.alloc _)) (ItS.alloc _)
  obtain ⟨gfn, hgf1, hgf2, hgf3⟩ := hgf
  refine ⟨w.heap.size + 1, [mark w.heap.size], W1, { target := .fn (.func gf) lb, args := #[.func (.yield (w.heap.size + 1)) #[] #[]] }, W1, gf,
    #[.func (.yield (w.heap.size + 1)) #[] #[]] ++ lb, W1, ?_, ?_, fun _ _ => trivial, ?_, fun h => (by cases h), ?_⟩
  · rw [← hW1, hrec]; exact run_enterLoop_outer _ _ _ _ _
  · have hg' : a.eval g = .func (.func gf) #[] lb := by rw [ha.eval]; exact hg
    simp only [resolve, hg']
    simp [Deferred.ofValue, Act.eval]
  · simp [invoke, callFunc, hgf1, hgf2, hgf3]
  · refine calls_in ((hit (w.heap.size + 1) W1
      (fun i W => I i W ∧ W.heap[w.heap.size + 1]? = some (.loop (rec .ready none)) ∧ W.heap[w.heap.size]? = some (.deferred (some [])))
      (fun W => ∃ c, Ix c W ∧ W.heap[w.heap.size + 1]? = some (.loop (rec .done (some c))) ∧ W.heap[w.heap.size]? = some (.deferred (some [])))
      (fun i W h => hM i W h.1)
      (fun i A B h hs => ⟨hI i A B h.1 (hs.mono (by omega)), hs.below h.2.1 (by omega), hs.below h.2.2 (by omega)⟩)
      (fun A B h hs => by obtain ⟨c, hc, h1, h2⟩ := h; exact ⟨c, hIx c A B hc (hs.mono (by omega)), hs.below h1 (by omega), hs.below h2 (by omega)⟩)
      ?_ ⟨hI1, hL1, hK1⟩).mono ?_)
    · rintro i W hil ⟨hi, hl, hk⟩
      have hlt : w.heap.size + 1 < W.heap.size := (Array.getElem?_eq_some_iff.1 hl).1
      have hy := run_yield (P := P) (args := enc i) hl (by rw [hrec]; exact hps i hil)
      rw [hrec] at hy
      have hrep : Rep N [] { tmps := (ps.zip (enc i)).foldl (fun t (p, v) => t.setIfInBounds p v) a.tmps, defers := [] } (updp F (ps.toList.zip (enc i).toList)) := by
        have h1 := Rep.updp (ps.toList.zip (enc i).toList) { a with defers := [] } F (hpN i hil) ⟨rfl, ha.siz, ha.get⟩
        rw [← Array.foldl_toList, Array.toList_zip]
        exact h1
      refine ⟨fn, _, assign, body, hy, roundIn_of_wpIn trivial (wpIn_mono ((hassign _ i W hil (by omega) hi).out _ hrep) ?_)⟩
      rintro e a' Wa ⟨da, Fa, hra, hqa⟩
      cases e with
      | normal =>
        obtain ⟨hkfa, hax⟩ := hqa
        have hl' := hkfa.same _ _ (by omega) hl (hκ _ rfl)
        have hk' := hkfa.same _ _ (Nat.le_refl _) hk (hκ _ rfl)
        have hlt' : w.heap.size + 1 < Wa.heap.size := (Array.getElem?_eq_some_iff.1 hl').1
        refine ⟨_, run_beginRound hl' (by rw [hrec]), ?_⟩
        have hl2 : (Wa.putObj (w.heap.size + 1) (.loop { rec .ready none with state := .busy })).heap[w.heap.size + 1]? = some (.loop { rec .ready none with state := .busy }) := World.putObj_heap_same hlt'
        have hk2 : (Wa.putObj (w.heap.size + 1) (.loop { rec .ready none with state := .busy })).heap[w.heap.size]? = some (.deferred (some [])) := (World.putObj_heap_other (by omega)).trans hk'
        refine wpIn_mono ((hbody _ i Fa _ hil (by omega) ⟨_, hl2⟩ (hA i Fa _ _ hax (ItS.put hl' rfl (by omega))) da).out _ hra) ?_
        have fin : ∀ (jump : Option Code) (W3 : World), KO κ w.heap.size (Wa.putObj (w.heap.size + 1) (.loop { rec .ready none with state := .busy })) W3 →
            (Instr.endRound (w.heap.size + 1) jump).run P W3 = .ok (.bool jump.isNone) (W3.putObj (w.heap.size + 1) (.loop (rec (if jump.isNone then .ready else .done) jump))) ∧
            W3.heap[w.heap.size + 1]? = some (.loop { rec .ready none with state := .busy }) ∧
            (W3.putObj (w.heap.size + 1) (.loop (rec (if jump.isNone then .ready else .done) jump))).heap[w.heap.size + 1]? = some (.loop (rec (if jump.isNone then .ready else .done) jump)) ∧
            (W3.putObj (w.heap.size + 1) (.loop (rec (if jump.isNone then .ready else .done) jump))).heap[w.heap.size]? = some (.deferred (some [])) := fun jump W3 hk3 => by
          have hl3 := hk3.same _ _ (by omega) hl2 (hκ _ rfl)
          have := run_endRound (P := P) jump hl3
          rw [hrec] at this ⊢
          exact ⟨this, by rw [hrec] at hl3; exact hl3, World.putObj_heap_same (Array.getElem?_eq_some_iff.1 hl3).1, (World.putObj_heap_other (by omega)).trans (hk3.same _ _ (Nat.le_refl _) hk2 (hκ _ rfl))⟩
        have hko : ∀ (W3 : World) (o : Obj), KO κ w.heap.size (Wa.putObj (w.heap.size + 1) (.loop { rec .ready none with state := .busy })) W3 → KO κ W1.heap.size W (W3.putObj (w.heap.size + 1) o) := fun W3 o h3 =>
          (((hkfa.mono (by omega)).trans (KO.put (by omega))).trans (h3.mono (by omega))).trans (KO.put (by omega))
        rintro e a3 W3 ⟨d3, F3, hr3, hp⟩
        cases e with
        | normal =>
          obtain ⟨hk3, hi3⟩ := hp
          obtain ⟨hr, hl3, hl4, hk4⟩ := fin none W3 hk3
          exact ⟨_, _, hr, true, rfl, hko _ _ hk3, fun _ => ⟨hI _ _ _ hi3 (ItS.put hl3 rfl (by omega)), hl4, hk4⟩, fun h => by cases h⟩
        | ret =>
          obtain ⟨hk3, hi3⟩ := hp
          obtain ⟨hr, hl3, hl4, hk4⟩ := fin (some .ret) W3 hk3
          exact ⟨_, _, hr, false, rfl, hko _ _ hk3, fun h => (by cases h), fun _ => ⟨.ret, hIx _ _ _ hi3 (ItS.put hl3 rfl (by omega)), hl4, hk4⟩⟩
        | exit id =>
          obtain ⟨hk3, hi3⟩ := hp
          obtain ⟨hr, hl3, hl4, hk4⟩ := fin (some (.exit id)) W3 hk3
          exact ⟨_, _, hr, false, rfl, hko _ _ hk3, fun h => (by cases h), fun _ => ⟨.exit id, hIx _ _ _ hi3 (ItS.put hl3 rfl (by omega)), hl4, hk4⟩⟩
        | goto t => exact (hp : False).elim
        | panic ch => exact (hp : False).elim
        | outgrown => exact (hp : False).elim
      | _ => exact (hqa : False).elim
    · have hrep2 : ∀ D, Rep N (mark D :: ds) { a with defers := [mark D] ++ a.defers } F := fun D => ⟨by rw [ha.dfs]; rfl, ha.siz, ha.get⟩
      rintro e W2 ⟨v, rfl, (⟨hi, hl, hk⟩ | ⟨c, hi, hl, hk⟩)⟩
      · exact ⟨none, _, by have := run_endLoop (P := P) hl (by rw [hrec]; simp); rw [hrec] at this; exact this, _, _, hrep2 _, hdone _ _ (Nat.le_refl _) (hI _ _ _ hi (ItS.put hl rfl (by omega))) ((World.putObj_heap_other (by omega)).trans hk)⟩
      · exact ⟨some c, _, by have := run_endLoop (P := P) hl (by rw [hrec]; simp); rw [hrec] at this; exact this, (hstop _ c _ (Nat.le_refl _) (hIx _ _ _ hi (ItS.put hl rfl (by omega))) ((World.putObj_heap_other (by omega)).trans hk)).out _ (hrep2 _)⟩

/-! ### A function that holds such loops -/
structure Marks (Ds : List Nat) (w : World) : Prop where
  nd : Ds.Nodup
  at_ : ∀ D, D ∈ Ds → w.heap[D]? = some (.deferred (some []))
def bodyD (P : Program) (fn : Func) (R : Value → World → Prop) : PostD
  | .normal, ds, F, w | .ret, ds, F, w => ∃ Ds : List Nat, ds = Ds.map mark ∧ Marks Ds w ∧ ∀ wF, Fr (fun k => k ∈ Ds) w wF → ∃ v, (∀ ds a, Rep fn.ntmps ds a F → (results fn a.tmps).run P wF = .ok v wF) ∧ R v wF
  | _, _, _, _ => False
theorem leaves_marks {fn : Func} {tmps : Array Value} {R : Ending → World → Prop} : ∀ (Ds : List Nat) (w : World), Marks Ds w → (∀ wF, Fr (fun k => k ∈ Ds) w wF → ∃ v, (results fn tmps).run P wF = .ok v wF ∧ R (.returned v) wF) →
    LeavesInM (fe none) 0 P fn tmps R (Ds.map mark) .returning w
  | [], w, _, h => by
    obtain ⟨v, h1, h2⟩ := h w (Fr.refl w)
    exact ⟨v, h1, h2⟩
  | D :: Ds, w, hm, h => by
    have hD := hm.at_ D List.mem_cons_self
    have hnd := List.nodup_cons.1 hm.nd
    have hf : Fr (fun k => k ∈ D :: Ds) w (w.putObj D (.deferred none)) := ⟨rfl, rfl, rfl, by simp, fun k hk hn => World.putObj_heap_other (fun e => hn (by subst e; exact List.mem_cons_self))⟩
    refine ⟨by simp, .inl ⟨D, _, rfl, run_takeDeferred hD, leaves_marks Ds _ ⟨hnd.2, fun D' hD' => ?_⟩ fun wF hF => h wF (hf.trans hF (fun k _ hk => List.mem_cons_of_mem _ hk))⟩⟩
    exact (World.putObj_heap_other (fun e => hnd.1 (by subst e; exact hD'))).trans (hm.at_ D' (List.mem_cons_of_mem _ hD'))
theorem callsD_of {f : FuncId} {fn : Func} {c : Code} {args : Array Value} {R : Value → World → Prop} (hf : P.funcs[f]? = some fn) (hb : fn.body = some c) (hn : Nat.ble args.size fn.ntmps = true)
    (h : WD none P fn.ntmps c (bodyD P fn R) [] (frame0 args) w) : Calls P f args w fun e w' => ∃ v, e = .returned v ∧ R v w' := by
  have hn : args.size ≤ fn.ntmps := by simpa using hn
  refine calls_out (n := 0) (callsIn_of_wp_marks hf hb trivial (wpIn_mono (h.out _ ⟨rfl, by simp; omega, fun n => ?_⟩) ?_))
  · simp only [frame0, Array.getD_eq_getD_getElem?, Array.getElem?_append, Array.getElem?_replicate]
    by_cases h1 : n < args.size
    · rw [if_pos h1]
    · rw [if_neg h1, Array.getElem?_eq_none (by omega)]
      split <;> rfl
  · rintro e a' w' ⟨ds', F', hr, hq⟩
    have key : (∃ Ds : List Nat, ds' = Ds.map mark ∧ Marks Ds w' ∧ ∀ wF, Fr (fun k => k ∈ Ds) w' wF → ∃ v, (∀ ds a, Rep fn.ntmps ds a F' → (results fn a.tmps).run P wF = .ok v wF) ∧ R v wF) →
        LeavesInM (fe none) 0 P fn a'.tmps (fun e w' => ∃ v, e = .returned v ∧ R v w') a'.defers .returning w' := by
      rintro ⟨Ds, rfl, hm, hh⟩
      rw [hr.dfs]
      exact leaves_marks Ds w' hm fun wF hF => let ⟨v, h1, h2⟩ := hh wF hF; ⟨v, h1 _ a' hr, v, rfl, h2⟩
    cases e with
    | normal => exact key hq
    | ret => exact key hq
    | exit id => exact hq.elim
    | goto l => exact hq.elim
    | panic ch => exact hq.elim
    | outgrown => exact hq.elim
end
end Go.Eng
