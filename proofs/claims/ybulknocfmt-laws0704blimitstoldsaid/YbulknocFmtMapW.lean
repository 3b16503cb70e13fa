/- A map whose keys are windows. -/
import Derived.Test.YbulknocFmtGrp
import Derived.Laws.StructEq
namespace Go.Proofs.YbulknocFmt
open Go Go.Eng Go.RowKit
set_option linter.unusedVariables false
set_option linter.unusedSimpArgs false

abbrev winV (a b : Int) : Value := .agg #[.int .i64 a, .int .i64 b]
theorem Ybaf.sih92 : Ybaf.prog.stoodInHeld 92 = false := by kernel_rfl
theorem Ybaf.fo92 : Ybaf.prog.underlying 92 = some (.struct (Ybaf.prog.fieldsOf 92)) := by kernel_rfl
theorem Ybaf.fl92 : (Ybaf.prog.fieldsOf 92).toList.map (fun f => (f.name, f.type, f.offset)) = [("start", 2, 0), ("stop", 2, 1)] := by kernel_rfl
theorem fl92' : ∃ f g, (Ybaf.prog.fieldsOf 92).toList = [f, g] ∧ f.name = "start" ∧ f.type = 2 ∧ f.offset = 0 ∧ g.name = "stop" ∧ g.type = 2 ∧ g.offset = 1 := by
  have h := Ybaf.fl92
  match hl : (Ybaf.prog.fieldsOf 92).toList with
  | [] => rw [hl] at h; simp at h
  | [f] => rw [hl] at h; simp at h
  | [f, g] =>
    rw [hl] at h
    simp only [List.map_cons, List.map_nil, List.cons.injEq, Prod.mk.injEq, and_true] at h
    exact ⟨f, g, rfl, h.1.1, h.1.2.1, h.1.2.2, h.2.1, h.2.2.1, h.2.2.2⟩
  | _ :: _ :: _ :: _ => rw [hl] at h; simp at h
theorem part2 {w : World} {cs : Array Value} {o : Nat} {v : Value} (h : cs[o]? = some v) : (part 2 cs o).run Ybaf.prog w = .ok v w := by
  unfold part
  simp [run_isAgg_scal Ybaf.sc2, Eng.run_sizeOf (size_scal Ybaf.sc2), h]
theorem eqW {w : World} (a b c d : Int) : (Op.equal 92 (winV a b) (winV c d)).run Ybaf.prog w = .ok (decide (a = c ∧ b = d)) w := by
  unfold Op.equal Op.maxDepth
  rw [run_equalIn_agg w 9999 92 _ _ Ybaf.fo92 Ybaf.sih92]
  obtain ⟨f, g, hl, h1, h2, h3, h4, h5, h6⟩ := fl92'
  rw [hl]
  have e1 : ∀ x y : Int, (Op.equalIn 9999 2 (.int .i64 x) (.int .i64 y)).run Ybaf.prog w = .ok (x == y) w := fun x y => run_equalIn_int w 9998 2 .i64 .i64 x y Ybaf.underlying2
  have p0 : ∀ x y : Int, (part 2 #[Value.int .i64 x, .int .i64 y] 0).run Ybaf.prog w = .ok (.int .i64 x) w := fun x y => part2 rfl
  have p1 : ∀ x y : Int, (part 2 #[Value.int .i64 x, .int .i64 y] 1).run Ybaf.prog w = .ok (.int .i64 y) w := fun x y => part2 rfl
  simp only [Op.eqFields, h1, h2, h3, h4, h5, h6]
  rw [if_pos (by decide), if_pos (by decide)]
  simp only [Sem.run_bind, p0, p1, e1, Result.andThen_ok]
  by_cases hac : a = c
  · subst hac
    simp only [beq_self_eq_true, Bool.not_true, Bool.false_eq_true, if_false, Sem.run_bind, p0, p1, e1, Result.andThen_ok]
    by_cases hbd : b = d
    · subst hbd
      simp
    · have : (b == d) = false := by simpa using hbd
      simp [this, hbd]
  · have : (a == c) = false := by simpa using hac
    simp [this, hac]
theorem chkW {w : World} (e : Bool) (a b : Int) : (Instr.checkKey e 10000 92 (winV a b)).run Ybaf.prog w = .ok () w := by
  have hf : ∀ v : Int, (Instr.checkKey e 9999 2 (.int .i64 v)).run Ybaf.prog w = .ok () w := fun v => by
    show (Instr.checkKey e (9998 + 1) 2 (.int .i64 v)).run Ybaf.prog w = .ok () w
    unfold Instr.checkKey
    rw [Sem.run_bind, run_underlying Ybaf.underlying2]
    rfl
  have p0 : (part 2 #[Value.int .i64 a, .int .i64 b] 0).run Ybaf.prog w = .ok (.int .i64 a) w := part2 rfl
  have p1 : (part 2 #[Value.int .i64 a, .int .i64 b] 1).run Ybaf.prog w = .ok (.int .i64 b) w := part2 rfl
  show (Instr.checkKey e (9999 + 1) 92 (winV a b)).run Ybaf.prog w = .ok () w
  unfold Instr.checkKey
  rw [Sem.run_bind, run_underlying Ybaf.underlying92]
  simp only [Result.andThen_ok]
  rw [← Array.forIn_toList]
  simp only [List.forIn_cons, List.forIn_nil, Sem.run_bind, ne_eq, reduceCtorEq, not_false_eq_true, if_true, p0, p1, hf, Result.andThen_ok, Sem.run_pure]
  simp [p0, p1, hf]

def entW (x : Win) (q : Int × Nat) : Value × Value := (winV q.1 (q.1 + x.p), .int .i64 (q.2 : Nat))
structure MapW (x : Win) (w : World) (r : Nat) (ws : List Int) : Prop where
  ex : ∃ es clock, w.heap[r]? = some (.map es clock) ∧ es.toList.map (fun e => (e.key, e.val)) = (ws.zipIdx).map (entW x)
theorem findAsk {x : Win} {w : World} (s : Int) : ∀ (es : List MapEntry) (ws : List Int) (i k : Nat), es.map (fun e => (e.key, e.val)) = (ws.zipIdx k).map (entW x) →
    (Instr.findAsking 92 (winV s (s + x.p)) es i).run Ybaf.prog w = .ok (if s ∈ ws then some (i + ws.idxOf s, .int .i64 ((k + ws.idxOf s : Nat) : Int)) else none) w
  | [], [], i, k, _ => by simp [Instr.findAsking]
  | [], _ :: _, _, _, h => by simp at h
  | _ :: _, [], _, _, h => by simp at h
  | e :: es, a :: ws, i, k, h => by
    rw [List.zipIdx_cons, List.map_cons, List.map_cons, List.cons.injEq] at h
    obtain ⟨h1, h2⟩ := h
    have hk : e.key = winV a (a + x.p) := congrArg Prod.fst h1
    have hv : e.val = .int .i64 (k : Nat) := congrArg Prod.snd h1
    unfold Instr.findAsking
    rw [hk, Sem.run_bind, eqW]
    simp only [Result.andThen_ok]
    by_cases hs : s = a
    · subst hs
      simp [hv, List.idxOf_cons]
    · have hd : decide (s = a ∧ s + x.p = a + x.p) = false := decide_eq_false (fun h => hs h.1)
      rw [hd]
      simp only [Bool.false_eq_true, if_false]
      rw [findAsk s es ws (i + 1) (k + 1) h2]
      have hne : (a == s) = false := by simpa using (fun e : a = s => hs e.symm)
      have hmem : (s ∈ a :: ws) ↔ s ∈ ws := by simp [hs]
      by_cases hm : s ∈ ws
      · rw [if_pos hm, if_pos (hmem.2 hm), List.idxOf_cons, hne]
        simp only [cond_false]
        congr 3
        · omega
        · congr 1; omega
      · rw [if_neg hm, if_neg (fun h => hm (hmem.1 h))]
theorem findW {x : Win} {w : World} (s : Int) {es : List MapEntry} {ws : List Int} (h : es.map (fun e => (e.key, e.val)) = (ws.zipIdx).map (entW x)) :
    (Instr.findKey 92 (winV s (s + x.p)) es).run Ybaf.prog w = .ok (if s ∈ ws then some (ws.idxOf s, .int .i64 ((ws.idxOf s : Nat) : Int)) else none) w := by
  have hf := findAsk (w := w) s es ws 0 0 h
  simp only [Nat.zero_add] at hf
  unfold Instr.findKey
  rw [Sem.run_bind, run_underlying Ybaf.underlying92]
  simp only [Result.andThen_ok]
  cases es with
  | nil =>
    cases ws with
    | nil => simp [Instr.findNow]
    | cons a ws => simp at h
  | cons e es =>
    have hn : ∀ d k, Instr.findNow (.struct d) (winV s (s + x.p)) (e :: es) k = none := fun d k => by
      unfold Instr.findNow
      simp [Instr.sameNow]
    rw [hn]
    exact hf
theorem ex_lookupW {x : Win} {ρ : Operand → Value} {ty : TypeId} {w : World} {a b : Operand} {r : Nat} {s : Int} {ws : List Int} (hx : ρ a = .map (some r)) (hy : ρ b = winV s (s + x.p)) (hm : MapW x w r ws) :
    ex Ybaf.prog ρ (.lookup 86 a b true) ty w = .ok (.value (.tuple #[.int .i64 (if s ∈ ws then ((ws.idxOf s : Nat) : Int) else 0), .bool (decide (s ∈ ws))])) w := by
  obtain ⟨es, c, h1, h2⟩ := hm.ex
  unfold ex execOp
  simp only [hx, hy]
  simp only [Instr.lookup, Sem.run_bind, run_underlying Ybaf.underlying86, Result.andThen_ok, run_getM h1, Sem.run_pure, chkW, findW s h2]
  by_cases hs : s ∈ ws
  · simp [hs]
  · have hz : (zeroValue 3).run Ybaf.prog w = .ok (.int .i64 0) w := Eng.run_zeroValue Ybaf.zo3
    simp [hs, hz]
theorem RL.mapUpdateW {x : Win} {N : Nat} {Q : Post} {F : Nat → Value} {w : World} {ops : Array Oper} {rest : List Oper} {ty : TypeId} {pos : String} {after : Array Edge} {a b c : Operand} {r : Nat} {s : Int} {ws : List Int}
    (hx : ev F a = .map (some r)) (hy : ev F b = winV s (s + x.p)) (hz : ev F c = .int .i64 (ws.length : Nat)) (hm : MapW x w r ws) (hn : s ∉ ws) (h : ∀ w', MapW x w' r (ws ++ [s]) → Fr (fun g => g = r) w w' → RL Ybaf.prog N ops rest Q F w') :
    RL Ybaf.prog N ops (⟨none, .mapUpdate 86 a b c, ty, pos, after, none⟩ :: rest) Q F w := by
  obtain ⟨es, cl, h1, h2⟩ := hm.ex
  have hlt := lt_of h1
  refine RL.unit (w' := { w with heap := w.heap.setIfInBounds r (.map (es.push { key := winV s (s + x.p), val := .int .i64 (ws.length : Nat), born := cl }) (cl + 1)) }) ?_ (h _ ⟨_, _, by simp [hlt]; exact ⟨rfl, rfl⟩, ?_⟩ ⟨rfl, rfl, rfl, by simp, fun g hg hne => ?_⟩)
  · have hs := run_setM (P := Ybaf.prog) (.map (es.push { key := winV s (s + x.p), val := .int .i64 (ws.length : Nat), born := cl }) (cl + 1)) h1
    unfold ex execOp
    simp only [hx, hy, hz]
    simp only [Instr.mapUpdate, Sem.run_bind, run_underlying Ybaf.underlying86, Result.andThen_ok, run_getM h1, chkW, findW s h2, if_neg hn, hs, Sem.run_pure]
  · rw [Array.toList_push, List.map_append, h2, List.zipIdx_append, List.map_append]
    simp [entW]
  · show (w.heap.setIfInBounds r _)[g]? = w.heap[g]?
    rw [Array.getElem?_setIfInBounds_ne (fun e => hne e.symm)]
theorem MapW.keep {x : Win} {w w' : World} {r : Nat} {ws : List Int} {S : Nat → Prop} (h : MapW x w r ws) (hf : Fr S w w') (hn : ¬ S r) : MapW x w' r ws := ⟨let ⟨es, c, h1, h2⟩ := h.ex; ⟨es, c, hf.keep h1 hn, h2⟩⟩
end Go.Proofs.YbulknocFmt
