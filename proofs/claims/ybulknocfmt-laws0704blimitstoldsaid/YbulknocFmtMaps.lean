/- Maps from strings to blocks; two addresses compared. -/
import Derived.Test.YbulknocFmtOps2
import Derived.LaidEql
import Derived.MapKept
namespace Go.Eng
open Go Go.RowKit
set_option linter.unusedVariables false
set_option linter.unusedSimpArgs false

/-! ### The plain map: a list of keys and blocks -/
def lkI : List (ByteArray × Nat) → ByteArray → Option (Nat × Nat)
  | [], _ => none
  | p :: L, k => if p.1 = k then some (0, p.2) else (lkI L k).map fun q => (q.1 + 1, q.2)
def lk (L : List (ByteArray × Nat)) (k : ByteArray) : Option Nat := (lkI L k).map (·.2)
def del : List (ByteArray × Nat) → ByteArray → List (ByteArray × Nat)
  | [], _ => []
  | p :: L, k => if p.1 = k then L else p :: del L k
theorem lk_nil (k : ByteArray) : lk [] k = none := rfl
theorem lk_cons (p : ByteArray × Nat) (L : List (ByteArray × Nat)) (k : ByteArray) : lk (p :: L) k = if p.1 = k then some p.2 else lk L k := by
  unfold lk
  simp only [lkI]
  split
  · rfl
  · cases lkI L k <;> rfl
theorem lk_mem {k : ByteArray} {b : Nat} : ∀ {L : List (ByteArray × Nat)}, lk L k = some b → (k, b) ∈ L
  | [], h => by rw [lk_nil] at h; cases h
  | p :: L, h => by
    rw [lk_cons] at h
    split at h
    · rename_i hp
      cases h
      subst hp
      exact List.mem_cons_self
    · exact List.mem_cons_of_mem _ (lk_mem h)
theorem lk_none {k : ByteArray} : ∀ {L : List (ByteArray × Nat)}, lk L k = none ↔ k ∉ L.map (·.1)
  | [] => by simp [lk_nil]
  | p :: L => by
    rw [lk_cons]
    by_cases hp : p.1 = k
    · simp [hp]
    · rw [if_neg hp, lk_none]
      simp [Ne.symm hp]
theorem lk_snoc {k k' : ByteArray} {b : Nat} : ∀ {L : List (ByteArray × Nat)}, lk L k = none → lk (L ++ [(k, b)]) k' = if k = k' then some b else lk L k'
  | [], _ => by simp [lk_cons, lk_nil]
  | p :: L, h => by
    rw [lk_cons] at h
    split at h
    · cases h
    · rename_i hp
      rw [List.cons_append, lk_cons, lk_snoc h, lk_cons]
      by_cases hk : k = k'
      · subst hk
        rw [if_neg hp, if_pos rfl, if_pos rfl]
      · rw [if_neg hk, if_neg hk]
theorem del_none {k : ByteArray} : ∀ {L : List (ByteArray × Nat)}, lk L k = none → del L k = L
  | [], _ => rfl
  | p :: L, h => by
    rw [lk_cons] at h
    split at h
    · cases h
    · rename_i hp
      rw [del, if_neg hp, del_none h]
theorem del_other {k k' : ByteArray} (hk : k' ≠ k) : ∀ {L : List (ByteArray × Nat)}, lk (del L k) k' = lk L k'
  | [] => rfl
  | p :: L => by
    rw [del]
    split
    · rename_i hp
      rw [lk_cons, if_neg (by rw [hp]; exact Ne.symm hk)]
    · rw [lk_cons, lk_cons, del_other hk]
theorem del_same {k : ByteArray} : ∀ {L : List (ByteArray × Nat)}, (L.map (·.1)).Nodup → lk (del L k) k = none
  | [], _ => rfl
  | p :: L, h => by
    rw [List.map_cons, List.nodup_cons] at h
    rw [del]
    split
    · rename_i hp
      rw [lk_none, ← hp]
      exact h.1
    · rename_i hp
      rw [lk_cons, if_neg hp]
      exact del_same h.2
theorem del_length {k : ByteArray} {b : Nat} : ∀ {L : List (ByteArray × Nat)}, lk L k = some b → (del L k).length + 1 = L.length
  | [], h => by rw [lk_nil] at h; cases h
  | p :: L, h => by
    rw [lk_cons] at h
    rw [del]
    split
    · rfl
    · rename_i hp
      rw [if_neg hp] at h
      simp [del_length h]
theorem del_sub {k : ByteArray} : ∀ {L : List (ByteArray × Nat)} {p : ByteArray × Nat}, p ∈ del L k → p ∈ L
  | [], p, h => h
  | q :: L, p, h => by
    rw [del] at h
    split at h
    · exact List.mem_cons_of_mem _ h
    · rcases List.mem_cons.1 h with rfl | h
      · exact List.mem_cons_self
      · exact List.mem_cons_of_mem _ (del_sub h)
theorem lkI_erase {k : ByteArray} : ∀ {L : List (ByteArray × Nat)} {q : Nat × Nat}, lkI L k = some q → L.eraseIdx q.1 = del L k
  | [], q, h => by cases h
  | p :: L, q, h => by
    rw [lkI] at h
    rw [del]
    split
    · rename_i hp
      rw [if_pos hp] at h
      cases h
      rfl
    · rename_i hp
      rw [if_neg hp] at h
      cases hl : lkI L k with
      | none => rw [hl] at h; cases h
      | some q' =>
        rw [hl] at h
        cases h
        simp [List.eraseIdx, lkI_erase hl]

/-! ### The map in memory -/
def entOf (p : ByteArray × Nat) : Value × Value := (.string p.1, .pointer (some ⟨p.2, 0, none⟩))
structure MapIs (w : World) (r : Nat) (L : List (ByteArray × Nat)) : Prop where
  ex : ∃ es clock, w.heap[r]? = some (.map es clock) ∧ es.toList.map (fun e => (e.key, e.val)) = L.map entOf
theorem MapIs.keep {w w' : World} {r : Nat} {L : List (ByteArray × Nat)} {S : Nat → Prop} (h : MapIs w r L) (hf : Fr S w w') (hn : ¬ S r) : MapIs w' r L := ⟨let ⟨es, c, h1, h2⟩ := h.ex; ⟨es, c, hf.keep h1 hn, h2⟩⟩
theorem MapIs.lt {w : World} {r : Nat} {L : List (ByteArray × Nat)} (h : MapIs w r L) : r < w.heap.size := let ⟨_, _, h1, _⟩ := h.ex; lt_of h1
theorem MapIs.ext {w w' : World} {r : Nat} {L : List (ByteArray × Nat)} (h : MapIs w r L) (hk : ∀ o, w.heap[r]? = some o → w'.heap[r]? = some o) : MapIs w' r L := ⟨let ⟨es, c, h1, h2⟩ := h.ex; ⟨es, c, hk _ h1, h2⟩⟩
def ptrOf : Option Nat → Value
  | none => .pointer none
  | some b => .pointer (some ⟨b, 0, none⟩)

theorem str_eq (a b : ByteArray) : (a == b) = decide (a = b) := by
  obtain ⟨a⟩ := a
  obtain ⟨b⟩ := b
  show (a == b) = _
  by_cases h : a = b
  · subst h; simp
  · have h2 : ¬ (ByteArray.mk a = ByteArray.mk b) := fun e => h (by cases e; rfl)
    rw [decide_eq_false h2]
    simpa using h
theorem map_erase {α β : Type} (f : α → β) : ∀ (l : List α) (i : Nat), (l.eraseIdx i).map f = (l.map f).eraseIdx i
  | [], _ => rfl
  | _ :: _, 0 => rfl
  | x :: l, i + 1 => by simp [List.eraseIdx, map_erase f l i]
theorem findNow_spec (k : ByteArray) : ∀ (es : List MapEntry) (L : List (ByteArray × Nat)) (i : Nat), es.map (fun e => (e.key, e.val)) = L.map entOf →
    Instr.findNow .string (.string k) es i = some ((lkI L k).map fun q => (i + q.1, .pointer (some ⟨q.2, 0, none⟩)))
  | [], [], i, _ => rfl
  | [], _ :: _, _, h => by simp at h
  | _ :: _, [], _, h => by simp at h
  | e :: es, p :: L, i, h => by
    rw [List.map_cons, List.map_cons, List.cons.injEq] at h
    obtain ⟨h1, h2⟩ := h
    have hk : e.key = .string p.1 := congrArg Prod.fst h1
    have hv : e.val = .pointer (some ⟨p.2, 0, none⟩) := congrArg Prod.snd h1
    unfold Instr.findNow
    rw [hk]
    simp only [Instr.sameNow, lkI, str_eq]
    by_cases hp : p.1 = k
    · subst hp
      simp [hv]
    · have hp' : ¬ k = p.1 := fun h => hp h.symm
      rw [decide_eq_false hp', if_neg hp]
      simp only [findNow_spec k es L (i + 1) h2]
      cases lkI L k with
      | none => rfl
      | some q => simp; omega

section
variable {P : Program} {ρ : Operand → Value} {ty : TypeId} {w : World}

theorem run_findS {kt : TypeId} (hk : P.underlying kt = some .string) (k : ByteArray) {es : List MapEntry} {L : List (ByteArray × Nat)} (h : es.map (fun e => (e.key, e.val)) = L.map entOf) :
    (Instr.findKey kt (.string k) es).run P w = .ok ((lkI L k).map fun q => (q.1, .pointer (some ⟨q.2, 0, none⟩))) w := by
  have := findNow_spec k es L 0 h
  simp only [Nat.zero_add] at this
  unfold Instr.findKey
  simp [run_underlying hk, this]
theorem run_checkS {kt : TypeId} (hk : P.underlying kt = some .string) (k : ByteArray) (e : Bool) (n : Nat) : (Instr.checkKey e (n + 1) kt (.string k)).run P w = .ok () w := by
  simp [Instr.checkKey, run_underlying hk]
theorem run_getM {r : Nat} {es : Array MapEntry} {c : Nat} (h : w.heap[r]? = some (.map es c)) : (getObj r).run P w = .ok (.map es c) w := by simp [getObj, Sem.run, h]
theorem run_setM {r : Nat} {es : Array MapEntry} {c : Nat} (o : Obj) (h : w.heap[r]? = some (.map es c)) : (setObj r o).run P w = .ok () { w with heap := w.heap.setIfInBounds r o } := by simp [setObj, Sem.run, h]

theorem ex_makeMap {t q : Nat} (hq : w.heap.size = q) : ex P ρ (.makeMap t none) ty w = .ok (.value (.map (some q))) (w.alloc (.map #[] 0)) := by
  subst hq
  unfold ex execOp
  simp [Instr.makeMap]
theorem ex_lookupS {t kt e r : TypeId} {x y : Operand} {k : ByteArray} {L : List (ByteArray × Nat)} (hx : ρ x = .map (some r)) (hy : ρ y = .string k) (ht : P.underlying t = some (.map kt e)) (hk : P.underlying kt = some .string)
    (hz : zeroOf P e = some (.pointer none)) (hm : MapIs w r L) : ex P ρ (.lookup t x y true) ty w = .ok (.value (.tuple #[ptrOf (lk L k), .bool (lk L k).isSome])) w := by
  obtain ⟨es, c, h1, h2⟩ := hm.ex
  unfold ex execOp
  simp only [hx, hy]
  simp only [Instr.lookup, Sem.run_bind, run_underlying ht, Result.andThen_ok, run_getM h1, Sem.run_pure, run_checkS hk, run_findS hk k h2]
  unfold lk
  cases lkI L k with
  | none => simp [run_zeroValue hz, ptrOf]
  | some q => simp [ptrOf]
theorem ex_lenM {t kt e r : TypeId} {x : Operand} {L : List (ByteArray × Nat)} (hx : ρ x = .map (some r)) (ht : P.underlying t = some (.map kt e)) (hm : MapIs w r L) :
    ex P ρ (.call { callee := .builtin .len, args := #[x], argTypes := #[t] }) ty w = .ok (.value (.int .i64 (L.length : Nat))) w := by
  obtain ⟨es, c, h1, h2⟩ := hm.ex
  have hl : es.size = L.length := by
    have := congrArg List.length h2
    simpa using this
  unfold ex execOp
  simp only [resolve, invoke, builtin, List.map_toArray, List.map_cons, List.map_nil, hx]
  simp [Builtin.len_, run_underlying ht, run_getM h1, goInt, hl]
theorem ex_mapUpdateS {t kt e r : TypeId} {x y z : Operand} {k : ByteArray} {b : Nat} {L : List (ByteArray × Nat)} (hx : ρ x = .map (some r)) (hy : ρ y = .string k) (hz : ρ z = .pointer (some ⟨b, 0, none⟩)) (ht : P.underlying t = some (.map kt e))
    (hk : P.underlying kt = some .string) (hm : MapIs w r L) (hn : lk L k = none) :
    ∃ w', ex P ρ (.mapUpdate t x y z) ty w = .ok .skip w' ∧ MapIs w' r (L ++ [(k, b)]) ∧ Fr (fun g => g = r) w w' := by
  obtain ⟨es, c, h1, h2⟩ := hm.ex
  have hi : lkI L k = none := by unfold lk at hn; cases h : lkI L k with | none => rfl | some q => rw [h] at hn; cases hn
  have hlt := lt_of h1
  refine ⟨{ w with heap := w.heap.setIfInBounds r (.map (es.push { key := .string k, val := .pointer (some ⟨b, 0, none⟩), born := c }) (c + 1)) }, ?_, ⟨_, _, by simp [hlt]; exact ⟨rfl, rfl⟩, ?_⟩, ⟨rfl, rfl, rfl, by simp, fun g hg hne => ?_⟩⟩
  · have hs := run_setM (P := P) (.map (es.push { key := .string k, val := .pointer (some ⟨b, 0, none⟩), born := c }) (c + 1)) h1
    unfold ex execOp
    simp only [hx, hy, hz]
    simp only [Instr.mapUpdate, Sem.run_bind, run_underlying ht, Result.andThen_ok, run_getM h1, run_checkS hk, run_findS hk k h2, hi, Option.map_none, hs, Sem.run_pure]
  · rw [Array.toList_push, List.map_append, List.map_append, h2]
    rfl
  · show (w.heap.setIfInBounds r _)[g]? = w.heap[g]?
    rw [Array.getElem?_setIfInBounds_ne (fun e => hne e.symm)]
theorem ex_deleteS {t kt e r : TypeId} {x y : Operand} {k : ByteArray} {tys : Array TypeId} {L : List (ByteArray × Nat)} (hx : ρ x = .map (some r)) (hy : ρ y = .string k) (h0 : tys[0]? = some t) (ht : P.underlying t = some (.map kt e))
    (hk : P.underlying kt = some .string) (hm : MapIs w r L) :
    ∃ w', ex P ρ (.call { callee := .builtin .delete, args := #[x, y], argTypes := tys }) ty w = .ok (.value (.tuple #[])) w' ∧ MapIs w' r (del L k) ∧ Fr (fun g => g = r) w w' := by
  obtain ⟨es, c, h1, h2⟩ := hm.ex
  have hlt := lt_of h1
  have fr : ∀ o : Obj, Fr (fun g => g = r) w { w with heap := w.heap.setIfInBounds r o } := fun o => ⟨rfl, rfl, rfl, by simp, fun g hg hne => by
    show (w.heap.setIfInBounds r _)[g]? = w.heap[g]?
    rw [Array.getElem?_setIfInBounds_ne (fun e => hne e.symm)]⟩
  cases hi : lkI L k with
  | none =>
    have hn : lk L k = none := by unfold lk; rw [hi]; rfl
    refine ⟨{ w with heap := w.heap.setIfInBounds r (.map es c) }, ?_, ⟨es, c, by simp [hlt], by rw [del_none hn]; exact h2⟩, fr _⟩
    have hs := run_setM (P := P) (.map es c) h1
    unfold ex execOp
    simp only [resolve, invoke, builtin, List.map_toArray, List.map_cons, List.map_nil, hx, hy]
    simp [Builtin.delete_, h0, run_underlying ht, run_getM h1, run_checkS hk, run_findS hk k h2, hi, hs]
  | some q =>
    refine ⟨{ w with heap := w.heap.setIfInBounds r (.map (es.eraseIdxIfInBounds q.1) c) }, ?_, ⟨_, c, by simp [hlt]; rfl, ?_⟩, fr _⟩
    · have hs := run_setM (P := P) (.map (es.eraseIdxIfInBounds q.1) c) h1
      unfold ex execOp
      simp only [resolve, invoke, builtin, List.map_toArray, List.map_cons, List.map_nil, hx, hy]
      simp [Builtin.delete_, h0, run_underlying ht, run_getM h1, run_checkS hk, run_findS hk k h2, hi, hs]
    · have e1 : (es.eraseIdxIfInBounds q.1).toList = es.toList.eraseIdx q.1 := by
        rw [Array.eraseIdxIfInBounds_eq]
        split
        · rw [Array.toList_eraseIdx]
        · rw [List.eraseIdx_of_length_le (by simp; omega)]
      rw [e1, map_erase, h2, ← map_erase, lkI_erase hi]

/-! ### Addresses -/
theorem run_equal_ptr {t e n : TypeId} {a b : Nat} {ca cb : Array Value} {ta tb : TypeId} (ht : P.underlying t = some (.pointer e)) (hn : (P.info? e).map (·.size) = some n) (h0 : Nat.blt 0 n = true)
    (ha : w.heap[a]? = some (.cells ca ta (0, 0))) (hb : w.heap[b]? = some (.cells cb tb (0, 0))) : (Op.equal t (.pointer (some ⟨a, 0, none⟩)) (.pointer (some ⟨b, 0, none⟩))).run P w = .ok (decide (a = b)) w := by
  have hn0 : ¬ n = 0 := fun e => by rw [e] at h0; cases h0
  unfold Op.equal Op.maxDepth Op.equalIn
  rw [Sem.run_bind, run_underlying ht w]
  simp only [Result.andThen_ok, Sem.run_bind, run_sizeOf hn, ne_eq, hn0, not_false_eq_true, if_true]
  by_cases h : a = b
  · subst h
    rw [run_sameAddr_same, decide_eq_true rfl]
  · have hne : (⟨a, 0, none⟩ : Addr) ≠ ⟨b, 0, none⟩ := fun e => h (by cases e; rfl)
    rw [run_sameAddr_other w hne ha hb, decide_eq_false h]
theorem ex_eql_ptr {t t' e n : TypeId} {x y : Operand} {a b : Nat} {ca cb : Array Value} {ta tb : TypeId} (hx : ρ x = .pointer (some ⟨a, 0, none⟩)) (hy : ρ y = .pointer (some ⟨b, 0, none⟩)) (ht : P.underlying t = some (.pointer e)) (hn : (P.info? e).map (·.size) = some n) (h0 : Nat.blt 0 n = true)
    (ha : w.heap[a]? = some (.cells ca ta (0, 0))) (hb : w.heap[b]? = some (.cells cb tb (0, 0))) : ex P ρ (.binOp .eql t x y t') ty w = .ok (.value (.bool (decide (a = b)))) w := by
  unfold ex execOp
  simp only [hx, hy]
  simp [binOp, run_eqGuard_ptr, run_equal_ptr ht hn h0 ha hb]
theorem ex_neq_ptr {t t' e n : TypeId} {x y : Operand} {a b : Nat} {ca cb : Array Value} {ta tb : TypeId} (hx : ρ x = .pointer (some ⟨a, 0, none⟩)) (hy : ρ y = .pointer (some ⟨b, 0, none⟩)) (ht : P.underlying t = some (.pointer e)) (hn : (P.info? e).map (·.size) = some n) (h0 : Nat.blt 0 n = true)
    (ha : w.heap[a]? = some (.cells ca ta (0, 0))) (hb : w.heap[b]? = some (.cells cb tb (0, 0))) : ex P ρ (.binOp .neq t x y t') ty w = .ok (.value (.bool (!decide (a = b)))) w := by
  unfold ex execOp
  simp only [hx, hy]
  simp [binOp, run_eqGuard_ptr, run_equal_ptr ht hn h0 ha hb]
end

section
variable {P : Program} {N : Nat} {Q : Post} {F : Nat → Value} {w : World} {l : List Oper} {ops : Array Oper} {rest : List Oper} {S : World → Prop} {E : List Nat} {fuel : Nat} {listed : Array Bool} {ty : TypeId} {pos : String} {after : Array Edge}
theorem RL.mapUpdateS {t kt e r : TypeId} {x y z : Operand} {k : ByteArray} {b : Nat} {L : List (ByteArray × Nat)} (hx : ev F x = .map (some r)) (hy : ev F y = .string k) (hz : ev F z = .pointer (some ⟨b, 0, none⟩)) (ht : P.underlying t = some (.map kt e))
    (hk : P.underlying kt = some .string) (hm : MapIs w r L) (hn : lk L k = none) (h : ∀ w', MapIs w' r (L ++ [(k, b)]) → Fr (fun g => g = r) w w' → RL P N ops rest Q F w') :
    RL P N ops (⟨none, .mapUpdate t x y z, ty, pos, after, none⟩ :: rest) Q F w :=
  let ⟨w', hr, h1, h2⟩ := ex_mapUpdateS (ty := ty) hx hy hz ht hk hm hn
  RL.unit hr (h w' h1 h2)
theorem AE.deleteS (i : Nat) {t kt e r : TypeId} {x y : Operand} {k : ByteArray} {tys : Array TypeId} {L : List (ByteArray × Nat)} (hi : l[i]? = some ⟨none, .call { callee := .builtin .delete, args := #[x, y], argTypes := tys }, ty, pos, after, none⟩)
    (hr : Region.ready .any l.toArray listed = [i]) (hx : ev F x = .map (some r)) (hy : ev F y = .string k) (h0 : tys[0]? = some t) (ht : P.underlying t = some (.map kt e))
    (hk : P.underlying kt = some .string) (hm : MapIs w r L) (hE : E.contains i = true) (h : ∀ w', MapIs w' r (del L k) → Fr (fun g => g = r) w w' → AE P N l.toArray S E Q fuel (listed.setIfInBounds i true) F w') :
    AE P N l.toArray S E Q (fuel + 1) listed F w :=
  let ⟨w', hr', h1, h2⟩ := ex_deleteS (ty := ty) hx hy h0 ht hk hm
  AE.val0 i hi hr hr' (fun h => by rw [hE] at h; cases h) (h w' h1 h2)
end
end Go.Eng
