/- Drawn regions: an operation that asks no memory, taken ahead of all. -/
import Derived.Test.YbulknocFmtOps3
namespace Go.Eng
open Go Go.RowKit
set_option linter.unusedVariables false
section
variable {P : Program} {ops : Array Oper} {Q : Exit → Act → World → Prop} {S : World → Prop} {E : List Nat}
theorem wpAnyE_first2 {i : Nat} {oi : Oper} {v : Value} (T : World → Prop) (b : Bool) (hi : ops[i]? = some oi) (hsel : ∀ (j : Nat) (o : Oper) cs b, ops[j]? = some o → o.op ≠ .select cs b)
    (hQ : ∀ c a w, Q (.panic c) (a.put oi.dst v) w → Q (.panic c) a w) (hST : (b = true ∧ T = S ∧ E.contains i = false) ∨ ((∀ w, T w) ∧ E.contains i = true)) :
    ∀ (fuel : Nat) (listed : Array Bool) (a : Act) (w : World), dc ops listed → (b = true → ∀ j ∈ E, j = i ∨ listed.getD j false = true ∨ ∃ n, waits ops n j i = true) →
      (∀ j oj, ops[j]? = some oj → j ≠ i → listed.getD j true = false → (∀ e ∈ oj.after, Region.binds .any e = true → e.on ≠ i) → oi.apart ops oj = true) →
      i ∈ Region.ready .any ops listed → YieldsIf P ops T oi v a → T w →
      wpAnyE P ops Q S E fuel (listed.setIfInBounds i true) (a.put oi.dst v) w → wpAnyE P ops Q S E (fuel + 1) listed a w := by
  intro fuel
  have hfin : ∀ w, T w → (E.contains i = false → S w) := fun w hw h => by
    rcases hST with ⟨_, rfl, _⟩ | ⟨_, h'⟩
    · exact hw
    · rw [h] at h'; cases h'
  induction fuel with
  | zero =>
    intro listed a w _ _ _ hr hy hS H
    refine ⟨fun h => (by rw [h] at hr; cases hr), fun j hj => ?_⟩
    by_cases hji : j = i
    · subst hji; exact hy.wpOp hi hS ⟨hfin w hS, H⟩
    · have := ready_mono hj hji
      rw [H.1] at this
      cases this
  | succ fuel ih =>
    intro listed a w hdc hE hfree hr hy hS H
    refine ⟨fun h => (by rw [h] at hr; cases hr), fun j hj => ?_⟩
    by_cases hji : j = i
    · subst hji; exact hy.wpOp hi hS ⟨hfin w hS, H⟩
    · have h1 := H.2 j (ready_mono hj hji)
      obtain ⟨hjun, oj, hoj, hall⟩ := mem_ready.1 hj
      have hiun : listed.getD i false = false := by
        have h0 := (mem_ready.1 hr).1
        rcases Nat.lt_or_ge i listed.size with h' | h'
        · simp [h'] at h0 ⊢; exact h0
        · simp [Array.getElem?_eq_none h']
      have hnot : ∀ e ∈ oj.after, Region.binds .any e = true → e.on ≠ i := fun e he hb heq => by
        have h1 := hall e he hb
        rw [heq, hiun] at h1
        cases h1
      have hT' : ∀ w', (E.contains j = false → S w') → T w' := fun w' hs => by
        rcases hST with ⟨hbt, rfl, _⟩ | ⟨hT, _⟩
        · refine hs ?_
          cases hc : E.contains j with
          | false => rfl
          | true =>
            rcases hE hbt j (by simpa using hc) with h | h | ⟨n, hn⟩
            · exact absurd h hji
            · have h0 : listed.getD j false = false := by
                rcases Nat.lt_or_ge j listed.size with h' | h'
                · simp [h'] at hjun ⊢; exact hjun
                · simp [Array.getElem?_eq_none h']
              rw [h0] at h
              cases h
            · have := waits_listed hdc n j i oj hoj hn hall
              rw [hiun] at this
              cases this
        · exact hT w'
      have h2 := wpOp_putIf hoj (hfree j oj hoj hji hjun hnot) (fun cs b => hsel i oi cs b hi) (fun cs b => hsel j oj cs b hoj) hQ hy h1
      have hfree' : ∀ k ok, ops[k]? = some ok → k ≠ i → (listed.setIfInBounds j true).getD k true = false →
          (∀ e ∈ ok.after, Region.binds .any e = true → e.on ≠ i) → oi.apart ops ok = true := fun k ok hk hki hun hno => by
        refine hfree k ok hk hki ?_ hno
        by_cases hjk : j = k
        · subst hjk; exact hjun
        · rw [getD_set_ne true hjk] at hun; exact hun
      refine wpOp_mono (fun a' w' h3 => ⟨h3.2.1, ih (listed.setIfInBounds j true) a' w' (dc_set hdc hoj hall) (fun hh k hk => (hE hh k hk).imp id (fun h => h.imp getD_set_true id)) hfree' (ready_mono hr (Ne.symm hji)) h3.1 (hT' w' h3.2.1) ?_⟩) h2
      rw [Array.setIfInBounds_comm _ _ hji]
      exact h3.2.2
end
section
variable {P : Program} {N : Nat} {Q : Post} {F : Nat → Value} {w : World} {l : List Oper} {S : World → Prop} {E : List Nat} {fuel : Nat} {listed : Array Bool} {op : Op} {ty : TypeId} {pos : String} {after : Array Edge}
def chk2 (l : List Oper) (listed : Array Bool) (E : List Nat) (i : Nat) : Bool :=
  Region.noSelect l.toArray && (Region.free .any l.toArray listed i && ((Region.ready .any l.toArray listed).contains i && ((!E.contains i) && E.all fun j => j == i || (listed.getD j false || waits l.toArray l.length j i))))
def chk0 (l : List Oper) (listed : Array Bool) (E : List Nat) (i : Nat) : Bool :=
  Region.noSelect l.toArray && (Region.free .any l.toArray listed i && ((Region.ready .any l.toArray listed).contains i && E.contains i))
/-- A quiet operation, taken first; those of E that were taken already don't count. -/
theorem AE.takeL (i : Nat) {d : Nat} {v : Value} (hi : l[i]? = some ⟨some d, op, ty, pos, after, none⟩) (hb : chk2 l listed E i = true) (hd : Nat.blt d N = true) (hy : ∀ w', S w' → ex P (ev F) op ty w' = .ok (.value v) w') (hS : S w)
    (h : AE P N l.toArray S E Q fuel (listed.setIfInBounds i true) (upd F d v) w) : AE P N l.toArray S E Q (fuel + 1) listed F w := by
  simp only [chk2, Bool.and_eq_true, List.all_eq_true, Bool.or_eq_true, beq_iff_eq, Bool.not_eq_true'] at hb
  obtain ⟨h1, h2, h3, h5, h4⟩ := hb
  have h3 : i ∈ Region.ready .any l.toArray listed := by simpa using h3
  have hi' : l.toArray[i]? = some _ := (by simpa using hi : l.toArray[i]? = some ⟨some d, op, ty, pos, after, none⟩)
  refine ⟨fun hdc ds a ha => ?_⟩
  obtain ⟨_, o, ho, hall⟩ := mem_ready.1 h3
  rw [hi'] at ho
  cases ho
  exact wpAnyE_first2 S true hi' (Region.noSelect_spec h1) (fun _ _ _ h => h.elim) (.inl ⟨rfl, rfl, h5⟩) fuel listed a w hdc (fun _ j hj => (h4 j hj).imp id (fun h => h.imp id fun h => ⟨_, h⟩)) (Region.free_spec hi' h2) h3
    (.inl ⟨rfl, fun w' hw' => by rw [ha.eval]; exact hy w' hw'⟩) hS (h.out (dc_set hdc hi' hall) _ _ (ha.put (by simpa using hd) v))
/-- An operation that asks no memory, named in E, taken first. -/
theorem AE.takeF (i : Nat) {d : Nat} {v : Value} (hi : l[i]? = some ⟨some d, op, ty, pos, after, none⟩) (hb : chk0 l listed E i = true) (hd : Nat.blt d N = true) (hy : ∀ w', ex P (ev F) op ty w' = .ok (.value v) w')
    (h : AE P N l.toArray S E Q fuel (listed.setIfInBounds i true) (upd F d v) w) : AE P N l.toArray S E Q (fuel + 1) listed F w := by
  simp only [chk0, Bool.and_eq_true] at hb
  obtain ⟨h1, h2, h3, h5⟩ := hb
  have h3 : i ∈ Region.ready .any l.toArray listed := by simpa using h3
  have hi' : l.toArray[i]? = some _ := (by simpa using hi : l.toArray[i]? = some ⟨some d, op, ty, pos, after, none⟩)
  refine ⟨fun hdc ds a ha => ?_⟩
  obtain ⟨_, o, ho, hall⟩ := mem_ready.1 h3
  rw [hi'] at ho
  cases ho
  exact wpAnyE_first2 (fun _ => True) false hi' (Region.noSelect_spec h1) (fun _ _ _ h => h.elim) (.inr ⟨fun _ => trivial, h5⟩) fuel listed a w hdc (fun h => by cases h) (Region.free_spec hi' h2) h3
    (.inl ⟨rfl, fun w' _ => by rw [ha.eval]; exact hy w'⟩) trivial (h.out (dc_set hdc hi' hall) _ _ (ha.put (by simpa using hd) v))
end
end Go.Eng
