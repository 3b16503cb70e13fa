/-
  THE ENGINE: regions that draw their order. Quiet operations are taken first; what is left comes one by one.
-/
import Derived.Test.YbulknocFmtHeap
import Derived.OrdersHeld
namespace Go.Eng
open Go Go.RowKit

/-- Every block that stood stands as it did. -/
structure Ext (w w' : World) : Prop where
  keep : ∀ {b : Nat} {o : Obj}, w.heap[b]? = some o → w'.heap[b]? = some o
theorem Ext.refl (w : World) : Ext w w := ⟨fun h => h⟩
theorem Ext.alloc {w w' : World} (h : Ext w w') (x : Obj) : Ext w (w'.alloc x) := ⟨fun hb => al (h.keep hb)⟩
theorem Ext.drew {w w' : World} (h : Ext w w') (n : Nat) : Ext w (w'.drewN n) := ⟨fun hb => h.keep hb⟩
theorem Ext.trans {w w' w'' : World} (h : Ext w w') (h' : Ext w' w'') : Ext w w'' := ⟨fun hb => h'.keep (h.keep hb)⟩
theorem Ext.of_fr {w w' : World} (h : Fr (fun _ => False) w w') : Ext w w' := ⟨fun hb => h.keep hb id⟩
theorem Ext.cell {w w' : World} (h : Ext w w') {a : Addr} {v : Value} (hc : w.cell? a = some v) : w'.cell? a = some v := by
  have hlt := World.block_lt_of_cell? w a hc
  have hb : w.heap[a.block]? = some w.heap[a.block] := Array.getElem?_eq_getElem hlt
  rw [← hc]
  exact World.cell?_of_block (w := w) ((h.keep hb).trans hb.symm)
theorem Ext.own {w w' : World} (h : Ext w w') {base e size n : Nat} {v : Value} {xs : List Value} (hown : w.ownsRow base e size v n xs) : w'.ownsRow base e size v n xs := by
  refine ⟨hown.1, ?_⟩
  rcases hown.2 with h0 | ⟨g, cap, cur, rfl, hb, hg, r⟩
  · exact .inl h0
  · exact .inr ⟨g, cap, cur, rfl, hb, h.keep hg, r⟩
theorem sz_dn (w : World) (n : Nat) : (w.drewN n).heap.size = w.heap.size := rfl

/-! ### Who waits for whom -/
/-- j waits for i, over at most n steps. -/
def waits (ops : Array Oper) : Nat → Nat → Nat → Bool
  | 0, _, _ => false
  | n + 1, j, i => match ops[j]? with
    | none => false
    | some o => o.after.any fun e => Region.binds .any e && (e.on == i || waits ops n e.on i)
/-- What is listed bears all that it waits for. -/
def dc (ops : Array Oper) (listed : Array Bool) : Prop := ∀ k o, ops[k]? = some o → listed.getD k false = true → ∀ e ∈ o.after, Region.binds .any e = true → listed.getD e.on false = true
theorem waits_listed {ops : Array Oper} {listed : Array Bool} (hd : dc ops listed) : ∀ (n j i : Nat) (o : Oper), ops[j]? = some o → waits ops n j i = true → (∀ e ∈ o.after, Region.binds .any e = true → listed.getD e.on false = true) → listed.getD i false = true
  | 0, _, _, _, _, h, _ => by cases h
  | n + 1, j, i, o, ho, h, hall => by
    simp only [waits, ho, Array.any_eq_true, Bool.and_eq_true, Bool.or_eq_true, beq_iff_eq] at h
    obtain ⟨q, hq, hb, he⟩ := h
    have hm : o.after[q] ∈ o.after := Array.getElem_mem hq
    have hl := hall _ hm hb
    rcases he with he | he
    · rw [← he]; exact hl
    · cases ho' : ops[o.after[q].on]? with
      | none =>
        cases n with
        | zero => cases he
        | succ n => simp [waits, ho'] at he
      | some o' => exact waits_listed hd n _ i o' ho' he (hd _ o' ho' hl)
theorem dc_set {ops : Array Oper} {listed : Array Bool} (hd : dc ops listed) {j : Nat} {oj : Oper} (hj : ops[j]? = some oj) (hall : ∀ e ∈ oj.after, Region.binds .any e = true → listed.getD e.on false = true) : dc ops (listed.setIfInBounds j true) := by
  intro k o hk hl e he hb
  by_cases hkj : k = j
  · subst hkj
    rw [hj] at hk
    cases hk
    exact getD_set_true (hall e he hb)
  · rw [getD_set_ne false (fun h => hkj h.symm)] at hl
    exact getD_set_true (hd k o hk hl e he hb)

section
variable {P : Program} {ops : Array Oper} {Q : Exit → Act → World → Prop} {S : World → Prop} {E : List Nat}

/-- Whatever order is picked from here on; S holds behind every operation that is not of E. -/
def wpAnyE (P : Program) (ops : Array Oper) (Q : Exit → Act → World → Prop) (S : World → Prop) (E : List Nat) : Nat → Array Bool → Act → World → Prop
  | 0, listed, a, w => Region.ready .any ops listed = [] ∧ Q .normal a w
  | fuel + 1, listed, a, w =>
    (Region.ready .any ops listed = [] → Q .normal a w) ∧
    ∀ i ∈ Region.ready .any ops listed, wpOp P ops Q i (fun a' w' => (E.contains i = false → S w') ∧ wpAnyE P ops Q S E fuel (listed.setIfInBounds i true) a' w') a w

theorem wpAny_of_E : ∀ (fuel : Nat) (listed : Array Bool) (a : Act) (w : World), wpAnyE P ops Q S E fuel listed a w → wpAny P .any ops Q fuel listed a w
  | 0, _, _, _, h => h
  | fuel + 1, _, _, _, h => ⟨h.1, fun i hi => wpOp_mono (fun a' w' h' => wpAny_of_E fuel _ a' w' h'.2) (h.2 i hi)⟩

theorem wpAnyE_first {i : Nat} {oi : Oper} {v : Value} (hi : ops[i]? = some oi) (hsel : ∀ (j : Nat) (o : Oper) cs b, ops[j]? = some o → o.op ≠ .select cs b)
    (hQ : ∀ c a w, Q (.panic c) (a.put oi.dst v) w → Q (.panic c) a w) (hE : ∀ j ∈ E, j = i ∨ ∃ n, waits ops n j i = true) :
    ∀ (fuel : Nat) (listed : Array Bool) (a : Act) (w : World), dc ops listed →
      (∀ j oj, ops[j]? = some oj → j ≠ i → listed.getD j true = false → (∀ e ∈ oj.after, Region.binds .any e = true → e.on ≠ i) → oi.apart ops oj = true) →
      i ∈ Region.ready .any ops listed → YieldsIf P ops S oi v a → S w →
      wpAnyE P ops Q S E fuel (listed.setIfInBounds i true) (a.put oi.dst v) w → wpAnyE P ops Q S E (fuel + 1) listed a w := by
  intro fuel
  induction fuel with
  | zero =>
    intro listed a w _ _ hr hy hS H
    refine ⟨fun h => (by rw [h] at hr; cases hr), fun j hj => ?_⟩
    by_cases hji : j = i
    · subst hji; exact hy.wpOp hi hS ⟨fun _ => hS, H⟩
    · have := ready_mono hj hji
      rw [H.1] at this
      cases this
  | succ fuel ih =>
    intro listed a w hdc hfree hr hy hS H
    refine ⟨fun h => (by rw [h] at hr; cases hr), fun j hj => ?_⟩
    by_cases hji : j = i
    · subst hji; exact hy.wpOp hi hS ⟨fun _ => hS, H⟩
    · have h1 := H.2 j (ready_mono hj hji)
      obtain ⟨hjun, oj, hoj, hall⟩ := mem_ready.1 hj
      have hiun : listed.getD i false = false := by
        have h0 := (mem_ready.1 hr).1
        rcases Nat.lt_or_ge i listed.size with h' | h'
        · simp [h'] at h0 ⊢; exact h0
        · simp [Array.getElem?_eq_none h']
      have hnot : ∀ e ∈ oj.after, Region.binds .any e = true → e.on ≠ i := fun e he hb heq => by
        have h1 := hall e he hb
        rw [heq, hiun] at h1
        cases h1
      have hjE : E.contains j = false := by
        cases hc : E.contains j with
        | false => rfl
        | true =>
          rcases hE j (by simpa using hc) with h | ⟨n, hn⟩
          · exact absurd h hji
          · have := waits_listed hdc n j i oj hoj hn hall
            rw [hiun] at this
            cases this
      have h2 := wpOp_putIf hoj (hfree j oj hoj hji hjun hnot) (fun cs b => hsel i oi cs b hi) (fun cs b => hsel j oj cs b hoj) hQ hy h1
      have hfree' : ∀ k ok, ops[k]? = some ok → k ≠ i → (listed.setIfInBounds j true).getD k true = false →
          (∀ e ∈ ok.after, Region.binds .any e = true → e.on ≠ i) → oi.apart ops ok = true := fun k ok hk hki hun hno => by
        refine hfree k ok hk hki ?_ hno
        by_cases hjk : j = k
        · subst hjk; exact hjun
        · rw [getD_set_ne true hjk] at hun; exact hun
      refine wpOp_mono (fun a' w' h3 => ⟨h3.2.1, ih (listed.setIfInBounds j true) a' w' (dc_set hdc hoj hall) hfree' (ready_mono hr (Ne.symm hji)) h3.1 (h3.2.1 hjE) ?_⟩) h2
      rw [Array.setIfInBounds_comm _ _ hji]
      exact h3.2.2
end

/-! ### The judgement -/
def lift' (N : Nat) (ds : List Deferred) (Q : Post) : Exit → Act → World → Prop
  | .panic _, _, _ => False
  | .outgrown, _, _ => False
  | e, a, w => lift N ds Q e a w
theorem lift'_imp {N : Nat} {ds : List Deferred} {Q : Post} : ∀ e a w, lift' N ds Q e a w → lift N ds Q e a w
  | .panic _, _, _, h => h.elim
  | .normal, _, _, h => h
  | .exit _, _, _, h => h
  | .goto _, _, _, h => h
  | .ret, _, _, h => h
  | .outgrown, _, _, h => h.elim

structure AE (P : Program) (N : Nat) (ops : Array Oper) (S : World → Prop) (E : List Nat) (Q : Post) (fuel : Nat) (listed : Array Bool) (F : Nat → Value) (w : World) : Prop where
  out : dc ops listed → ∀ ds a, Rep N ds a F → wpAnyE P ops (lift' N ds Q) S E fuel listed a w

/-- What a quiet operation that is taken first must meet: closed. -/
def chk (l : List Oper) (listed : Array Bool) (E : List Nat) (i : Nat) : Bool :=
  Region.noSelect l.toArray && (Region.free .any l.toArray listed i && ((Region.ready .any l.toArray listed).contains i && E.all fun j => j == i || waits l.toArray l.length j i))
theorem chk_spec {l : List Oper} {listed : Array Bool} {E : List Nat} {i : Nat} (h : chk l listed E i = true) :
    Region.noSelect l.toArray = true ∧ Region.free .any l.toArray listed i = true ∧ i ∈ Region.ready .any l.toArray listed ∧ ∀ j ∈ E, j = i ∨ ∃ n, waits l.toArray n j i = true := by
  simp only [chk, Bool.and_eq_true, List.all_eq_true, Bool.or_eq_true, beq_iff_eq] at h
  obtain ⟨h1, h2, h3, h4⟩ := h
  exact ⟨h1, h2, by simpa using h3, fun j hj => (h4 j hj).imp id fun h => ⟨_, h⟩⟩

section
variable {P : Program} {N : Nat} {Q : Post} {F : Nat → Value} {w : World} {l : List Oper} {S : World → Prop} {E : List Nat} {fuel : Nat} {listed : Array Bool} {op : Op} {ty : TypeId} {pos : String} {after : Array Edge}

theorem dc0 (ops : Array Oper) (n : Nat) : dc ops (Array.replicate n false) := by
  intro k o _ hl
  simp [Array.getD_eq_getD_getElem?, Array.getElem?_replicate] at hl
  split at hl <;> simp at hl

theorem WP.draw {id : Nat} (E : List Nat) (hm : P.follows .mixedOrders = true) (h : AE P N l.toArray (Ext w) E Q l.length (Array.replicate l.length false) F (w.drewN 1)) : WP P N (.region id l.toArray true) Q F w := by
  refine ⟨fun ds a ha => Code.wp_mono lift'_imp (wp_region_any hm (wpAny_of_E _ _ _ _ (S := Ext w) (E := E) ?_))⟩
  have := h.out (dc0 _ _) ds a ha
  have e : w.drewN 1 = w.drew := rfl
  rw [e] at this
  simpa using this

/-- Nothing is left. -/
theorem AE.nil (hr : Region.ready .any l.toArray listed = []) (h : Q .normal F w) : AE P N l.toArray S E Q fuel listed F w := by
  refine ⟨fun _ ds a ha => ?_⟩
  have hq : lift' N ds Q .normal a w := ⟨F, ha, h⟩
  cases fuel with
  | zero => exact ⟨hr, hq⟩
  | succ n => exact ⟨fun _ => hq, by rw [hr]; simp⟩

theorem AE.step {i : Nat} {oi : Oper} {v : Value} {F' : Nat → Value} (hi : l[i]? = some oi) (hb : chk l listed E i = true) (hF : ∀ ds a, Rep N ds a F → Rep N ds (a.put oi.dst v) F') (hy : ∀ ds a, Rep N ds a F → YieldsIf P l.toArray S oi v a) (hS : S w)
    (h : AE P N l.toArray S E Q fuel (listed.setIfInBounds i true) F' w) : AE P N l.toArray S E Q (fuel + 1) listed F w := by
  obtain ⟨h1, h2, h3, h4⟩ := chk_spec hb
  have hi' : l.toArray[i]? = some oi := by simpa using hi
  refine ⟨fun hdc ds a ha => ?_⟩
  obtain ⟨_, o, ho, hall⟩ := mem_ready.1 h3
  rw [hi'] at ho
  cases ho
  exact wpAnyE_first hi' (Region.noSelect_spec h1) (fun _ _ _ h => h.elim) h4 fuel listed a w hdc (Region.free_spec hi' h2) h3 (hy ds a ha) hS (h.out (dc_set hdc hi' hall) _ _ (hF ds a ha))

/-- A quiet operation, taken first. -/
theorem AE.take (i : Nat) {d : Nat} {v : Value} (hi : l[i]? = some ⟨some d, op, ty, pos, after, none⟩) (hb : chk l listed E i = true) (hd : Nat.blt d N = true) (hy : ∀ w', S w' → ex P (ev F) op ty w' = .ok (.value v) w') (hS : S w)
    (h : AE P N l.toArray S E Q fuel (listed.setIfInBounds i true) (upd F d v) w) : AE P N l.toArray S E Q (fuel + 1) listed F w :=
  AE.step hi hb (fun _ _ ha => ha.put (by simpa using hd) v) (fun _ a ha => .inl ⟨rfl, fun w' hw' => by rw [ha.eval]; exact hy w' hw'⟩) hS h
/-- The same, guarded, its guard saying yes. -/
theorem AE.takeg (i : Nat) {d j dj : Nat} {want : Bool} {v : Value} (hi : l[i]? = some ⟨some d, op, ty, pos, after, some (j, want)⟩) (hb : chk l listed E i = true) (hd : Nat.blt d N = true) (hj : (l.toArray[j]?).bind (·.dst) = some dj) (hg : F dj = .bool want)
    (hy : ∀ w', S w' → ex P (ev F) op ty w' = .ok (.value v) w') (hS : S w)
    (h : AE P N l.toArray S E Q fuel (listed.setIfInBounds i true) (upd F d v) w) : AE P N l.toArray S E Q (fuel + 1) listed F w :=
  AE.step hi hb (fun _ _ ha => ha.put (by simpa using hd) v) (fun _ a ha => .inl ⟨by simp only [Region.wanted, yielded_of ha hj hg]; cases want <;> rfl, fun w' hw' => by rw [ha.eval]; exact hy w' hw'⟩) hS h
/-- Guarded, its guard saying no. -/
theorem AE.skipg (i : Nat) {d j dj : Nat} {want b : Bool} (hi : l[i]? = some ⟨some d, op, ty, pos, after, some (j, want)⟩) (hb : chk l listed E i = true) (hd : Nat.blt d N = true) (hj : (l.toArray[j]?).bind (·.dst) = some dj) (hg : F dj = .bool b) (hne : want = !b) (hS : S w)
    (h : AE P N l.toArray S E Q fuel (listed.setIfInBounds i true) (upd F d undef) w) : AE P N l.toArray S E Q (fuel + 1) listed F w :=
  AE.step hi hb (fun _ _ ha => ha.put (by simpa using hd) undef) (fun _ a ha => .inr ⟨by subst hne; simp only [Region.wanted, yielded_of ha hj hg]; cases b <;> rfl, rfl⟩) hS h

/-- The one operation that may come up. -/
theorem AE.one {i : Nat} {oi : Oper} (hi : l[i]? = some oi) (hg : oi.guard = none) (hr : Region.ready .any l.toArray listed = [i])
    (h : dc l.toArray (listed.setIfInBounds i true) → ∀ ds a, Rep N ds a F → ∀ K : Act → World → Prop, (∀ a' w', (E.contains i = false → S w') → wpAnyE P l.toArray (lift' N ds Q) S E fuel (listed.setIfInBounds i true) a' w' → K a' w') → oi.wp P a w K (lift' N ds Q)) :
    AE P N l.toArray S E Q (fuel + 1) listed F w := by
  have hi' : l.toArray[i]? = some oi := by simpa using hi
  refine ⟨fun hdc ds a ha => ⟨fun h0 => (by rw [hr] at h0; cases h0), ?_⟩⟩
  rw [hr]
  intro j hj
  rw [List.mem_singleton] at hj
  subst hj
  have hm : j ∈ Region.ready .any l.toArray listed := by rw [hr]; exact List.mem_singleton.2 rfl
  obtain ⟨_, o, ho, hall⟩ := mem_ready.1 hm
  rw [hi'] at ho
  cases ho
  refine wpOp_step hi' fun K' hK => ?_
  rw [if_pos (by simp [Region.wanted, hg])]
  exact h (dc_set hdc hi' hall) ds a ha K' (fun a' w' h1 h2 => hK a' w' ⟨h1, h2⟩)

theorem AE.val (i : Nat) {d : Nat} {v : Value} {w' : World} (hi : l[i]? = some ⟨some d, op, ty, pos, after, none⟩) (hr : Region.ready .any l.toArray listed = [i]) (hd : Nat.blt d N = true) (hx : ex P (ev F) op ty w = .ok (.value v) w') (hS : E.contains i = false → S w')
    (h : AE P N l.toArray S E Q fuel (listed.setIfInBounds i true) (upd F d v) w') : AE P N l.toArray S E Q (fuel + 1) listed F w := by
  refine AE.one hi rfl hr fun hdc ds a ha K hK => ?_
  have hr' : (execOp a.eval ⟨some d, op, ty, pos, after, none⟩).run P w = .ok (.value v) w' := by rw [ha.eval]; exact hx
  unfold Oper.wp
  rw [hr']
  exact hK _ _ hS (h.out hdc _ _ (ha.put (by simpa using hd) v))
theorem AE.unit (i : Nat) {w' : World} (hi : l[i]? = some ⟨none, op, ty, pos, after, none⟩) (hr : Region.ready .any l.toArray listed = [i]) (hx : ex P (ev F) op ty w = .ok .skip w') (hS : E.contains i = false → S w')
    (h : AE P N l.toArray S E Q fuel (listed.setIfInBounds i true) F w') : AE P N l.toArray S E Q (fuel + 1) listed F w := by
  refine AE.one hi rfl hr fun hdc ds a ha K hK => ?_
  have hr' : (execOp a.eval ⟨none, op, ty, pos, after, none⟩).run P w = .ok .skip w' := by rw [ha.eval]; exact hx
  unfold Oper.wp
  rw [hr']
  exact hK _ _ hS (h.out hdc _ _ ha)
theorem AE.val0 (i : Nat) {v : Value} {w' : World} (hi : l[i]? = some ⟨none, op, ty, pos, after, none⟩) (hr : Region.ready .any l.toArray listed = [i]) (hx : ex P (ev F) op ty w = .ok (.value v) w') (hS : E.contains i = false → S w')
    (h : AE P N l.toArray S E Q fuel (listed.setIfInBounds i true) F w') : AE P N l.toArray S E Q (fuel + 1) listed F w := by
  refine AE.one hi rfl hr fun hdc ds a ha K hK => ?_
  have hr' : (execOp a.eval ⟨none, op, ty, pos, after, none⟩).run P w = .ok (.value v) w' := by rw [ha.eval]; exact hx
  unfold Oper.wp
  rw [hr']
  exact hK _ _ hS (h.out hdc _ _ ha)
theorem AE.call (i : Nat) {d : Nat} {f : FuncId} {args : Array Value} {w' : World} {R : Value → World → Prop} (hi : l[i]? = some ⟨some d, op, ty, pos, after, none⟩) (hr : Region.ready .any l.toArray listed = [i]) (hd : Nat.blt d N = true)
    (hx : ex P (ev F) op ty w = .ok (.enter f args) w') (hc : Calls P f args w' fun e w'' => ∃ v, e = .returned v ∧ R v w'') 
    (h : ∀ v w'', R v w'' → (E.contains i = false → S w'') ∧ AE P N l.toArray S E Q fuel (listed.setIfInBounds i true) (upd F d v) w'') : AE P N l.toArray S E Q (fuel + 1) listed F w := by
  refine AE.one hi rfl hr fun hdc ds a ha K hK => ?_
  have hr' : (execOp a.eval ⟨some d, op, ty, pos, after, none⟩).run P w = .ok (.enter f args) w' := by rw [ha.eval]; exact hx
  unfold Oper.wp
  rw [hr', Oper.upon_enter]
  refine hc.mono ?_
  rintro e w'' ⟨v, rfl, hR⟩
  exact hK _ _ (h v w'' hR).1 ((h v w'' hR).2.out hdc _ _ (ha.put (by simpa using hd) v))

theorem AE.append1 (i : Nat) (base : Nat) {d : Nat} {t e : TypeId} {z : Value} {size bytes : Nat} {s x : Operand} {v : Value} {n : Nat} {xs : List Value} {b c' : Nat} {c : Array Value} {T : TypeId} {fz : Nat × Nat}
    (hi : l[i]? = some ⟨some d, .call { callee := .builtin .append, args := #[s, x], argTypes := #[t, t] }, ty, pos, after, none⟩) (hr : Region.ready .any l.toArray listed = [i]) (hd : Nat.blt d N = true) (ht : P.underlying t = some (.slice e))
    (hin : (P.info? e).map (fun i => (i.zero, i.size, i.bytes)) = some (some z, size, bytes)) (hzs : z.cells.size = size) (hsz : Nat.blt 0 size = true) (hby : Nat.ble bytes 100000 = true)
    (hs : ev F s = v) (hx : ev F x = .slice (some ⟨b, 0, none⟩) 1 c') (hown : w.ownsRow base e size v n xs) (hb : w.heap[b]? = some (.cells c T fz)) (hc : c.size = size) (h1 : c.toList.all Value.oneCell' = true) (hn : n < 1000000000) (hbase : base ≤ w.heap.size)
    (h : ∀ v' w', w'.ownsRow base e size v' (n + 1) (xs ++ c.toList) → w.grownBy w' v.ownBlock → (∃ g cap, v' = .slice (some ⟨g, 0, none⟩) (n + 1) cap) → (E.contains i = false → S w') ∧ AE P N l.toArray S E Q fuel (listed.setIfInBounds i true) (upd F d v') w') :
    AE P N l.toArray S E Q (fuel + 1) listed F w := by
  have hsz' : 0 < size := by simpa using hsz
  have hby' : bytes ≤ 100000 := by simpa using hby
  obtain ⟨i0, hi0, hz, hsize, hbyt⟩ := info_parts hin
  have hmul : (n + 1) * bytes ≤ 1000000000 * 100000 := Nat.mul_le_mul (by omega) hby'
  obtain ⟨v', w', hrr, h2, h3, h4⟩ := ex_append (P := P) (ρ := ev F) (w := w) (ty := ty) base ht hi0 hz hsize hbyt hzs hsz' hs hown (news := c.toList) hx (by simp [hc])
    (fun j u hj => by rw [add_lit, Nat.zero_add]; exact cellOf hb (by simpa using hj)) (fun u hu => List.all_eq_true.1 h1 u hu) (by simp only [maxLen]; omega) (by omega) hbase
  have hv : ∃ g cap, v' = .slice (some ⟨g, 0, none⟩) (n + 1) cap := by
    rcases h2.2 with ⟨_, h0⟩ | ⟨g, cap, cur, hv, _⟩
    · omega
    · exact ⟨g, cap, hv⟩
  exact AE.val i hi hr hd hrr (h v' w' h2 h3 hv).1 (h v' w' h2 h3 hv).2
end
end Go.Eng
