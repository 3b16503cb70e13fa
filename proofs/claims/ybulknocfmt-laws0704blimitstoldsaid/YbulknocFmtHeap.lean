/-
  THE ENGINE: what becomes of blocks.
-/
import Derived.Test.YbulknocFmtOps
namespace Go.Eng
open Go Go.RowKit

section
variable {w w' w'' : World} {b g : Nat} {o : Obj}

theorem lt_of (h : w.heap[b]? = some o) : b < w.heap.size := (Array.getElem?_eq_some_iff.1 h).1
theorem al {x : Obj} (h : w.heap[b]? = some o) : (w.alloc x).heap[b]? = some o := (Below.heap_alloc w x b (lt_of h)).trans h
theorem an (w : World) (x : Obj) : (w.alloc x).heap[w.heap.size]? = some x := by show (w.heap.push x)[w.heap.size]? = some x; simp
theorem an' {x : Obj} {q : Nat} (hq : w.heap.size = q) : (w.alloc x).heap[q]? = some x := by subst hq; exact an w x
theorem sr_eq {c cs : Array Value} {T : TypeId} {fz : Nat × Nat} (h : w.heap[b]? = some (.cells c T fz)) : (w.setRow b cs).heap[b]? = some (.cells cs T fz) := setRow_heap w b c cs T fz h
theorem sr_ne {cs : Array Value} (h : w.heap[b]? = some o) (hne : b ≠ g) : (w.setRow g cs).heap[b]? = some o := (setRow_other w g b cs hne).trans h
theorem sz_al (w : World) (x : Obj) : (w.alloc x).heap.size = w.heap.size + 1 := by simp
theorem sz_sr (w : World) (g : Nat) (cs : Array Value) : (w.setRow g cs).heap.size = w.heap.size := by simp
theorem gk {row : Option Nat} (hg : w.grownBy w' row) (hne : some b ≠ row) (h : w.heap[b]? = some o) : w'.heap[b]? = some o := (hg.block b (lt_of h) hne).trans h
/-- Blocks of two element types are two blocks. -/
theorem own_ne {base e size n : Nat} {v : Value} {xs : List Value} {c : Array Value} {T : TypeId} {fz : Nat × Nat} (hown : w.ownsRow base e size v n xs) (h : w.heap[b]? = some (.cells c T fz)) (hT : Nat.beq T e = false) : some b ≠ v.ownBlock := by
  have hT' : T ≠ e := fun he => by subst he; rw [Nat.beq_refl] at hT; cases hT
  rcases hown.2 with ⟨rfl, _⟩ | ⟨g, cap, cur, rfl, _, hg, _⟩
  · simp [Value.ownBlock]
  · intro he
    simp only [Value.ownBlock, Option.some.injEq] at he
    subst he
    rw [hg] at h
    cases h
    exact hT' rfl
theorem own_ge {base e size n : Nat} {v : Value} {xs : List Value} (hown : w.ownsRow base e size v n xs) (h : w.heap.size ≤ b) : some b ≠ v.ownBlock := by
  intro he
  have := (hown.lt b he.symm).2
  omega
theorem own_ne_lt {base e size n : Nat} {v : Value} {xs : List Value} (hown : w.ownsRow base e size v n xs) (h : b < base) : some b ≠ v.ownBlock := by
  intro he
  have := (hown.lt b he.symm).1
  omega
theorem ne_of_type {c c' : Array Value} {T T' : TypeId} {fz fz' : Nat × Nat} (h : w.heap[b]? = some (.cells c T fz)) (h' : w.heap[g]? = some (.cells c' T' fz')) (hT : Nat.beq T T' = false) : b ≠ g := by
  rintro rfl
  rw [h] at h'
  cases h'
  rw [Nat.beq_refl] at hT
  cases hT

theorem own_sr {base e size n : Nat} {v : Value} {xs : List Value} {cs : Array Value} (hown : w.ownsRow base e size v n xs) (hne : some g ≠ v.ownBlock) : (w.setRow g cs).ownsRow base e size v n xs := by
  refine ⟨hown.1, ?_⟩
  rcases hown.2 with h0 | ⟨k, cap, cur, rfl, hb, hg, r⟩
  · exact .inl h0
  · exact .inr ⟨k, cap, cur, rfl, hb, sr_ne hg (fun e => hne (by rw [e]; rfl)), r⟩
theorem own_base {base base' e size n : Nat} {v : Value} {xs : List Value} (h : w.ownsRow base e size v n xs) (hb : base' ≤ base) : w.ownsRow base' e size v n xs := by
  refine ⟨h.1, ?_⟩
  rcases h.2 with h0 | ⟨k, cap, cur, rfl, hk, r⟩
  · exact .inl h0
  · exact .inr ⟨k, cap, cur, rfl, Nat.le_trans hb hk, r⟩
/-- Two owned rows of two element types are two rows. -/
theorem own_own_ne {base e size n base' e' size' n' : Nat} {v v' : Value} {xs xs' : List Value} (h : w.ownsRow base e size v n xs) (h' : w.ownsRow base' e' size' v' n' xs') (he : Nat.beq e e' = false) : v.ownBlock = none ∨ v.ownBlock ≠ v'.ownBlock := by
  rcases h.2 with ⟨rfl, _⟩ | ⟨k, cap, cur, rfl, _, hg, _⟩
  · exact .inl rfl
  · exact .inr (own_ne h' hg he)
theorem own_gk {base e size n base' e' size' n' : Nat} {v v' : Value} {xs xs' : List Value} (h : w.ownsRow base e size v n xs) (hg : w.grownBy w' v'.ownBlock) (h' : w.ownsRow base' e' size' v' n' xs') (he : Nat.beq e e' = false) : w'.ownsRow base e size v n xs :=
  h.kept hg (own_own_ne h h' he)
/-! ### What a call may have turned: the blocks of S, and new ones -/
structure Fr (S : Nat → Prop) (w w' : World) : Prop where
  os : w'.os = w.os
  tape : w'.tape = w.tape
  output : w'.output = w.output
  size : w.heap.size ≤ w'.heap.size
  block : ∀ k, k < w.heap.size → ¬ S k → w'.heap[k]? = w.heap[k]?

theorem Fr.refl {S : Nat → Prop} (w : World) : Fr S w w := ⟨rfl, rfl, rfl, Nat.le_refl _, fun _ _ _ => rfl⟩
theorem Fr.trans {S S' : Nat → Prop} (h : Fr S w w') (h' : Fr S' w' w'') (hs : ∀ k, k < w.heap.size → S' k → S k) : Fr S w w'' :=
  ⟨h'.os.trans h.os, h'.tape.trans h.tape, h'.output.trans h.output, Nat.le_trans h.size h'.size,
    fun k hk hn => (h'.block k (Nat.lt_of_lt_of_le hk h.size) (fun e => hn (hs k hk e))).trans (h.block k hk hn)⟩
theorem Fr.mono {S S' : Nat → Prop} (h : Fr S w w') (hs : ∀ k, k < w.heap.size → S k → S' k) : Fr S' w w' :=
  ⟨h.os, h.tape, h.output, h.size, fun k hk hn => h.block k hk (fun e => hn (hs k hk e))⟩
theorem Fr.alloc {S : Nat → Prop} (h : Fr S w w') (x : Obj) : Fr S w (w'.alloc x) :=
  ⟨h.os, h.tape, h.output, by rw [sz_al]; have := h.size; omega, fun k hk hn => (Below.heap_alloc w' x k (Nat.lt_of_lt_of_le hk h.size)).trans (h.block k hk hn)⟩
theorem Fr.set {S : Nat → Prop} (h : Fr S w w') (g : Nat) (cs : Array Value) (hg : g < w.heap.size → S g) : Fr S w (w'.setRow g cs) :=
  ⟨h.os, h.tape, h.output, by rw [sz_sr]; exact h.size, fun k hk hn => (setRow_other w' g k cs (fun e => hn (by subst e; exact hg hk))).trans (h.block k hk hn)⟩
theorem Fr.drew {S : Nat → Prop} (h : Fr S w w') (n : Nat) : Fr S w (w'.drewN n) := ⟨h.os, h.tape, h.output, h.size, h.block⟩
theorem Fr.grown {S : Nat → Prop} {row : Option Nat} (h : Fr S w w') (hg : w'.grownBy w'' row) (hr : ∀ k, row = some k → k < w.heap.size → S k) : Fr S w w'' :=
  ⟨hg.os.trans h.os, hg.tape.trans h.tape, hg.output.trans h.output, Nat.le_trans h.size hg.size,
    fun k hk hn => (hg.block k (Nat.lt_of_lt_of_le hk h.size) (fun e => hn (hr k e.symm hk))).trans (h.block k hk hn)⟩
theorem Fr.keep {S : Nat → Prop} (h : Fr S w w') (hb : w.heap[b]? = some o) (hn : ¬ S b) : w'.heap[b]? = some o := (h.block b (lt_of hb) hn).trans hb
theorem Fr.below {B : Nat} (h : Fr (fun k => B ≤ k) w w') (hB : B ≤ w.heap.size) : Below B w w' :=
  ⟨h.os, h.tape, h.output, h.size, fun k hk => h.block k (by omega) (by omega)⟩
theorem Fr.cell {S : Nat → Prop} (h : Fr S w w') {a : Addr} {v : Value} (hc : w.cell? a = some v) (hn : ¬ S a.block) : w'.cell? a = some v :=
  (World.cell?_of_block (h.block a.block (World.block_lt_of_cell? w a hc) hn)).trans hc
theorem Fr.own {S : Nat → Prop} {base e size n : Nat} {v : Value} {xs : List Value} (h : Fr S w w') (hown : w.ownsRow base e size v n xs) (hn : ∀ k, v.ownBlock = some k → ¬ S k) : w'.ownsRow base e size v n xs := by
  refine ⟨hown.1, ?_⟩
  rcases hown.2 with h0 | ⟨g, cap, cur, rfl, hb, hg, r⟩
  · exact .inl h0
  · exact .inr ⟨g, cap, cur, rfl, hb, h.keep hg (hn g rfl), r⟩
end

/-! ### Behind an append of one element: the element was laid first -/
section
variable {w w' : World} {b : Nat} {x : Obj} {base e size n : Nat} {v : Value} {xs : List Value}
theorem gka {c : Array Value} {T : TypeId} {fz : Nat × Nat} (hg : (w.alloc x).grownBy w' v.ownBlock) (hown : w.ownsRow base e size v n xs) (h : w.heap[b]? = some (.cells c T fz)) (hT : Nat.beq T e = false) : w'.heap[b]? = some (.cells c T fz) :=
  gk hg (own_ne (hown.alloc x) (al h) hT) (al h)
theorem gkn {o : Obj} (hg : (w.alloc x).grownBy w' v.ownBlock) (hne : some b ≠ v.ownBlock) (h : w.heap[b]? = some o) : w'.heap[b]? = some o := gk hg hne (al h)
theorem own_gka {base' e' size' n' : Nat} {v' : Value} {xs' : List Value} (h : w.ownsRow base' e' size' v' n' xs') (hg : (w.alloc x).grownBy w' v.ownBlock) (hown : w.ownsRow base e size v n xs) (he : Nat.beq e' e = false) : w'.ownsRow base' e' size' v' n' xs' :=
  own_gk (h.alloc x) hg (hown.alloc x) he
theorem Fr.growna {S : Nat → Prop} {w0 : World} {row : Option Nat} (h : Fr S w0 w) (hg : (w.alloc x).grownBy w' row) (hr : ∀ k, row = some k → k < w0.heap.size → S k) : Fr S w0 w' := (h.alloc x).grown hg hr
end

/-! ### A slice of one element that is laid -/
theorem foldl_set (off : Nat) : ∀ (vs : List Value) (k : Nat) (c : Array Value) (i : Nat), off + k + vs.length ≤ c.size →
    ((vs.zipIdx k).foldl (fun cs (p : Value × Nat) => cs.setIfInBounds (off + p.2) p.1) c)[i]? = if off + k ≤ i ∧ i < off + k + vs.length then vs[i - (off + k)]? else c[i]?
  | [], k, c, i, _ => by
    simp only [List.zipIdx_nil, List.foldl_nil, List.length_nil, Nat.add_zero]
    rw [if_neg (by omega)]
  | v :: vs, k, c, i, h => by
    simp only [List.length_cons] at h
    rw [List.zipIdx_cons, List.foldl_cons, foldl_set off vs (k + 1) _ i (by simp; omega)]
    simp only [List.length_cons]
    by_cases h1 : i = off + k
    · subst h1
      rw [if_neg (by omega), if_pos (by omega), Array.getElem?_setIfInBounds_self, if_pos (by omega)]
      simp
    · by_cases h2 : off + (k + 1) ≤ i ∧ i < off + (k + 1) + vs.length
      · rw [if_pos h2, if_pos (by omega)]
        rw [show i - (off + k) = (i - (off + (k + 1))) + 1 from by omega]
        simp
      · rw [if_neg h2, if_neg (by omega)]
        rw [Array.getElem?_setIfInBounds_ne (by omega)]
theorem foldl_all (vs c : Array Value) (h : vs.size = c.size) : (vs.zipIdx.foldl (fun cs (p : Value × Nat) => cs.setIfInBounds (0 + p.2) p.1) c) = vs := by
  apply Array.ext_getElem?
  intro i
  have := foldl_set 0 vs.toList 0 c i (by simp [h])
  rw [← Array.foldl_toList, Array.toList_zipIdx, this]
  simp only [Nat.add_zero, Nat.zero_add, Nat.zero_le, true_and, Nat.sub_zero, Array.length_toList, Array.getElem?_toList]
  split
  · rfl
  · rename_i hi
    rw [Array.getElem?_eq_none (by omega), Array.getElem?_eq_none (by omega)]
section
variable {P : Program} {ρ : Operand → Value} {w : World} {ty : TypeId}
theorem ex_buildSlice1 {t e n : Nat} {z : Value} {x : Operand} {v : Value} (hx : ρ x = v) (ht : P.underlying t = some (.slice e)) (hn : (P.info? e).map (·.size) = some n) (hz : zeroOf P e = some z) (hv : v.cells.size = n) (hpos : Nat.blt 0 n = true) (hle : Nat.ble n 16777216 = true) {q : Nat} (hq : w.heap.size = q) :
    ex P ρ (.buildSlice t 1 #[(0, x)]) ty w = .ok (.value (.slice (some ⟨q, 0, none⟩) 1 1)) (w.alloc (.cells v.cells e)) := by
  subst hq
  subst hx
  have hle' : n ≤ 16777216 := by simpa using hle
  have hfill : ∀ c : Array Value, c.size = n → Instr.fill (fun i => some (i * n, n)) c [(0, ρ x)] = some (ρ x).cells := by
    intro c hc
    unfold Instr.fill
    simp only [Nat.zero_mul, hv, ne_eq, not_true_eq_false, decide_false, Bool.false_or, Nat.zero_add, hc, Nat.lt_irrefl, gt_iff_lt, if_false, Bool.false_eq_true, Instr.fill]
    congr 1
    have := foldl_all (ρ x).cells c (by rw [hv, hc])
    simpa using this
  unfold ex execOp
  have h0 : n ≠ 0 := by have : 0 < n := by simpa using hpos
                        omega
  have h1 := hfill ((Array.range n).map fun i => z.cells[i % z.cells.size]!) (by simp)
  simp [Instr.buildSlice, run_underlying ht, run_sizeOf hn, run_zeroValue hz, h0, h1, newRow, Nat.not_lt.2 hle']
end

/-! ### append, of one element -/
section
variable {P : Program} {N : Nat} {Q : Post} {F : Nat → Value} {w : World} {ops : Array Oper} {rest : List Oper} {ty : TypeId} {pos : String} {after : Array Edge}
theorem RL.append1 (base : Nat) {d : Nat} {t e : TypeId} {z : Value} {size bytes : Nat} {s x : Operand} {v : Value} {n : Nat} {xs : List Value} {b c' : Nat} {c : Array Value} {T : TypeId} {fz : Nat × Nat} (hd : Nat.blt d N = true) (ht : P.underlying t = some (.slice e))
    (hin : (P.info? e).map (fun i => (i.zero, i.size, i.bytes)) = some (some z, size, bytes)) (hzs : z.cells.size = size) (hsz : Nat.blt 0 size = true) (hby : Nat.ble bytes 100000 = true)
    (hs : ev F s = v) (hx : ev F x = .slice (some ⟨b, 0, none⟩) 1 c') (hown : w.ownsRow base e size v n xs) (hb : w.heap[b]? = some (.cells c T fz)) (hc : c.size = size) (h1 : c.toList.all Value.oneCell' = true) (hn : n < 1000000000) (hbase : base ≤ w.heap.size)
    (h : ∀ v' w', w'.ownsRow base e size v' (n + 1) (xs ++ c.toList) → w.grownBy w' v.ownBlock → (∃ g cap, v' = .slice (some ⟨g, 0, none⟩) (n + 1) cap) → RL P N ops rest Q (upd F d v') w') :
    RL P N ops (⟨some d, .call { callee := .builtin .append, args := #[s, x], argTypes := #[t, t] }, ty, pos, after, none⟩ :: rest) Q F w := by
  have hsz' : 0 < size := by simpa using hsz
  have hby' : bytes ≤ 100000 := by simpa using hby
  obtain ⟨i, hi, hz, hsize, hbyt⟩ := info_parts hin
  have hmul : (n + 1) * bytes ≤ 1000000000 * 100000 := Nat.mul_le_mul (by omega) hby'
  obtain ⟨v', w', hr, h2, h3, h4⟩ := ex_append (P := P) (ρ := ev F) (w := w) (ty := ty) base ht hi hz hsize hbyt hzs hsz' hs hown (news := c.toList) hx (by simp [hc])
    (fun j u hj => by rw [add_lit, Nat.zero_add]; exact cellOf hb (by simpa using hj)) (fun u hu => List.all_eq_true.1 h1 u hu) (by simp only [maxLen]; omega) (by omega) hbase
  refine RL.val hd hr (h v' w' h2 h3 ?_)
  rcases h2.2 with ⟨_, h0⟩ | ⟨g, cap, cur, hv, _⟩
  · omega
  · exact ⟨g, cap, hv⟩
end

/-! ### Rows of one length -/
theorem flatMap_len {α : Type} (f : α → List Value) (k : Nat) (hf : ∀ x, (f x).length = k) (l : List α) : (l.flatMap f).length = l.length * k := by
  induction l with
  | nil => simp
  | cons x l ih => simp [ih, hf, Nat.add_mul, Nat.add_comm]
theorem flatMap_row {α : Type} (f : α → List Value) (k : Nat) (hf : ∀ x, (f x).length = k) : ∀ (l : List α) (j : Nat) (x : α), l[j]? = some x → ((l.flatMap f).drop (j * k)).take k = f x
  | [], j, x, h => by simp at h
  | y :: l, 0, x, h => by
    simp only [List.getElem?_cons_zero, Option.some.injEq] at h
    subst h
    simp only [Nat.zero_mul, List.drop_zero, List.flatMap_cons]
    rw [← hf y, List.take_left']
    rfl
  | y :: l, j + 1, x, h => by
    simp only [List.getElem?_cons_succ] at h
    have ih := flatMap_row f k hf l j x h
    rw [List.flatMap_cons]
    rw [show (j + 1) * k = (f y).length + j * k from by rw [hf, Nat.add_mul]; omega]
    rw [List.drop_append, List.drop_of_length_le (by omega), List.nil_append, Nat.add_sub_cancel_left]
    exact ih
theorem take_row {α : Type} {f : α → List Value} {k : Nat} (hf : ∀ x, (f x).length = k) {l : List α} {c : List Value} {n : Nat} (hc : c.take (n * k) = l.flatMap f) (hn : l.length = n) {j : Nat} {x : α} (h : l[j]? = some x) : (c.drop (j * k)).take k = f x := by
  have hj : j < n := by
    rw [← hn]
    exact (List.getElem?_eq_some_iff.1 h).1
  have h1 := flatMap_row f k hf l j x h
  rw [← hc] at h1
  rw [List.drop_take, List.take_take] at h1
  rw [← h1]
  congr 1
  have : k ≤ n * k - j * k := by
    rw [← Nat.sub_mul]
    exact Nat.le_mul_of_pos_left k (by omega)
  omega
/-- An owned row, opened: its block, its rows. -/
theorem own_open {α : Type} {w : World} {base e k n : Nat} {v : Value} {l : List α} {f : α → List Value} (hf : ∀ x, (f x).length = k) (hown : w.ownsRow base e k v n (l.flatMap f)) (hk : 0 < k) (hn : 0 < n) :
    l.length = n ∧ ∃ g cap cur, v = .slice (some ⟨g, 0, none⟩) n cap ∧ base ≤ g ∧ w.heap[g]? = some (.cells cur e (0, 0)) ∧ n ≤ cap ∧ ∀ (j : Nat) (x : α), l[j]? = some x → (cur.toList.drop (j * k)).take k = f x := by
  have hlen : l.length = n := by
    have h1 := hown.1
    rw [flatMap_len f k hf] at h1
    exact Nat.eq_of_mul_eq_mul_right hk h1
  refine ⟨hlen, ?_⟩
  rcases hown.2 with ⟨_, h0⟩ | ⟨g, cap, cur, hv, hb, hg, hnc, _, _, ht⟩
  · omega
  · exact ⟨g, cap, cur, hv, hb, hg, hnc, fun j x hx => take_row hf ht hlen hx⟩
/-- Its value. -/
theorem own_value {w : World} {base e k n : Nat} {v : Value} {xs : List Value} (hown : w.ownsRow base e k v n xs) : ∃ a cap, v = .slice a n cap ∧ (a = none → n = 0) := by
  rcases hown.2 with ⟨rfl, rfl⟩ | ⟨g, cap, cur, rfl, _⟩
  · exact ⟨none, 0, rfl, fun _ => rfl⟩
  · exact ⟨some ⟨g, 0, none⟩, cap, rfl, fun h => by cases h⟩

theorem own_one {w : World} {base e k n : Nat} {v : Value} {xs : List Value} (hown : w.ownsRow base e k v n xs) : v.oneCell' = true := by
  obtain ⟨a, cap, rfl, _⟩ := own_value hown
  rfl

/-! ### A frame of which some slots are known -/
def Has (F : Nat → Value) : List (Nat × Value) → Prop
  | [] => True
  | p :: l => F p.1 = p.2 ∧ Has F l
def upds (F : Nat → Value) : List (Nat × Value) → (Nat → Value)
  | [] => F
  | p :: l => upd (upds F l) p.1 p.2
theorem upds_eq {F : Nat → Value} : ∀ {l : List (Nat × Value)}, Has F l → upds F l = F
  | [], _ => rfl
  | p :: l, h => by
    rw [upds, upds_eq h.2]
    funext n
    by_cases hn : n = p.1
    · subst hn; rw [upd_eq, h.1]
    · rw [upd_ne _ _ _ _ hn]
theorem Has.get {F : Nat → Value} {l : List (Nat × Value)} (h : Has F l) : ∃ G, F = upds G l := ⟨F, (upds_eq h).symm⟩

section
variable {P : Program} {N : Nat} {Q : Post} {F : Nat → Value} {w : World}
/-- A struct result: it lies in memory. -/
theorem bodyQ_cell {fn : Func} {R : Value → World → Prop} {t ty b n : Nat} {c : Array Value} {T : TypeId} {fz : Nat × Nat} (hres : fn.results = #[.cell t ty]) (ht : F t = .pointer (some ⟨b, 0, none⟩)) (hb : w.heap[b]? = some (.cells c T fz)) (hn : aggN P ty = some n) (hc : c.size = n) (h : R (.agg c) w) : bodyQ P fn R .ret F w := by
  intro ds a ha
  refine ⟨.agg c, ?_, h⟩
  have hv : (loadVar ty ⟨b, 0, none⟩).run P w = .ok (.agg c) w := by
    have := run_loadVar_at (P := P) (w := w) (t := ty) (a := ⟨b, 0, none⟩) (vs := c.toList) hn (by simp [hc]) (fun j v hv => by
      rw [add_lit, Nat.zero_add]
      exact cellOf hb (by simpa using hv))
    simpa using this
  have hg := ha.get t
  rw [ht] at hg
  simp only [Array.getD_eq_getD_getElem?] at hg
  simp [results, hres, hg, hv, asAddr]
/-- A cut: between two pieces a relation stands. -/
theorem WP.seqc {x y : Code} (R : (Nat → Value) → World → Prop) (h : WP P N x (thenQ R Q) F w) (h' : ∀ F w, R F w → WP P N y Q F w) : WP P N (.seq x y) Q F w :=
  WP.seq (h.mono (fun e F w hq => by
    cases e with
    | normal => exact h' F w hq
    | exit id => exact hq
    | goto l => exact hq
    | ret => exact hq
    | panic ch => exact hq
    | outgrown => exact hq))
end
end Go.Eng
