/- For cutSource: what a round keeps, rows that are put, cuts, the counting sort; no walk. -/
import Derived.Test.YbulknocFmtBuild
import Derived.Test.YbulknocFmtMapW
import Derived.Maps.AppendAt
import Derived.Test.YbulknocFmtDraw2
namespace Go.Proofs.YbulknocFmt
open Go Go.Eng Go.RowKit
set_option linter.unusedSimpArgs false
set_option linter.unusedVariables false

/-! ### What a round keeps -/
section
variable {B : Nat} {W W' W'' : World}
theorem _root_.Go.Eng.KO.alloc (h : KO kap B W W') (o : Obj) : KO kap B W (W'.alloc o) := h.trans (KO.of_fr ((Fr.refl (S := fun _ => False) W').alloc o) (fun _ _ _ _ _ => id))
theorem _root_.Go.Eng.KO.fr (h : KO kap B W W') (hf : Fr (fun _ => False) W' W'') : KO kap B W W'' := h.trans (KO.of_fr hf (fun _ _ _ _ _ => id))
theorem _root_.Go.Eng.KO.drew (h : KO kap B W W') (n : Nat) : KO kap B W (W'.drewN n) := ⟨h.size, h.same⟩
theorem _root_.Go.Eng.KO.set (h : KO kap B W W') {g : Nat} {cs c : Array Value} {T : TypeId} {fz : Nat × Nat} (hg : W'.heap[g]? = some (.cells c T fz)) (hT : Nat.beq T 97 = false) : KO kap B W (W'.setRow g cs) :=
  h.trans (KO.of_fr (S := fun k => k = g) ((Fr.refl W').set g cs (fun _ => rfl)) (fun k o _ ho hk e => by
    have e : k = g := e
    subst e
    rw [hg] at ho
    cases ho
    rw [show kap (.cells c T fz) = Nat.beq T 97 from rfl, hT] at hk
    cases hk))
theorem _root_.Go.Eng.KO.grown {base e size n : Nat} {v : Value} {xs : List Value} (h : KO kap B W W') (hg : W'.grownBy W'' v.ownBlock) (hown : W'.ownsRow base e size v n xs) (he : Nat.beq e 97 = false) : KO kap B W W'' :=
  h.trans ⟨hg.size, fun k o _ ho hk => gk hg (fun e => by
    rcases hown.2 with ⟨rfl, _⟩ | ⟨g, cap, cur, rfl, _, hgc, _⟩
    · cases e
    · simp only [Value.ownBlock, Option.some.injEq] at e
      subst e
      rw [hgc] at ho
      cases ho
      rw [show kap (.cells _ _ _) = Nat.beq _ 97 from rfl, he] at hk
      cases hk) ho⟩
theorem _root_.Go.Eng.KO.low {r : Nat} (h : KO kap B W W') (hf : Fr (fun g => g = r) W' W'') (hr : r < B) : KO kap B W W'' := h.trans (KO.of_fr hf (fun k o hk _ _ e => by have : k = r := e; omega))
theorem _root_.Go.Eng.ItS.own {base e size n : Nat} {v : Value} {xs : List Value} (h : ItS B W W') (hown : W.ownsRow base e size v n xs) : W'.ownsRow base e size v n xs := by
  refine ⟨hown.1, ?_⟩
  rcases hown.2 with h0 | ⟨g, cap, cur, rfl, hb, hg, r⟩
  · exact .inl h0
  · exact .inr ⟨g, cap, cur, rfl, hb, h.cells hg, r⟩
theorem _root_.Go.Eng.ItS.fr {S : Nat → Prop} {w : World} (h : ItS B W W') (hf : Fr S w W) (hB : w.heap.size ≤ B) : Fr S w W' := Fr.trans hf h (fun k hk hs => by have := hs.1; omega)
end

/-! ### An owned row of one cell each: opened, put, made -/
section
variable {w : World} {base e n : Nat}
theorem own_open1 {v : Value} {l : List Value} (hown : w.ownsRow base e 1 v n l) (hn : 0 < n) : ∃ g cap cur, v = .slice (some ⟨g, 0, none⟩) n cap ∧ base ≤ g ∧ w.heap[g]? = some (.cells cur e (0, 0)) ∧ n ≤ cap ∧ cur.size = cap ∧ ∀ (j : Nat) x, l[j]? = some x → cur[j]? = some x := by
  rcases hown.2 with ⟨_, h0⟩ | ⟨g, cap, cur, hv, hb, hg, hnc, _, hs, ht⟩
  · omega
  · refine ⟨g, cap, cur, hv, hb, hg, hnc, by omega, fun j x hx => ?_⟩
    rw [← ht, List.getElem?_take] at hx
    split at hx
    · simpa using hx
    · cases hx
theorem own_put {g cap j : Nat} {l : List Value} {cur : Array Value} {v : Value} (hown : w.ownsRow base e 1 (.slice (some ⟨g, 0, none⟩) n cap) n l) (hg : w.heap[g]? = some (.cells cur e (0, 0))) (hj : j < n) : (w.setRow g (cur.setIfInBounds j v)).ownsRow base e 1 (.slice (some ⟨g, 0, none⟩) n cap) n (l.set j v) := by
  refine ⟨by simp only [List.length_set]; exact hown.1, .inr ?_⟩
  rcases hown.2 with ⟨h, _⟩ | ⟨g', cap', cur', hv, hb, hg', hnc, hm, hs, ht⟩
  · cases h
  · cases hv
    rw [hg] at hg'
    cases hg'
    refine ⟨g, cap, _, rfl, hb, sr_eq hg, hnc, hm, by simpa using hs, ?_⟩
    rw [Array.toList_setIfInBounds, ← ht, List.take_set]
theorem own_made' {q size cap : Nat} {cur : Array Value} (hq : w.heap.size = q) (hm : cap ≤ 1000000000) (hs : cur.size = cap * size) : (w.alloc (.cells cur e)).ownsRow q e size (.slice (some ⟨q, 0, none⟩) 0 cap) 0 [] := by
  subst hq
  exact World.ownsRow_made w cur cap (Nat.le_refl _) (by simp only [maxLen]; omega) hs
end

/-! ### append, and where the new row lies -/
section
variable {P : Program} {N : Nat} {Q : Post} {F : Nat → Value} {w : World} {ops : Array Oper} {rest : List Oper} {ty : TypeId} {pos : String} {after : Array Edge}
theorem ex_append_at {ρ : Operand → Value} (base : Nat) {t e : TypeId} {z : Value} {size bytes : Nat} {s x : Operand} {v : Value} {n : Nat} {xs : List Value} {b c' : Nat} {c : Array Value} {T : TypeId} {fz : Nat × Nat} (ht : P.underlying t = some (.slice e))
    (hin : (P.info? e).map (fun i => (i.zero, i.size, i.bytes)) = some (some z, size, bytes)) (hzs : z.cells.size = size) (hsz : Nat.blt 0 size = true) (hby : Nat.ble bytes 100000 = true)
    (hs : ρ s = v) (hx : ρ x = .slice (some ⟨b, 0, none⟩) 1 c') (hown : w.ownsRow base e size v n xs) (hb : w.heap[b]? = some (.cells c T fz)) (hc : c.size = size) (h1 : c.toList.all Value.oneCell' = true) (hn : n < 1000000000) (hbase : base ≤ w.heap.size) :
    ∃ v' w', ex P ρ (.call { callee := .builtin .append, args := #[s, x], argTypes := #[t, t] }) ty w = .ok (.value v') w' ∧ w'.ownsRow base e size v' (n + 1) (xs ++ c.toList) ∧ w.grownBy w' v.ownBlock ∧ (∃ g cap, v' = .slice (some ⟨g, 0, none⟩) (n + 1) cap) ∧ (v'.ownBlock = v.ownBlock ∨ v'.ownBlock = some w.heap.size) := by
  have hsz' : 0 < size := by simpa using hsz
  have hby' : bytes ≤ 100000 := by simpa using hby
  obtain ⟨i, hi, hz, hsize, hbyt⟩ := info_parts hin
  have hmul : (n + 1) * bytes ≤ 1000000000 * 100000 := Nat.mul_le_mul (by omega) hby'
  obtain ⟨v', w', hr, h2, h3, h4, h5⟩ := run_append_own_at (P := P) w base t ty e i z size bytes ht hi hz hsize hbyt hzs hsz' v n xs hown ⟨b, 0, none⟩ 1 c' c.toList (by simp [hc])
    (fun j u hj => by rw [add_lit, Nat.zero_add]; exact cellOf hb (by simpa using hj)) (fun u hu => List.all_eq_true.1 h1 u hu) (by simp only [maxLen]; omega) (by omega) hbase
  refine ⟨v', w', ?_, h2, h3, ?_, h5⟩
  · unfold ex execOp
    simp only [resolve, invoke, builtin, Sem.run_bind, Sem.run_pure, Result.andThen_ok, List.map_toArray, List.map_cons, List.map_nil, hs, hx, hr]
  · rcases h2.2 with ⟨_, h0⟩ | ⟨g, cap, cur, hv, _⟩
    · omega
    · exact ⟨g, cap, hv⟩
theorem _root_.Go.Eng.RL.append1at (base : Nat) {d : Nat} {t e : TypeId} {z : Value} {size bytes : Nat} {s x : Operand} {v : Value} {n : Nat} {xs : List Value} {b c' : Nat} {c : Array Value} {T : TypeId} {fz : Nat × Nat} (hd : Nat.blt d N = true) (ht : P.underlying t = some (.slice e))
    (hin : (P.info? e).map (fun i => (i.zero, i.size, i.bytes)) = some (some z, size, bytes)) (hzs : z.cells.size = size) (hsz : Nat.blt 0 size = true) (hby : Nat.ble bytes 100000 = true)
    (hs : ev F s = v) (hx : ev F x = .slice (some ⟨b, 0, none⟩) 1 c') (hown : w.ownsRow base e size v n xs) (hb : w.heap[b]? = some (.cells c T fz)) (hc : c.size = size) (h1 : c.toList.all Value.oneCell' = true) (hn : n < 1000000000) (hbase : base ≤ w.heap.size)
    (h : ∀ v' w', w'.ownsRow base e size v' (n + 1) (xs ++ c.toList) → w.grownBy w' v.ownBlock → (∃ g cap, v' = .slice (some ⟨g, 0, none⟩) (n + 1) cap) → (v'.ownBlock = v.ownBlock ∨ v'.ownBlock = some w.heap.size) → RL P N ops rest Q (upd F d v') w') :
    RL P N ops (⟨some d, .call { callee := .builtin .append, args := #[s, x], argTypes := #[t, t] }, ty, pos, after, none⟩ :: rest) Q F w := by
  obtain ⟨v', w', hr, h2, h3, h4, h5⟩ := ex_append_at (ty := ty) base ht hin hzs hsz hby hs hx hown hb hc h1 hn hbase
  exact RL.val hd hr (h v' w' h2 h3 h4 h5)
end
section
variable {P : Program} {N : Nat} {Q : Post} {F : Nat → Value} {w : World} {l : List Oper} {S : World → Prop} {E : List Nat} {fuel : Nat} {listed : Array Bool} {ty : TypeId} {pos : String} {after : Array Edge}
theorem _root_.Go.Eng.AE.append1at (i : Nat) (base : Nat) {d : Nat} {t e : TypeId} {z : Value} {size bytes : Nat} {s x : Operand} {v : Value} {n : Nat} {xs : List Value} {b c' : Nat} {c : Array Value} {T : TypeId} {fz : Nat × Nat}
    (hi : l[i]? = some ⟨some d, .call { callee := .builtin .append, args := #[s, x], argTypes := #[t, t] }, ty, pos, after, none⟩) (hr : Region.ready .any l.toArray listed = [i]) (hd : Nat.blt d N = true) (ht : P.underlying t = some (.slice e))
    (hin : (P.info? e).map (fun i => (i.zero, i.size, i.bytes)) = some (some z, size, bytes)) (hzs : z.cells.size = size) (hsz : Nat.blt 0 size = true) (hby : Nat.ble bytes 100000 = true)
    (hs : ev F s = v) (hx : ev F x = .slice (some ⟨b, 0, none⟩) 1 c') (hown : w.ownsRow base e size v n xs) (hb : w.heap[b]? = some (.cells c T fz)) (hc : c.size = size) (h1 : c.toList.all Value.oneCell' = true) (hn : n < 1000000000) (hbase : base ≤ w.heap.size)
    (h : ∀ v' w', w'.ownsRow base e size v' (n + 1) (xs ++ c.toList) → w.grownBy w' v.ownBlock → (∃ g cap, v' = .slice (some ⟨g, 0, none⟩) (n + 1) cap) → (v'.ownBlock = v.ownBlock ∨ v'.ownBlock = some w.heap.size) → (E.contains i = false → S w') ∧ AE P N l.toArray S E Q fuel (listed.setIfInBounds i true) (upd F d v') w') :
    AE P N l.toArray S E Q (fuel + 1) listed F w := by
  obtain ⟨v', w', hrr, h2, h3, h4, h5⟩ := ex_append_at (ty := ty) base ht hin hzs hsz hby hs hx hown hb hc h1 hn hbase
  exact AE.val i hi hr hd hrr (h v' w' h2 h3 h4 h5).1 (h v' w' h2 h3 h4 h5).2
end
theorem ne_sym {a b : Option Nat} (h : a = none ∨ a ≠ b) : b = none ∨ b ≠ a := by
  rcases h with rfl | h
  · cases b with
    | none => exact .inl rfl
    | some k => exact .inr (by simp)
  · exact .inr (fun e => h e.symm)

theorem sr_ne_any {w : World} {b g : Nat} {o : Obj} {cs : Array Value} (h : w.heap[b]? = some o) (hne : b ≠ g) : (w.setRow g cs).heap[b]? = some o := sr_ne h hne

/-! ### Cuts -/
section
variable {P : Program} {ρ : Operand → Value} {ty : TypeId} {w : World}
theorem ex_slice_h {t e n : TypeId} {x hi : Operand} {k' : IntKind} {b o len cap h : Nat} (hx : ρ x = .slice (some ⟨b, o, none⟩) len cap) (hh : ρ hi = .int k' (h : Int)) (ht : P.underlying t = some (.slice e))
    (hs : (P.info? e).map (·.size) = some n) (h2 : h ≤ cap) : ex P ρ (.slice t x none (some hi) none) ty w = .ok (.value (.slice (some ⟨b, o, none⟩) h cap)) w := by
  have hb1 : ∀ (y : Nat) (m : Nat) (k : IntKind) (c : BoundsCode), m ≤ y → (Instr.sliceBound (.int k (m : Int)) y c).run P w = .ok m w := fun y m k c h => by
    have := run_sliceBound (P := P) w k (m : Int) y c (by omega) (by omega)
    simpa using this
  unfold ex execOp
  by_cases hc : cap = 0
  · subst hc
    simp [hx, hh, Instr.sliceAt, run_underlying ht, Instr.slice, Instr.sliceBounds, hb1 0 h _ _ h2, Eng.run_sizeOf hs, add_lit]
  · simp [hx, hh, Instr.sliceAt, run_underlying ht, Instr.slice, Instr.sliceBounds, hb1 cap h _ _ h2, Eng.run_sizeOf hs, hc, add_lit]
theorem ex_slice_lhm {t e : TypeId} {x lo hi mx : Operand} {k k' k'' : IntKind} {b len cap l d : Nat} (hx : ρ x = .slice (some ⟨b, 0, none⟩) len cap) (hl : ρ lo = .int k (l : Int)) (hh : ρ hi = .int k' ((l + d : Nat) : Int)) (hm : ρ mx = .int k'' ((l + d : Nat) : Int)) (ht : P.underlying t = some (.slice e))
    (hs : (P.info? e).map (·.size) = some 1) (h1 : 0 < d) (h3 : l + d ≤ cap) : ex P ρ (.slice t x (some lo) (some hi) (some mx)) ty w = .ok (.value (.slice (some ⟨b, l, none⟩) d d)) w := by
  have hne : ¬ d = 0 := by omega
  have hb1 : ∀ (y : Nat) (m : Nat) (k : IntKind) (c : BoundsCode), m ≤ y → (Instr.sliceBound (.int k (m : Int)) y c).run P w = .ok m w := fun y m k c h => by
    have := run_sliceBound (P := P) w k (m : Int) y c (by omega) (by omega)
    simpa using this
  unfold ex execOp
  simp [hx, Instr.sliceAt, run_underlying ht, Instr.slice, Instr.sliceBounds, Eng.run_sizeOf hs, add_lit]
  rw [hm, hb1 cap (l + d) _ _ h3]
  simp only [Result.andThen_ok]
  rw [hh, hb1 (l + d) (l + d) _ _ (Nat.le_refl _)]
  simp only [Result.andThen_ok]
  rw [hl, hb1 (l + d) l _ _ (Nat.le_add_right _ _)]
  simp [hne]
end

/-! ### The counting sort -/
theorem foldl_pre : ∀ (L : List (Nat × Int)) (ws : List Int), ∃ t, L.foldl (fun ws q => addW ws q.2) ws = ws ++ t
  | [], ws => ⟨[], by simp⟩
  | q :: L, ws => by
    obtain ⟨t, ht⟩ := foldl_pre L (addW ws q.2)
    rw [List.foldl_cons, ht]
    unfold addW
    split
    · exact ⟨t, rfl⟩
    · exact ⟨[q.2] ++ t, by simp⟩
theorem ws_pre (L : List (Nat × Int)) (k : Nat) : ∃ t, wsOf L = wsOf (L.take k) ++ t := by
  have := foldl_pre (L.drop k) (wsOf (L.take k))
  unfold wsOf at this ⊢
  rwa [← List.foldl_append, List.take_append_drop] at this
theorem ws_len_le (L : List (Nat × Int)) (k : Nat) : (wsOf (L.take k)).length ≤ (wsOf L).length := by
  obtain ⟨t, ht⟩ := ws_pre L k
  rw [ht, List.length_append]; omega
theorem idx_stable {L : List (Nat × Int)} {k : Nat} {s : Int} (h : s ∈ wsOf (L.take k)) : (wsOf L).idxOf s = (wsOf (L.take k)).idxOf s := by
  obtain ⟨t, ht⟩ := ws_pre L k
  rw [ht, List.idxOf_append, if_pos h]
theorem take_snoc {α : Type} {L : List α} {k : Nat} {q : α} (h : L[k]? = some q) : L.take (k + 1) = L.take k ++ [q] := by
  obtain ⟨hlt, rfl⟩ := List.getElem?_eq_some_iff.1 h
  exact List.take_succ_eq_append_getElem hlt
theorem ws_mem {L : List (Nat × Int)} {k r : Nat} {s : Int} (h : L[k]? = some (r, s)) : s ∈ wsOf L := mem_wsOf.2 (List.mem_map.2 ⟨_, List.mem_of_getElem? h, rfl⟩)
theorem ws_mem1 {L : List (Nat × Int)} {k r : Nat} {s : Int} (h : L[k]? = some (r, s)) : s ∈ wsOf (L.take (k + 1)) := by
  rw [take_snoc h]; exact mem_wsOf.2 (by simp)
theorem ws_len {L : List (Nat × Int)} : (wsOf L).length ≤ L.length := by
  suffices h : ∀ k, k ≤ L.length → (wsOf (L.take k)).length ≤ k by
    have := h L.length (Nat.le_refl _); rwa [List.take_length] at this
  intro k
  induction k with
  | zero => intro _; simp [wsOf]
  | succ k ih =>
    intro hk
    rw [List.take_succ_eq_append_getElem (by omega), wsOf_snoc]
    have := ih (by omega)
    unfold addW
    split
    · omega
    · rw [List.length_append]; simp; omega
theorem grp_app (A B : List (Nat × Int)) (s : Int) : grp (A ++ B) s = grp A s ++ grp B s := by simp [grp]
theorem grp_take (L : List (Nat × Int)) (k : Nat) (s : Int) : grp L s = grp (L.take k) s ++ grp (L.drop k) s := by rw [← grp_app, List.take_append_drop]
theorem grp_at {L : List (Nat × Int)} {k r : Nat} {s : Int} (h : L[k]? = some (r, s)) : (grp L s)[(grp (L.take k) s).length]? = some r ∧ (grp (L.take k) s).length < (grp L s).length ∧ grp (L.take (k + 1)) s = grp (L.take k) s ++ [r] := by
  have h1 : grp (L.take (k + 1)) s = grp (L.take k) s ++ [r] := by rw [take_snoc h, grp_snoc, if_pos rfl]
  have h2 := grp_take L (k + 1) s
  rw [h1] at h2
  refine ⟨?_, ?_, h1⟩
  · rw [h2]; simp
  · rw [h2]; simp
theorem grp_other {L : List (Nat × Int)} {k r : Nat} {s s' : Int} (h : L[k]? = some (r, s)) (hs : s ≠ s') : grp (L.take (k + 1)) s' = grp (L.take k) s' := by rw [take_snoc h, grp_snoc, if_neg hs]
theorem grp_len_le (L : List (Nat × Int)) (k : Nat) (s : Int) : (grp (L.take k) s).length ≤ (grp L s).length := by
  rw [grp_take L k s, List.length_append]; omega
theorem grp_le (L : List (Nat × Int)) (s : Int) : (grp L s).length ≤ L.length := by
  unfold grp; rw [List.length_map]; exact List.length_filter_le _ _
def offG (L : List (Nat × Int)) (id : Nat) : Nat := ((sizes L).take id).sum
theorem sizes_at {L : List (Nat × Int)} {id : Nat} {s : Int} (h : (wsOf L)[id]? = some s) : (sizes L)[id]? = some (grp L s).length := by simp [sizes, groups, h]
theorem sizes_len (L : List (Nat × Int)) : (sizes L).length = (wsOf L).length := by simp [sizes, groups]
theorem offG_zero (L : List (Nat × Int)) : offG L 0 = 0 := by simp [offG]
theorem offG_succ {L : List (Nat × Int)} {id c : Nat} (h : (sizes L)[id]? = some c) : offG L (id + 1) = offG L id + c := by unfold offG; rw [take_snoc h, sum_snoc]
theorem offG_end (L : List (Nat × Int)) : offG L (wsOf L).length = L.length := by unfold offG; rw [← sizes_len, List.take_length, sizes_sum]
theorem sum_take_le : ∀ (l : List Nat) (i j : Nat), i ≤ j → (l.take i).sum ≤ (l.take j).sum
  | [], i, j, _ => by simp
  | a :: l, 0, j, _ => by simp
  | a :: l, i + 1, 0, h => by omega
  | a :: l, i + 1, j + 1, h => by
    have := sum_take_le l i j (by omega)
    simp only [List.take_succ_cons, List.sum_cons]; omega
theorem offG_mono (L : List (Nat × Int)) {i j : Nat} (h : i ≤ j) : offG L i ≤ offG L j := sum_take_le _ _ _ h
theorem offG_le (L : List (Nat × Int)) (i : Nat) : offG L i ≤ L.length := by
  have h : offG L i ≤ offG L (wsOf L).length := by
    by_cases hi : i ≤ (wsOf L).length
    · exact offG_mono L hi
    · unfold offG; rw [List.take_of_length_le (by rw [sizes_len]; omega), ← sizes_len, List.take_length]; exact Nat.le_refl _
  rwa [offG_end] at h
theorem ws_idx {L : List (Nat × Int)} {s : Int} (h : s ∈ wsOf L) : (wsOf L)[(wsOf L).idxOf s]? = some s := by
  have hl := List.idxOf_lt_length_of_mem h
  rw [List.getElem?_eq_getElem hl, List.getElem_idxOf]

theorem sz_hit {L : List (Nat × Int)} {r : Nat} {s : Int} (h : s ∈ wsOf L) : (sizes L).set ((wsOf L).idxOf s) ((grp L s).length + 1) = sizes (L ++ [(r, s)]) := by
  unfold sizes
  rw [groups_hit h, List.map_set]
  simp
theorem sz_new {L : List (Nat × Int)} {r : Nat} {s : Int} (h : s ∉ wsOf L) : (sizes L ++ [0]).set (wsOf L).length (0 + 1) = sizes (L ++ [(r, s)]) := by
  have hl := sizes_len L
  rw [List.set_append_right _ _ (by omega), show (wsOf L).length - (sizes L).length = 0 by omega]
  unfold sizes
  rw [groups_new h]
  simp
/-- Which rows have been placed, and where the next of each window goes. -/
structure Placed (L : List (Nat × Int)) (used cap : Nat) (c0 cR cE : Array Value) (k : Nat) : Prop where
  size : cR.size = cap
  old : ∀ j, j < used → cR[j]? = c0[j]?
  rows : ∀ (id : Nat) (s : Int) (j r : Nat), (wsOf L)[id]? = some s → (grp (L.take k) s)[j]? = some r → cR[used + offG L id + j]? = some (.int .i64 ((r : Nat) : Int))
  esize : cE.size = (wsOf L).length
  ends : ∀ (id : Nat) (s : Int), (wsOf L)[id]? = some s → cE[id]? = some (.int .i64 ((used + offG L id + (grp (L.take k) s).length : Nat) : Int))
theorem Placed.start {L : List (Nat × Int)} {used cap : Nat} {c0 cE : Array Value} (hc : c0.size = cap) (he : cE.size = (wsOf L).length) (h : ∀ id, id < (wsOf L).length → cE[id]? = some (.int .i64 ((used + offG L id : Nat) : Int))) : Placed L used cap c0 c0 cE 0 :=
  ⟨hc, fun _ _ => rfl, fun id s j r _ hj => by simp [grp] at hj, he, fun id s hs => by simpa [grp] using h id (List.getElem?_eq_some_iff.1 hs).1⟩
theorem Placed.pos {L : List (Nat × Int)} {used cap : Nat} {k r : Nat} {s : Int} (hk : L[k]? = some (r, s)) : offG L ((wsOf L).idxOf s) + (grp (L.take k) s).length < L.length := by
  have h1 := offG_succ (sizes_at (ws_idx (ws_mem hk)))
  have h2 := (grp_at hk).2.1
  have h3 := offG_le L ((wsOf L).idxOf s + 1)
  omega
theorem Placed.step {L : List (Nat × Int)} {used cap : Nat} {c0 cR cE : Array Value} {k r : Nat} {s : Int} (h : Placed L used cap c0 cR cE k) (hk : L[k]? = some (r, s)) (hfit : used + L.length ≤ cap) :
    Placed L used cap c0 (cR.setIfInBounds (used + offG L ((wsOf L).idxOf s) + (grp (L.take k) s).length) (.int .i64 ((r : Nat) : Int))) (cE.setIfInBounds ((wsOf L).idxOf s) (.int .i64 ((used + offG L ((wsOf L).idxOf s) + (grp (L.take k) s).length + 1 : Nat) : Int))) (k + 1) := by
  have hmem := ws_mem hk
  have hidx := ws_idx hmem
  have hilt := List.idxOf_lt_length_of_mem hmem
  obtain ⟨hg1, hg2, hg3⟩ := grp_at hk
  have hpos := Placed.pos (used := used) (cap := cap) hk
  have hs1 := offG_succ (sizes_at hidx)
  refine ⟨by simp [h.size], fun j hj => ?_, fun id s' j r' hid hj => ?_, by simp [h.esize], fun id s' hid => ?_⟩
  · rw [Array.getElem?_setIfInBounds_ne (by omega)]; exact h.old j hj
  · by_cases hss : s = s'
    · subst hss
      have hid' : id = (wsOf L).idxOf s := nodup_inj (wsOf_nodup L) hid hidx
      subst hid'
      rw [hg3] at hj
      by_cases hjl : j < (grp (L.take k) s).length
      · rw [List.getElem?_append_left hjl] at hj
        rw [Array.getElem?_setIfInBounds_ne (by omega)]
        exact h.rows _ s j r' hid hj
      · rw [List.getElem?_append_right (by omega)] at hj
        have hj0 : j - (grp (L.take k) s).length = 0 := by
          have := (List.getElem?_eq_some_iff.1 hj).1; simp at this; omega
        rw [hj0] at hj
        have hr : r = r' := by simpa using hj
        subst hr
        have hje : j = (grp (L.take k) s).length := by omega
        subst hje
        rw [Array.getElem?_setIfInBounds_self_of_lt (by rw [h.size]; omega)]
    · rw [grp_other hk hss] at hj
      have hne : id ≠ (wsOf L).idxOf s := fun e => by
        subst e; rw [hidx] at hid; cases hid; exact hss rfl
      have hjl := (List.getElem?_eq_some_iff.1 hj).1
      have hle := grp_len_le L k s'
      have hs2 := offG_succ (sizes_at hid)
      have hapart : offG L id + j ≠ offG L ((wsOf L).idxOf s) + (grp (L.take k) s).length := by
        rcases Nat.lt_or_gt_of_ne hne with hlt | hgt
        · have := offG_mono L (show id + 1 ≤ (wsOf L).idxOf s by omega); omega
        · have := offG_mono L (show (wsOf L).idxOf s + 1 ≤ id by omega); omega
      rw [Array.getElem?_setIfInBounds_ne (by omega)]
      exact h.rows id s' j r' hid hj
  · by_cases hss : s = s'
    · subst hss
      have hid' : id = (wsOf L).idxOf s := nodup_inj (wsOf_nodup L) hid hidx
      subst hid'
      rw [Array.getElem?_setIfInBounds_self_of_lt (by rw [h.esize]; exact hilt), hg3, List.length_append]
      simp
      omega
    · rw [grp_other hk hss]
      have hne : id ≠ (wsOf L).idxOf s := fun e => by
        subst e; rw [hidx] at hid; cases hid; exact hss rfl
      rw [Array.getElem?_setIfInBounds_ne (fun e => hne e.symm)]
      exact h.ends id s' hid

/-! ### Keeping what the iterator reads -/
theorem MfP.keepS {B : Nat} {T : List Tab} {p : Pc} {bp bq : Nat} {rv tv : Value} {t : Tab} {bc : Nat} {x : Win} {b1 b2 b3 : Nat} {w w' : World} {S : Nat → Prop} (h : MfP B T p bp bq rv tv t bc x b1 b2 b3 w) (hf : Fr S w w') (hS : ∀ k, S k → B ≤ k)
    (hp : ¬ S bp) (hq : ¬ S bq) (h1 : ¬ S b1) (h2 : ¬ S b2) (h3 : ¬ S b3) : MfP B T p bp bq rv tv t bc x b1 b2 b3 w' :=
  have hB : Fr (fun k => B ≤ k) w w' := hf.mono (fun k _ hk => hS k hk)
  ⟨⟨hf.keep h.rows.pc hp, hf.keep h.rows.tb hq, h.rows.rows.keep hB, h.rows.tabs.keep hB⟩, hf.keep h.s h1, hf.keep h.c h2, hf.keep h.x h3, h.col.keep hB⟩

/-! ### Looking up, told apart -/
theorem ex_lookupW_hit {x : Win} {ρ : Operand → Value} {ty : TypeId} {w : World} {a b : Operand} {r : Nat} {s : Int} {ws : List Int} (hx : ρ a = .map (some r)) (hy : ρ b = winV s (s + x.p)) (hm : MapW x w r ws) (hs : s ∈ ws) :
    ex Ybaf.prog ρ (.lookup 86 a b true) ty w = .ok (.value (.tuple #[.int .i64 ((ws.idxOf s : Nat) : Int), .bool true])) w := by
  rw [ex_lookupW hx hy hm, if_pos hs, decide_eq_true hs]
theorem ex_lookupW_new {x : Win} {ρ : Operand → Value} {ty : TypeId} {w : World} {a b : Operand} {r : Nat} {s : Int} {ws : List Int} (hx : ρ a = .map (some r)) (hy : ρ b = winV s (s + x.p)) (hm : MapW x w r ws) (hs : s ∉ ws) :
    ex Ybaf.prog ρ (.lookup 86 a b true) ty w = .ok (.value (.tuple #[.int .i64 0, .bool false])) w := by
  rw [ex_lookupW hx hy hm, if_neg hs, decide_eq_false hs]
end Go.Proofs.YbulknocFmt
