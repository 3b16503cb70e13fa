/- For the law's own model: groups in memory; no walk. -/
import Derived.Test.YbulknocFmtCut
import Derived.Test.YbulknocFmtCnt
namespace Go.Proofs.YbulknocFmt
open Go Go.Eng Go.RowKit
set_option linter.unusedSimpArgs false
set_option linter.unusedVariables false

def i64s (l : List Int) : List Value := l.map fun z => Value.int .i64 z
/-- Starts and groups, all in rows of their own, laid since wl. -/
structure Gs (wl : World) (B1 : Nat) (ws : List Int) (gs : List (List Nat)) (stv gv : Value) (gvals : List Value) (W : World) : Prop where
  fr : Fr (fun _ => False) wl W
  os : W.ownsRow B1 2 1 stv ws.length (i64s ws)
  og : W.ownsRow B1 46 1 gv gs.length gvals
  each : ∀ (k : Nat) l v, gs[k]? = some l → gvals[k]? = some v → W.ownsRow B1 3 1 v l.length (szv l)
  apart : ∀ (k k' : Nat) v v', k ≠ k' → gvals[k]? = some v → gvals[k']? = some v' → v.ownBlock = none ∨ v.ownBlock ≠ v'.ownBlock
section
variable {wl W W2 : World} {B1 : Nat} {ws : List Int} {gs : List (List Nat)} {stv gv : Value} {gvals : List Value}
theorem Gs.gl (h : Gs wl B1 ws gs stv gv gvals W) : gvals.length = gs.length := by have := h.og.1; omega
theorem Gs.keep (h : Gs wl B1 ws gs stv gv gvals W) (hf : Fr (fun _ => False) W W2) : Gs wl B1 ws gs stv gv gvals W2 :=
  ⟨h.fr.trans hf (fun _ _ h => h), hf.own h.os (fun _ _ => id), hf.own h.og (fun _ _ => id), fun k l v hl hv => hf.own (h.each k l v hl hv) (fun _ _ => id), h.apart⟩
theorem own_blk_some {w : World} {base e n : Nat} {v : Value} {xs : List Value} {k : Nat} (h : w.ownsRow base e 1 v n xs) (hk : v.ownBlock = some k) : ∃ c, w.heap[k]? = some (.cells c e (0, 0)) := by
  rcases h.2 with ⟨rfl, _⟩ | ⟨g, cap, cur, rfl, _, hg, _⟩
  · cases hk
  · simp only [Value.ownBlock, Option.some.injEq] at hk
    subst hk
    exact ⟨cur, hg⟩
theorem Gs.frg {x : Obj} {v : Value} {n e : Nat} {xs : List Value} (h : Gs wl B1 ws gs stv gv gvals W) (hB : wl.heap.size ≤ B1) (hown : W.ownsRow B1 e 1 v n xs) (hg : (W.alloc x).grownBy W2 v.ownBlock) : Fr (fun _ => False) wl W2 :=
  h.fr.growna hg (fun k hk hlt => by have := (hown.lt k hk).1; omega)
/-- A start more. -/
theorem Gs.start {x : Obj} {s : Int} {stv' : Value} (h : Gs wl B1 ws gs stv gv gvals W) (hB : wl.heap.size ≤ B1) (hg : (W.alloc x).grownBy W2 stv.ownBlock) (hown : W2.ownsRow B1 2 1 stv' (ws.length + 1) (i64s ws ++ [.int .i64 s])) : Gs wl B1 (ws ++ [s]) gs stv' gv gvals W2 :=
  ⟨h.frg hB h.os hg, by rw [List.length_append]; simp only [i64s, List.map_append]; exact hown, own_gka h.og hg h.os rfl, fun k l v hl hv => own_gka (h.each k l v hl hv) hg h.os rfl, h.apart⟩
/-- A group more. -/
theorem Gs.group {x : Obj} {gv' : Value} (h : Gs wl B1 ws gs stv gv gvals W) (hB : wl.heap.size ≤ B1) (hg : (W.alloc x).grownBy W2 gv.ownBlock) (hown : W2.ownsRow B1 46 1 gv' (gs.length + 1) (gvals ++ [.slice none 0 0])) : Gs wl B1 ws (gs ++ [[]]) stv gv' (gvals ++ [.slice none 0 0]) W2 := by
  have hgl := h.gl
  refine ⟨h.frg hB h.og hg, own_gka h.os hg h.og rfl, by rw [List.length_append]; exact hown, fun k l v hl hv => ?_, fun k k' v v' hne hv hv' => ?_⟩
  · by_cases hk : k < gs.length
    · rw [List.getElem?_append_left hk] at hl
      rw [List.getElem?_append_left (by omega)] at hv
      exact own_gka (h.each k l v hl hv) hg h.og rfl
    · rw [List.getElem?_append_right (by omega)] at hl hv
      have e : k - gs.length = 0 := by have := (List.getElem?_eq_some_iff.1 hl).1; simp at this; omega
      rw [e] at hl
      rw [hgl, e] at hv
      have h1 : [] = l := by simpa using hl
      have h2 : Value.slice none 0 0 = v := by simpa using hv
      subst h1 h2
      exact ⟨rfl, .inl ⟨rfl, rfl⟩⟩
  · by_cases hk : k < gvals.length
    · rw [List.getElem?_append_left hk] at hv
      by_cases hk' : k' < gvals.length
      · rw [List.getElem?_append_left hk'] at hv'
        exact h.apart k k' v v' hne hv hv'
      · rw [List.getElem?_append_right (by omega)] at hv'
        have e : k' - gvals.length = 0 := by have := (List.getElem?_eq_some_iff.1 hv').1; simp at this; omega
        rw [e] at hv'
        have h2 : Value.slice none 0 0 = v' := by simpa using hv'
        subst h2
        show v.ownBlock = none ∨ v.ownBlock ≠ none
        cases v.ownBlock with
        | none => exact .inl rfl
        | some _ => exact .inr (by simp)
    · rw [List.getElem?_append_right (by omega)] at hv
      have e : k - gvals.length = 0 := by have := (List.getElem?_eq_some_iff.1 hv).1; simp at this; omega
      rw [e] at hv
      have h2 : Value.slice none 0 0 = v := by simpa using hv
      subst h2
      exact .inl rfl
/-- A row more in a group. -/
theorem Gs.put {x : Obj} {idx gg cap r : Nat} {l : List Nat} {v v' : Value} {cur : Array Value} (h : Gs wl B1 ws gs stv (.slice (some ⟨gg, 0, none⟩) gs.length cap) gvals W) (hB : wl.heap.size ≤ B1) (hl : gs[idx]? = some l) (hv : gvals[idx]? = some v) (hg : (W.alloc x).grownBy W2 v.ownBlock)
    (hown : W2.ownsRow B1 3 1 v' (l.length + 1) (szv l ++ [.int .i64 ((r : Nat) : Int)])) (hat : v'.ownBlock = v.ownBlock ∨ v'.ownBlock = some (W.alloc x).heap.size) (hcur : W2.heap[gg]? = some (.cells cur 46 (0, 0))) :
    Gs wl B1 ws (gs.set idx (l ++ [r])) stv (.slice (some ⟨gg, 0, none⟩) (gs.set idx (l ++ [r])).length cap) (gvals.set idx v') (W2.setRow gg (cur.setIfInBounds idx v')) := by
  have hgl := h.gl
  have hownv := h.each idx l v hl hv
  have hil := (List.getElem?_eq_some_iff.1 hl).1
  have hggB : B1 ≤ gg := (h.og.lt gg rfl).1
  have h2g := own_gka h.og hg hownv rfl
  rw [List.length_set]
  refine ⟨(h.frg hB hownv hg).set _ _ (fun hlt => by omega), own_sr (own_gka h.os hg hownv rfl) (own_ne (own_gka h.os hg hownv rfl) hcur rfl), (by rw [List.length_set]; exact own_put h2g hcur hil), fun k l2 v2 hl2 hv2 => ?_, fun k k' u u' hne hu hu' => ?_⟩
  · by_cases hk : idx = k
    · subst hk
      rw [List.getElem?_set_self hil] at hl2
      rw [List.getElem?_set_self (by omega)] at hv2
      cases hl2
      cases hv2
      rw [List.length_append]
      have e : szv (l ++ [r]) = szv l ++ [.int .i64 ((r : Nat) : Int)] := by simp [szv]
      rw [e]
      exact own_sr hown (own_ne hown hcur rfl)
    · rw [List.getElem?_set_ne hk] at hl2 hv2
      have hk2 := (h.each k l2 v2 hl2 hv2)
      have h3 := (hk2.alloc x).kept hg (h.apart k idx v2 v (fun e => hk e.symm) hv2 hv)
      exact own_sr h3 (own_ne h3 hcur rfl)
  · have key : ∀ (j : Nat) z, j ≠ idx → gvals[j]? = some z → (z.ownBlock = none ∨ z.ownBlock ≠ v'.ownBlock) := fun j z hj hz => by
      rcases hat with e | e
      · rw [e]; exact h.apart j idx z v hj hz hv
      · rw [e]
        cases hzb : z.ownBlock with
        | none => exact .inl rfl
        | some kk =>
          refine .inr (fun e2 => ?_)
          have hjl : j < gs.length := by have := (List.getElem?_eq_some_iff.1 hz).1; omega
          have := ((h.each j _ z (List.getElem?_eq_getElem hjl) hz).lt kk hzb).2
          rw [sz_al] at e2
          simp only [Option.some.injEq] at e2
          omega
    by_cases hk : idx = k
    · subst hk
      rw [List.getElem?_set_self (by omega)] at hu
      cases hu
      rw [List.getElem?_set_ne hne] at hu'
      exact ne_sym (key k' u' (fun e => hne e.symm) hu')
    · rw [List.getElem?_set_ne hk] at hu
      by_cases hk' : idx = k'
      · subst hk'
        rw [List.getElem?_set_self (by omega)] at hu'
        cases hu'
        exact key k u (fun e => hk e.symm) hu
      · rw [List.getElem?_set_ne hk'] at hu'
        exact h.apart k k' u u' hne hu hu'
end

/-! ### The count-down -/
theorem cD_mono {e s d d' : Int} (he : 0 < e) (h : d ≤ d') : cD e s d ≤ cD e s d' := by
  unfold cD
  by_cases h1 : d ≤ s
  · rw [if_pos h1]
    split
    · omega
    · have := Int.ediv_nonneg (a := d' - s - 1) (b := e) (by omega) (by omega)
      omega
  · rw [if_neg h1, if_neg (by omega)]
    have := Int.ediv_le_ediv (a := d - s - 1) (b := d' - s - 1) he (by omega)
    omega
theorem cD_nonneg {e s d : Int} (he : 0 < e) : 0 ≤ cD e s d := by
  unfold cD
  split
  · omega
  · have := Int.ediv_nonneg (a := d - s - 1) (b := e) (by omega) (by omega)
    omega
/-- What of a row's placements a count-down of d steps has met. -/
def metN (x : Win) (t : Tab) (r : Nat) (d : Nat) : Nat := (cD x.e (since x (valI t r)) d).toNat
theorem met_zero {x : Win} (hx : x.Ok) (t : Tab) (r : Nat) : metN x t r 0 = 0 := by
  unfold metN
  rw [show ((0 : Nat) : Int) = 0 from rfl, cD_zero (since_lo hx _)]
  rfl
theorem met_miss {x : Win} (hx : x.Ok) {t : Tab} {r d : Nat} (h : (valI t r - d - x.o) % x.e ≠ 0) : metN x t r (d + 1) = metN x t r d := by
  have he := hx.e1
  have h2 : ¬ ((d : Int) - since x (valI t r)) % x.e = 0 := fun e => h ((hit_iff hx _ _).2 e)
  have := cD_step (e := x.e) (s := since x (valI t r)) (d := d) (by omega) (since_lo hx _) (since_hi hx _) (by omega)
  rw [if_neg h2, Int.add_zero] at this
  unfold metN
  rw [show ((d + 1 : Nat) : Int) = (d : Int) + 1 by omega, this]
theorem met_end {x : Win} (hx : x.Ok) {t : Tab} {r P : Nat} (hP : (P : Int) = x.p) (hn : nullB t.nulls r = false) : (plRow x t r).take (metN x t r P) = plRow x t r := by
  have : metN x t r P = (plRow x t r).length := by
    rw [plRow_len]
    unfold metN hold
    rw [hP, cD_end hx, hn]
    rfl
  rw [this, List.take_length]
theorem met_hit {x : Win} (hx : x.Ok) {t : Tab} {r d P : Nat} (hP : (P : Int) = x.p) (hd : d < P) (hn : nullB t.nulls r = false) (h : (valI t r - d - x.o) % x.e = 0) :
    metN x t r (d + 1) = metN x t r d + 1 ∧ (plRow x t r)[metN x t r d]? = some (r, valI t r - d) := by
  have he := hx.e1
  have h2 : ((d : Int) - since x (valI t r)) % x.e = 0 := (hit_iff hx _ _).1 h
  have h3 := cD_step (e := x.e) (s := since x (valI t r)) (d := d) (by omega) (since_lo hx _) (since_hi hx _) (by omega)
  rw [if_pos h2] at h3
  have h4 := cD_nonneg (e := x.e) (s := since x (valI t r)) (d := d) (by omega)
  have h5 := cD_hit (e := x.e) (s := since x (valI t r)) (d := d) (by omega) (since_lo hx _) (since_hi hx _) (by omega) h2
  have h6 := cD_mono (e := x.e) (s := since x (valI t r)) (d := (d : Int) + 1) (d' := x.p) (by omega) (by omega)
  rw [cD_end hx] at h6
  have h7 : hold x t r = cntW x (since x (valI t r)) := by unfold hold; rw [hn]; rfl
  have h8 : metN x t r (d + 1) = metN x t r d + 1 := by
    unfold metN
    rw [show ((d + 1 : Nat) : Int) = (d : Int) + 1 by omega, h3]
    omega
  refine ⟨h8, ?_⟩
  have h9 : ((metN x t r d : Nat) : Int) = cD x.e (since x (valI t r)) d := by unfold metN; omega
  have h10 : metN x t r d < (hold x t r).toNat := by rw [h7]; omega
  unfold plRow
  rw [List.getElem?_map, List.getElem?_range h10]
  simp only [Option.map_some, Option.some.injEq, Prod.mk.injEq, true_and]
  rw [h9]
  omega
theorem plRow_null {x : Win} {t : Tab} {r : Nat} (h : nullB t.nulls r = true) : plRow x t r = [] := by
  unfold plRow hold
  rw [h]
  rfl
theorem plOf_take_succ {x : Win} {t : Tab} {R : List Nat} {k r : Nat} (h : R[k]? = some r) : plOf x t (R.take (k + 1)) = plOf x t (R.take k) ++ plRow x t r := by
  unfold plOf
  rw [take_snoc h, List.flatMap_append]
  simp

/-! ### The pieces of the model -/
structure PrIn (w : World) (q : Out × Value) : Prop where
  ex : ∃ b c cap, q.2 = .slice (some ⟨b, 0, none⟩) q.1.rows.length cap ∧ w.heap[b]? = some (.cells c 3 (0, 0)) ∧ ∀ (j r : Nat), q.1.rows[j]? = some r → c[j]? = some (.int .i64 ((r : Nat) : Int))
theorem PrIn.of {w : World} {B n : Nat} {v : Value} {l : List Nat} {o : Out} (hown : w.ownsRow B 3 1 v n (szv l)) (hn : n = l.length) (hl : 0 < l.length) (ho : o.rows = l) : PrIn w (o, v) := by
  subst hn
  subst ho
  obtain ⟨g, cap, cur, rfl, _, hg, _, _, hc⟩ := own_open1 hown hl
  exact ⟨g, cur, cap, rfl, hg, fun j r hr => hc j _ (by simp [szv, hr])⟩
theorem PrIn.keep {w w' : World} {q : Out × Value} (h : PrIn w q) (hk : ∀ (k : Nat) (c : Array Value), w.heap[k]? = some (Obj.cells c 3 (0, 0)) → w'.heap[k]? = some (Obj.cells c 3 (0, 0))) : PrIn w' q :=
  let ⟨b, c, cap, h1, h2, h3⟩ := h.ex; ⟨b, c, cap, h1, hk b c h2, h3⟩
theorem pieces_in {w : World} {Bx n : Nat} {pv : Value} {pr : List (Out × Value)} {O : List Out} (hown : w.ownsRow Bx 48 4 pv n (pr.flatMap outCells)) (hn : n = pr.length) (hO : pr.map (·.1) = O) (hr : ∀ q, q ∈ pr → PrIn w q) : PiecesAt w pv O := by
  subst hO
  subst hn
  obtain ⟨a, cap, hv, _⟩ := own_value hown
  refine ⟨a, cap, by rw [List.length_map]; exact hv, fun i q hq => ?_⟩
  rw [List.getElem?_map] at hq
  cases hpi : pr[i]? with
  | none => rw [hpi] at hq; cases hq
  | some z =>
    rw [hpi] at hq
    simp only [Option.map_some, Option.some.injEq] at hq
    subst hq
    have hi := (List.getElem?_eq_some_iff.1 hpi).1
    obtain ⟨_, g, cap', cur, hv', hb, hg, hc, hrow⟩ := own_open (f := outCells) (fun _ => rfl) hown (by omega) (by omega)
    rw [hv] at hv'
    cases hv'
    have hz := hrow i z hpi
    have hcell : ∀ (j : Nat) v, (outCells z)[j]? = some v → w.cell? ⟨g, 0 + i * 4 + j, none⟩ = some v := fun j v hj => by
      rw [← hz, List.getElem?_take] at hj
      split at hj
      · rw [List.getElem?_drop] at hj
        rw [Nat.zero_add]
        exact cellOf hg (by simpa using hj)
      · cases hj
    obtain ⟨b, c, cap2, h1, h2, h3⟩ := (hr z (List.mem_of_getElem? hpi)).ex
    refine ⟨g, 0, z.2, rfl, hcell 0 _ rfl, hcell 1 _ rfl, hcell 2 _ rfl, hcell 3 _ rfl, ⟨.inr ⟨b, 0, cap2, by rw [h1]; simp [ints], fun j v hj => ?_⟩⟩⟩
    rw [ints, List.getElem?_map] at hj
    cases hr' : z.1.rows[j]? with
    | none => rw [hr'] at hj; cases hj
    | some r =>
      rw [hr'] at hj
      simp only [Option.map_some, Option.some.injEq] at hj
      subst hj
      rw [Nat.zero_add]
      exact cellOf h2 (h3 j r hr')
end Go.Proofs.YbulknocFmt
