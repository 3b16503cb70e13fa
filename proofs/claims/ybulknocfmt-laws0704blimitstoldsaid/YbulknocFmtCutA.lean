/- For cut: sources in memory, what they come to; no walk. -/
import Derived.Test.YbulknocFmtCs
namespace Go.Proofs.YbulknocFmt
open Go Go.Eng Go.RowKit
set_option linter.unusedSimpArgs false
set_option linter.unusedVariables false

/-- Sources that lie below B. -/
structure SrcV (w : World) (B : Nat) (sv : Value) (pr : List (Pc × Value)) : Prop where
  ex : ∃ a cap, sv = .slice a pr.length cap ∧ ∀ (i : Nat) q, pr[i]? = some q → ∃ b c, a = some ⟨b, 0, none⟩ ∧ b < B ∧ w.heap[b]? = some (.cells c 48 (0, 0)) ∧ (c.toList.drop (i * 4)).take 4 = pcCells q ∧ RowsV w B q.2 q.1.rows
theorem SrcV.keep {w w' : World} {B : Nat} {sv : Value} {pr : List (Pc × Value)} (h : SrcV w B sv pr) (hf : Fr (fun k => B ≤ k) w w') : SrcV w' B sv pr := by
  obtain ⟨a, cap, h1, h2⟩ := h.ex
  refine ⟨a, cap, h1, fun i q hq => ?_⟩
  obtain ⟨b, c, h3, h4, h5, h6, h7⟩ := h2 i q hq
  exact ⟨b, c, h3, h4, hf.keep h5 (by omega), h6, h7.keep hf⟩
theorem SrcV.of {w : World} {Bs : Nat} {sv : Value} {P : List Pc} {pr : List (Pc × Value)} (h : SrcTo w Bs sv P pr) : SrcV w w.heap.size sv pr := by
  have hl : P.length = pr.length := by rw [← h.fst, List.length_map]
  have hown := h.own
  rw [hl] at hown
  obtain ⟨a, cap, hv, _⟩ := own_value hown
  refine ⟨a, cap, hv, fun i q hq => ?_⟩
  have hi := (List.getElem?_eq_some_iff.1 hq).1
  obtain ⟨_, g, cap', cur, hv', hb, hg, hc, hrow⟩ := own_open (f := pcCells) (fun _ => rfl) hown (by omega) (by omega)
  rw [hv] at hv'
  cases hv'
  exact ⟨g, cur, rfl, lt_of hg, hg, hrow i q hq, h.rows q (List.mem_of_getElem? hq)⟩
theorem SrcV.nil (w : World) (B : Nat) : SrcV w B (.slice none 0 0) [] := ⟨none, 0, rfl, fun i q h => by simp at h⟩

def plP (x : Win) (T : List Tab) (p : Pc) : List (Nat × Int) := match T[p.ti]? with
  | some t => plOf x t (rowsOf T p)
  | none => []
theorem plP_some {x : Win} {T : List Tab} {p : Pc} {t : Tab} (h : T[p.ti]? = some t) : plP x T p = plOf x t (rowsOf T p) := by simp [plP, h]
def tak (T : List Tab) (S : List Pc) : Nat := (S.map fun p => (rowsOf T p).length).sum
def tot (x : Win) (T : List Tab) (S : List Pc) : Nat := (S.map fun p => (plP x T p).length).sum
def outs (x : Win) (T : List Tab) (S : List Pc) : List Out := S.flatMap fun p => outOf x p (plP x T p)
theorem outOf_len (x : Win) (p : Pc) (L : List (Nat × Int)) : (outOf x p L).length = (wsOf L).length := by simp [outOf]
theorem map_take_snoc {α : Type} {S : List α} {i : Nat} {p : α} (f : α → Nat) (h : S[i]? = some p) : ((S.take (i + 1)).map f).sum = ((S.take i).map f).sum + f p := by rw [take_snoc h, List.map_append]; simp
theorem tak_snoc {T : List Tab} {S : List Pc} {i : Nat} {p : Pc} (h : S[i]? = some p) : tak T (S.take (i + 1)) = tak T (S.take i) + (rowsOf T p).length := map_take_snoc _ h
theorem tot_snoc {x : Win} {T : List Tab} {S : List Pc} {i : Nat} {p : Pc} (h : S[i]? = some p) : tot x T (S.take (i + 1)) = tot x T (S.take i) + (plP x T p).length := map_take_snoc _ h
theorem outs_snoc {x : Win} {T : List Tab} {S : List Pc} {i : Nat} {p : Pc} (h : S[i]? = some p) : outs x T (S.take (i + 1)) = outs x T (S.take i) ++ outOf x p (plP x T p) := by unfold outs; rw [take_snoc h, List.flatMap_append]; simp
theorem sum_map_take_le {α : Type} (f : α → Nat) : ∀ (S : List α) (i : Nat), ((S.take i).map f).sum ≤ (S.map f).sum
  | [], i => by simp
  | a :: S, 0 => by simp
  | a :: S, i + 1 => by have := sum_map_take_le f S i; simp only [List.take_succ_cons, List.map_cons, List.sum_cons]; omega
theorem tot_le (x : Win) (T : List Tab) (S : List Pc) (i : Nat) : tot x T (S.take i) ≤ tot x T S := sum_map_take_le _ S i
theorem tak_le (T : List Tab) (S : List Pc) (i : Nat) : tak T (S.take i) ≤ tak T S := sum_map_take_le _ S i
theorem outs_le (x : Win) (T : List Tab) (S : List Pc) (i : Nat) : (outs x T (S.take i)).length ≤ (outs x T S).length := by
  have h : outs x T S = outs x T (S.take i) ++ outs x T (S.drop i) := by
    unfold outs; rw [← List.flatMap_append, List.take_append_drop]
  rw [h, List.length_append]; omega
theorem sum_map_bound {α : Type} (f : α → Nat) (c : Nat) : ∀ (S : List α), (∀ a, a ∈ S → f a ≤ c) → (S.map f).sum ≤ S.length * c
  | [], _ => by simp
  | a :: S, h => by
    have h1 := sum_map_bound f c S (fun b hb => h b (List.mem_cons_of_mem _ hb))
    have h2 := h a List.mem_cons_self
    simp only [List.map_cons, List.sum_cons, List.length_cons, Nat.add_mul, Nat.one_mul]; omega
theorem plOf_bound {x : Win} (hx : x.Ok) (t : Tab) (R : List Nat) : (plOf x t R).length ≤ R.length * 16 := by
  have : (plOf x t R).length = (R.map fun r => (plRow x t r).length).sum := by simp [plOf, List.length_flatMap]
  rw [this]
  exact sum_map_bound _ 16 R (fun r _ => by rw [plRow_len]; have := hold_lo (t := t) (r := r) hx; omega)
/-- What is known of the sources. -/
structure SOk (T : List Tab) (S : List Pc) : Prop where
  n : S.length ≤ 256
  tok : ∀ t, t ∈ T → t.Ok
  ti : ∀ p, p ∈ S → p.ti < T.length
  len : ∀ p, p ∈ S → (rowsOf T p).length ≤ 256
  lt : ∀ p t, p ∈ S → T[p.ti]? = some t → ∀ r, r ∈ rowsOf T p → r < t.vals.length
theorem SOk.tak_b {T : List Tab} {S : List Pc} (h : SOk T S) : tak T S ≤ 65536 := by
  have h1 := sum_map_bound (fun p => (rowsOf T p).length) 256 S h.len
  have h2 : S.length * 256 ≤ 256 * 256 := Nat.mul_le_mul_right _ h.n
  show (S.map _).sum ≤ _
  omega
theorem SOk.pl_b {T : List Tab} {S : List Pc} {x : Win} (hx : x.Ok) (h : SOk T S) : ∀ p, p ∈ S → (plP x T p).length ≤ 4096 := fun p hp => by
  have hti := h.ti p hp
  rw [plP_some (List.getElem?_eq_getElem hti)]
  have h1 := plOf_bound hx T[p.ti] (rowsOf T p)
  have h2 := h.len p hp
  omega
theorem SOk.tot_b {T : List Tab} {S : List Pc} {x : Win} (hx : x.Ok) (h : SOk T S) : tot x T S ≤ 1048576 := by
  have h1 := sum_map_bound (fun p => (plP x T p).length) 4096 S (h.pl_b hx)
  have h2 : S.length * 4096 ≤ 256 * 4096 := Nat.mul_le_mul_right _ h.n
  show (S.map _).sum ≤ _
  omega
theorem outs_tot (x : Win) (T : List Tab) : ∀ (S : List Pc), (outs x T S).length ≤ tot x T S
  | [] => by simp [outs, tot]
  | p :: S => by
    have h1 := outs_tot x T S
    have h2 : (wsOf (plP x T p)).length ≤ (plP x T p).length := ws_len
    unfold outs tot at h1 ⊢
    rw [List.flatMap_cons, List.length_append, outOf_len, List.map_cons, List.sum_cons]
    omega
/-- The pieces, read off. -/
theorem pieces_of {w : World} {Bx n bR used : Nat} {pv : Value} {cR : Array Value} {pr : List (Out × Value)} {O : List Out} (hown : w.ownsRow Bx 48 4 pv n (pr.flatMap outCells)) (hn : n = pr.length) (hO : pr.map (·.1) = O) (hR : w.heap[bR]? = some (.cells cR 3 (0, 0))) (hr : ∀ q, q ∈ pr → RowsIn cR bR used q) : PiecesAt w pv O := by
  subst hO
  subst hn
  obtain ⟨a, cap, hv, _⟩ := own_value hown
  refine ⟨a, cap, by rw [List.length_map]; exact hv, fun i q hq => ?_⟩
  rw [List.getElem?_map] at hq
  cases hpi : pr[i]? with
  | none => rw [hpi] at hq; cases hq
  | some z =>
    rw [hpi] at hq
    simp only [Option.map_some, Option.some.injEq] at hq
    subst hq
    have hi := (List.getElem?_eq_some_iff.1 hpi).1
    obtain ⟨_, g, cap', cur, hv', hb, hg, hc, hrow⟩ := own_open (f := outCells) (fun _ => rfl) hown (by omega) (by omega)
    rw [hv] at hv'
    cases hv'
    have hz := hrow i z hpi
    have hcell : ∀ (j : Nat) v, (outCells z)[j]? = some v → w.cell? ⟨g, 0 + i * 4 + j, none⟩ = some v := fun j v hj => by
      rw [← hz, List.getElem?_take] at hj
      split at hj
      · rw [List.getElem?_drop] at hj
        rw [Nat.zero_add]
        exact cellOf hg (by simpa using hj)
      · cases hj
    obtain ⟨o, h1, h2, h3⟩ := (hr z (List.mem_of_getElem? hpi)).ex
    refine ⟨g, 0, z.2, rfl, hcell 0 _ rfl, hcell 1 _ rfl, hcell 2 _ rfl, hcell 3 _ rfl, ⟨.inr ⟨bR, o, z.1.rows.length, by rw [h1]; simp [ints], fun j v hj => ?_⟩⟩⟩
    rw [ints, List.getElem?_map] at hj
    cases hr' : z.1.rows[j]? with
    | none => rw [hr'] at hj; cases hj
    | some r =>
      rw [hr'] at hj
      simp only [Option.map_some, Option.some.injEq] at hj
      subst hj
      exact cellOf hR (h3 j r hr')
end Go.Proofs.YbulknocFmt
