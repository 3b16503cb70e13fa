/- What the law looks at, off what Answer left: no Go in sight but for the error's block. -/
import Derived.Test.YbulknkwAnswer
namespace Go.Proofs.Ybulknkw
open Go Go.Eng Go.RowKit
set_option linter.unusedVariables false

def quietUpTo (fails : List Bool) (n : Nat) : Prop := ∀ c, c < n → fail fails c = false

structure View (L : List Rq) (fails : List Bool) (R : List Ra) (sn : List ByteArray) (w : World) : Prop where
  row : ∀ (i : Nat) (p : Rq), L[i]? = some p → quietUpTo fails (off L i) → ∃ r, R[i]? = some r ∧ r.1 = p.ctx ∧
    (∀ (j : Nat) (t : ByteArray), p.terms[j]? = some t → quietUpTo fails (off L i + j) → ∃ ep, r.2.2[j]? = some (t, ep) ∧ ep.isSome = fail fails (off L i + j) ∧
      (∀ a, ep = some a → ∃ g, a = ⟨g, 0, none⟩ ∧ w.heap[g]? = some (.cells #[.int .i64 ((off L i + j : Nat) : Int), .string ⟨#[]⟩] 31 (0, 0))) ∧
      sn[off L i + j]? = some t ∧ (fail fails (off L i + j) = true → r.2.2.length = j + 1 ∧ R.length = i + 1 ∧ sn.length = off L i + j + 1 ∧ errs R = true)) ∧
    (quietUpTo fails (off L (i + 1)) → r.2.2.length = p.terms.length)
  fin : quietUpTo fails (off L L.length) → R.length = L.length ∧ sn.length = off L L.length ∧ errs R = false

theorem View.keep {L : List Rq} {fails : List Bool} {R : List Ra} {sn : List ByteArray} {w w' : World} (h : View L fails R sn w) (hf : Fr (fun _ => False) w w') : View L fails R sn w' :=
  ⟨fun i p hp hq => by
    obtain ⟨r, h1, h2, h3, h4⟩ := h.row i p hp hq
    refine ⟨r, h1, h2, fun j t ht hq2 => ?_, h4⟩
    obtain ⟨ep, q1, q2, q3, q4, q5⟩ := h3 j t ht hq2
    refine ⟨ep, q1, q2, fun a ha => ?_, q4, q5⟩
    obtain ⟨g, hg1, hg2⟩ := q3 a ha
    exact ⟨g, hg1, hf.keep hg2 id⟩, h.fin⟩
theorem seenT_get {L : List Rq} {i : Nat} {p : Rq} (hp : L[i]? = some p) {j : Nat} {t : ByteArray} (ht : p.terms[j]? = some t) : ∀ n, i < n → (seenT L n)[off L i + j]? = some t
  | 0, h => by omega
  | n + 1, h => by
    rcases Nat.lt_or_ge i n with hlt | hge
    · have ih := seenT_get hp ht n hlt
      have hl : off L i + j < (seenT L n).length := (List.getElem?_eq_some_iff.1 ih).1
      simp only [seenT]
      rw [List.getElem?_append_left hl]
      exact ih
    · have : i = n := by omega
      subst this
      rw [seenT_succ hp]
      rw [List.getElem?_append_right (by rw [seenT_length]; omega), seenT_length, Nat.add_sub_cancel_left]
      exact ht

theorem errs_none {R : List Ra} (h : ∀ (i : Nat) (r : Ra), R[i]? = some r → ∃ ts : List ByteArray, r.2.2 = ts.map fun t => (t, none)) : errs R = false := by
  unfold errs
  rw [List.any_eq_false]
  intro r hr
  obtain ⟨i, hi, rfl⟩ := List.getElem_of_mem hr
  obtain ⟨ts, hts⟩ := h i _ (List.getElem?_eq_getElem hi)
  rw [hts]
  simp

theorem view_done {B bk bf bs : Nat} {fa : Option Addr} {fc : Nat} {fails : List Bool} {L : List Rq} {w : World} {R : List Ra} (h : AnsDone B bk bf bs fa fc fails 0 [] L w R) : View L fails R (seenT L L.length) w := by
  have good : ∀ c, c < off L L.length → fail fails c = false := fun c hc => by have := h.good c hc; rwa [Nat.zero_add] at this
  refine ⟨?_, ?_⟩
  · intro i p hp hq
    have hil : i < L.length := (List.getElem?_eq_some_iff.1 hp).1
    obtain ⟨r, hr⟩ : ∃ r, R[i]? = some r := ⟨R[i]'(by rw [h.rl]; exact hil), List.getElem?_eq_getElem _⟩
    obtain ⟨h1, h2⟩ := h.rd i p r hp hr
    have hm := off_mono L (show i + 1 ≤ L.length by omega)
    have hs := off_succ hp
    refine ⟨r, hr, h1, ?_, ?_⟩
    · intro j t ht hq2
      have hjl : j < p.terms.length := (List.getElem?_eq_some_iff.1 ht).1
      have hf : fail fails (off L i + j) = false := good _ (by omega)
      refine ⟨none, ?_, by rw [hf]; rfl, fun a ha => (by cases ha), seenT_get hp ht _ hil, fun hb => (by rw [hf] at hb; cases hb)⟩
      rw [h2, List.getElem?_map, ht]
      rfl
    · intro _
      rw [h2, List.length_map]
  · intro _
    refine ⟨h.rl, seenT_length L _, errs_none fun i r hr => ?_⟩
    have hil : i < R.length := (List.getElem?_eq_some_iff.1 hr).1
    rw [h.rl] at hil
    exact ⟨_, (h.rd i _ r (List.getElem?_eq_getElem hil) hr).2⟩

theorem view_stop {B bk bf bs : Nat} {fa : Option Addr} {fc : Nat} {fails : List Bool} {L : List Rq} {w : World} {R : List Ra} {i0 j0 : Nat} {p0 : Rq} {t0 : ByteArray} {g0 : Nat} (h : AnsStop B bk bf bs fa fc fails 0 [] L w R i0 j0 p0 t0 g0) :
    View L fails R (seenT L i0 ++ p0.terms.take (j0 + 1)) w := by
  have good : ∀ c, c < off L i0 + j0 → fail fails c = false := fun c hc => by have := h.good c hc; rwa [Nat.zero_add] at this
  have bad : fail fails (off L i0 + j0) = true := by have := h.bad; rwa [Nat.zero_add] at this
  have hi0 : i0 < L.length := (List.getElem?_eq_some_iff.1 h.hp).1
  have hj0 : j0 < p0.terms.length := (List.getElem?_eq_some_iff.1 h.ht).1
  have hs0 := off_succ h.hp
  have htl : (p0.terms.take (j0 + 1)).length = j0 + 1 := by rw [List.length_take]; omega
  have herr : errs R = true := by
    obtain ⟨r, hr, _, h2⟩ := h.last
    unfold errs
    rw [List.any_eq_true]
    exact ⟨r, List.mem_of_getElem? hr, by rw [h2]; simp⟩
  refine ⟨?_, ?_⟩
  · intro i p hp hq
    have hile : i ≤ i0 := by
      rcases Nat.lt_or_ge i0 i with hlt | hge
      · have := off_mono L (show i0 + 1 ≤ i by omega)
        have := hq (off L i0 + j0) (by omega)
        rw [bad] at this
        cases this
      · exact hge
    have hs := off_succ hp
    rcases Nat.lt_or_ge i i0 with hlt | hge
    · obtain ⟨r, hr⟩ : ∃ r, R[i]? = some r := ⟨R[i]'(by rw [h.rl]; omega), List.getElem?_eq_getElem _⟩
      obtain ⟨h1, h2⟩ := h.rd i p r hlt hp hr
      have hm := off_mono L (show i + 1 ≤ i0 by omega)
      refine ⟨r, hr, h1, ?_, ?_⟩
      · intro j t ht hq2
        have hjl : j < p.terms.length := (List.getElem?_eq_some_iff.1 ht).1
        have hf : fail fails (off L i + j) = false := good _ (by omega)
        have hsg := seenT_get hp ht i0 hlt
        have hl : off L i + j < (seenT L i0).length := (List.getElem?_eq_some_iff.1 hsg).1
        refine ⟨none, ?_, by rw [hf]; rfl, fun a ha => (by cases ha), by rw [List.getElem?_append_left hl]; exact hsg, fun hb => (by rw [hf] at hb; cases hb)⟩
        rw [h2, List.getElem?_map, ht]
        rfl
      · intro _
        rw [h2, List.length_map]
    · have : i = i0 := by omega
      subst this
      have hpp : p = p0 := by have := h.hp; rw [hp] at this; exact Option.some.inj this
      subst hpp
      obtain ⟨r, hr, h1, h2⟩ := h.last
      have hrl : r.2.2.length = j0 + 1 := by
        rw [h2, List.length_append, List.length_map, List.length_take]
        simp
        omega
      refine ⟨r, hr, h1, ?_, ?_⟩
      · intro j t ht hq2
        have hjle : j ≤ j0 := by
          rcases Nat.lt_or_ge j0 j with hlt | hge
          · have := hq2 (off L i + j0) (by omega)
            rw [bad] at this
            cases this
          · exact hge
        have hsn : (seenT L i ++ p.terms.take (j0 + 1))[off L i + j]? = some t := by
          rw [List.getElem?_append_right (by rw [seenT_length]; omega), seenT_length, Nat.add_sub_cancel_left, List.getElem?_take, if_pos (by omega)]
          exact ht
        rcases Nat.lt_or_ge j j0 with hlt | hge
        · have hf : fail fails (off L i + j) = false := good _ (by omega)
          refine ⟨none, ?_, by rw [hf]; rfl, fun a ha => (by cases ha), hsn, fun hb => (by rw [hf] at hb; cases hb)⟩
          rw [h2, List.getElem?_append_left (by rw [List.length_map, List.length_take]; omega), List.getElem?_map, List.getElem?_take, if_pos hlt, ht]
          rfl
        · have : j = j0 := by omega
          subst this
          have htt : t = t0 := by have := h.ht; rw [ht] at this; exact Option.some.inj this
          subst htt
          refine ⟨some ⟨g0, 0, none⟩, ?_, by rw [bad]; rfl, fun a ha => ⟨g0, (Option.some.inj ha).symm, ?_⟩, hsn, fun _ => ⟨hrl, h.rl, ?_, herr⟩⟩
          · rw [h2, List.getElem?_append_right (by rw [List.length_map, List.length_take]; omega), List.length_map, List.length_take]
            rw [show j - min j p.terms.length = 0 from by omega]
            rfl
          · have := h.err
            rwa [Nat.zero_add] at this
          · rw [List.length_append, seenT_length, htl]
            omega
      · intro hq2
        have := hq2 (off L i + j0) (by omega)
        rw [bad] at this
        cases this
  · intro hq
    have hm := off_mono L (show i0 + 1 ≤ L.length by omega)
    have := hq (off L i0 + j0) (by omega)
    rw [bad] at this
    cases this

theorem AnsDone.bound {B bk bf bs : Nat} {fa : Option Addr} {fc : Nat} {fails : List Bool} {k0 : Nat} {sn : List ByteArray} {L : List Rq} {w : World} {R : List Ra} {M : Nat} (h : AnsDone B bk bf bs fa fc fails k0 sn L w R) (hL : L.length ≤ M) (hT : ∀ p, p ∈ L → p.terms.length ≤ M) : R.length ≤ M ∧ ∀ q, q ∈ R → q.2.2.length ≤ M := by
  refine ⟨by rw [h.rl]; exact hL, fun q hq => ?_⟩
  obtain ⟨i, hi, rfl⟩ := List.getElem_of_mem hq
  have hiL : i < L.length := by rw [← h.rl]; exact hi
  rw [(h.rd i _ _ (List.getElem?_eq_getElem hiL) (List.getElem?_eq_getElem hi)).2, List.length_map]
  exact hT _ (List.getElem_mem hiL)
theorem AnsStop.bound {B bk bf bs : Nat} {fa : Option Addr} {fc : Nat} {fails : List Bool} {k0 : Nat} {sn : List ByteArray} {L : List Rq} {w : World} {R : List Ra} {i0 j0 : Nat} {p0 : Rq} {t0 : ByteArray} {g0 : Nat} {M : Nat} (h : AnsStop B bk bf bs fa fc fails k0 sn L w R i0 j0 p0 t0 g0) (hL : L.length ≤ M) (hT : ∀ p, p ∈ L → p.terms.length ≤ M) : R.length ≤ M ∧ ∀ q, q ∈ R → q.2.2.length ≤ M := by
  have hi0 : i0 < L.length := (List.getElem?_eq_some_iff.1 h.hp).1
  have hj0 : j0 < p0.terms.length := (List.getElem?_eq_some_iff.1 h.ht).1
  refine ⟨by rw [h.rl]; omega, fun q hq => ?_⟩
  obtain ⟨i, hi, rfl⟩ := List.getElem_of_mem hq
  rcases Nat.lt_or_ge i i0 with hlt | hge
  · have hiL : i < L.length := by omega
    rw [(h.rd i _ _ hlt (List.getElem?_eq_getElem hiL) (List.getElem?_eq_getElem hi)).2, List.length_map]
    exact hT _ (List.getElem_mem hiL)
  · have : i = i0 := by rw [h.rl] at hi; omega
    subst this
    obtain ⟨r, hr, _, h2⟩ := h.last
    have : R[i] = r := by
      rw [List.getElem?_eq_getElem hi] at hr
      exact Option.some.inj hr
    rw [this, h2, List.length_append, List.length_map, List.length_take]
    have := hT p0 (List.mem_of_getElem? h.hp)
    simp
    omega
end Go.Proofs.Ybulknkw
