/- Placements grouped by their starts: no Go in sight. -/
import Derived.Test.YbulknocFmtPl
namespace Go.Proofs.YbulknocFmt
open Go Go.Eng
set_option linter.unusedVariables false
set_option linter.unusedSimpArgs false

def addW (ws : List Int) (s : Int) : List Int := if s ∈ ws then ws else ws ++ [s]
def wsOf (L : List (Nat × Int)) : List Int := L.foldl (fun ws q => addW ws q.2) []
def grp (L : List (Nat × Int)) (s : Int) : List Nat := (L.filter fun q => decide (q.2 = s)).map (·.1)
theorem wsOf_snoc (L : List (Nat × Int)) (q : Nat × Int) : wsOf (L ++ [q]) = addW (wsOf L) q.2 := by simp [wsOf, List.foldl_append]
theorem wsOf_nil : wsOf [] = [] := rfl
theorem foldl_mem {s : Int} : ∀ (L : List (Nat × Int)) (ws : List Int), s ∈ L.foldl (fun ws q => addW ws q.2) ws ↔ s ∈ ws ∨ s ∈ L.map (·.2)
  | [], ws => by simp
  | q :: L, ws => by
    rw [List.foldl_cons, foldl_mem L]
    unfold addW
    simp only [List.map_cons, List.mem_cons]
    split
    · rename_i h
      constructor
      · rintro (h1 | h1)
        · exact .inl h1
        · exact .inr (.inr h1)
      · rintro (h1 | h1 | h1)
        · exact .inl h1
        · exact .inl (h1 ▸ h)
        · exact .inr h1
    · simp only [List.mem_append, List.mem_singleton]
      constructor
      · rintro ((h1 | h1) | h1)
        · exact .inl h1
        · exact .inr (.inl h1)
        · exact .inr (.inr h1)
      · rintro (h1 | h1 | h1)
        · exact .inl (.inl h1)
        · exact .inl (.inr h1)
        · exact .inr h1
theorem mem_wsOf {s : Int} {L : List (Nat × Int)} : s ∈ wsOf L ↔ s ∈ L.map (·.2) := by
  unfold wsOf
  rw [foldl_mem]
  simp
theorem foldl_nodup : ∀ (L : List (Nat × Int)) (ws : List Int), ws.Nodup → (L.foldl (fun ws q => addW ws q.2) ws).Nodup
  | [], ws, h => h
  | q :: L, ws, h => by
    rw [List.foldl_cons]
    refine foldl_nodup L _ ?_
    unfold addW
    split
    · exact h
    · rename_i hn
      rw [List.nodup_append]
      refine ⟨h, by simp, ?_⟩
      intro a ha b hb
      have : b = q.2 := by simpa using hb
      rintro rfl
      rw [this] at ha
      exact hn ha
theorem wsOf_nodup (L : List (Nat × Int)) : (wsOf L).Nodup := foldl_nodup L [] List.nodup_nil
theorem grp_snoc (L : List (Nat × Int)) (r : Nat) (s s' : Int) : grp (L ++ [(r, s)]) s' = if s = s' then grp L s' ++ [r] else grp L s' := by
  unfold grp
  rw [List.filter_append, List.map_append]
  by_cases h : s = s'
  · simp [h]
  · simp [h]
theorem grp_none {L : List (Nat × Int)} {s : Int} (h : s ∉ wsOf L) : grp L s = [] := by
  unfold grp
  rw [List.map_eq_nil_iff, List.filter_eq_nil_iff]
  intro q hq hs
  exact h (mem_wsOf.2 (List.mem_map.2 ⟨q, hq, by simpa using hs⟩))
theorem grp_some {L : List (Nat × Int)} {s : Int} (h : s ∈ wsOf L) : 0 < (grp L s).length := by
  obtain ⟨q, hq, rfl⟩ := List.mem_map.1 (mem_wsOf.1 h)
  unfold grp
  rw [List.length_map]
  exact List.length_pos_of_mem (List.mem_filter.2 ⟨hq, by simp⟩)
theorem idxOf_snoc {ws : List Int} {s s' : Int} (h : s ∈ ws) : (ws ++ [s']).idxOf s = ws.idxOf s := by
  rw [List.idxOf_append, if_pos h]
theorem idx_addW {ws : List Int} {s s' : Int} (h : s ∈ ws) : (addW ws s').idxOf s = ws.idxOf s := by
  unfold addW
  split
  · rfl
  · exact idxOf_snoc h
theorem idx_new {ws : List Int} {s : Int} (h : s ∉ ws) : (ws ++ [s]).idxOf s = ws.length := by
  rw [List.idxOf_append, if_neg h]
  simp

theorem nodup_inj {α : Type} : ∀ {l : List α} {i j : Nat} {a : α}, l.Nodup → l[i]? = some a → l[j]? = some a → i = j
  | [], i, j, a, _, h, _ => by simp at h
  | b :: l, 0, 0, a, _, _, _ => rfl
  | b :: l, 0, j + 1, a, hn, h, h' => by
    have h1 : b = a := by simpa using h
    have h2 : l[j]? = some a := by simpa using h'
    exact absurd (h1 ▸ List.mem_of_getElem? h2) (List.nodup_cons.1 hn).1
  | b :: l, i + 1, 0, a, hn, h, h' => by
    have h1 : b = a := by simpa using h'
    have h2 : l[i]? = some a := by simpa using h
    exact absurd (h1 ▸ List.mem_of_getElem? h2) (List.nodup_cons.1 hn).1
  | b :: l, i + 1, j + 1, a, hn, h, h' => by
    have h1 : l[i]? = some a := by simpa using h
    have h2 : l[j]? = some a := by simpa using h'
    rw [nodup_inj (List.nodup_cons.1 hn).2 h1 h2]

/-- The groups, one behind the other. -/
def groups (L : List (Nat × Int)) : List (List Nat) := (wsOf L).map (grp L)
theorem groups_hit {L : List (Nat × Int)} {r : Nat} {s : Int} (h : s ∈ wsOf L) : groups (L ++ [(r, s)]) = (groups L).set ((wsOf L).idxOf s) (grp L s ++ [r]) := by
  unfold groups
  rw [wsOf_snoc, addW, if_pos h]
  refine List.ext_getElem? fun i => ?_
  rw [List.getElem?_map, List.getElem?_set, List.getElem?_map]
  have hidx := List.idxOf_lt_length_of_mem h
  by_cases hi : (wsOf L).idxOf s = i
  · subst hi
    rw [if_pos rfl, List.length_map, if_pos hidx, List.getElem?_eq_getElem hidx, List.getElem_idxOf]
    simp [grp_snoc]
  · rw [if_neg hi]
    cases hw : (wsOf L)[i]? with
    | none => rfl
    | some s' =>
      simp only [Option.map_some]
      rw [grp_snoc]
      have hne : s ≠ s' := by
        rintro rfl
        exact hi (nodup_inj (wsOf_nodup L) (by rw [List.getElem?_eq_getElem hidx, List.getElem_idxOf]) hw)
      rw [if_neg hne]
theorem groups_new {L : List (Nat × Int)} {r : Nat} {s : Int} (h : s ∉ wsOf L) : groups (L ++ [(r, s)]) = groups L ++ [[r]] := by
  unfold groups
  rw [wsOf_snoc, addW, if_neg h, List.map_append]
  congr 1
  · refine List.map_congr_left fun s' hs' => ?_
    rw [grp_snoc, if_neg (fun (e : s = s') => h (by rw [e]; exact hs'))]
  · simp [grp_snoc, grp_none h]

/-! ### The counting sort -/
def sizes (L : List (Nat × Int)) : List Nat := (groups L).map List.length
theorem sum_snoc (l : List Nat) (a : Nat) : (l ++ [a]).sum = l.sum + a := by simp
theorem sizes_sum (L : List (Nat × Int)) : (sizes L).sum = L.length := by
  suffices h : ∀ n, n ≤ L.length → (sizes (L.take n)).sum = n by
    have := h L.length (Nat.le_refl _)
    rwa [List.take_length] at this
  intro n
  induction n with
  | zero => intro _; simp [sizes, groups, wsOf]
  | succ n ih =>
    intro hn
    have hlt : n < L.length := by omega
    rw [List.take_succ_eq_append_getElem hlt]
    obtain ⟨r, s⟩ := L[n]
    have ih := ih (by omega)
    by_cases h : s ∈ wsOf (L.take n)
    · unfold sizes at ih ⊢
      rw [groups_hit h, List.map_set]
      have hidx := List.idxOf_lt_length_of_mem h
      have hg : ((groups (L.take n)).map List.length)[(wsOf (L.take n)).idxOf s]? = some (grp (L.take n) s).length := by
        unfold groups
        rw [List.getElem?_map, List.getElem?_map, List.getElem?_eq_getElem hidx, List.getElem_idxOf]
        rfl
      have key : ∀ (l : List Nat) (i a : Nat), l[i]? = some a → (l.set i (a + 1)).sum = l.sum + 1 := by
        intro l
        induction l with
        | nil => intro i a h; simp at h
        | cons b l ihl =>
          intro i a h
          cases i with
          | zero => have : b = a := by simpa using h
                    subst this
                    simp; omega
          | succ i => have h' : l[i]? = some a := by simpa using h
                      simp [ihl i a h']; omega
      rw [List.length_append, List.length_singleton, key _ _ _ hg, ih]
    · unfold sizes at ih ⊢
      rw [groups_new h, List.map_append, List.map_cons, List.map_nil, sum_snoc, ih]
      rfl
end Go.Proofs.YbulknocFmt
