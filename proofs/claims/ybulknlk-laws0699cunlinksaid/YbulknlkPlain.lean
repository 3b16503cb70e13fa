/- The list less one item, with no Go in sight. -/
import Derived.Test.YbulknlkLinks
namespace Go.Proofs.Ybulknlk
open Go Go.Eng
set_option linter.unusedVariables false
set_option linter.unusedSimpArgs false

def rot (k r i : Nat) : Nat := (i + r) % k
theorem rot_perm {k r : Nat} (hk : 0 < k) : Perm (rot k r) k := by
  refine ⟨fun i _ => Nat.mod_lt _ hk, fun i j hi hj h => ?_⟩
  unfold rot at h
  have h1 : (i + r) % k = (j + r) % k := h
  have e1 := Nat.div_add_mod (i + r) k
  have e2 := Nat.div_add_mod (j + r) k
  rcases Nat.lt_trichotomy ((i + r) / k) ((j + r) / k) with hlt | heq | hgt
  · have := Nat.mul_le_mul_left k (show (i + r) / k + 1 ≤ (j + r) / k by omega)
    rw [Nat.mul_add, Nat.mul_one] at this
    omega
  · rw [heq] at e1
    omega
  · have := Nat.mul_le_mul_left k (show (j + r) / k + 1 ≤ (i + r) / k by omega)
    rw [Nat.mul_add, Nat.mul_one] at this
    omega

section
variable (π : Nat → Nat) (k j : Nat)
def N0 (t : Nat) : Nat := if t = 0 then 0 else 2048 + π (t - 1)
def O0 (t : Nat) : Nat := if t + 1 < k then 2048 + π (t + 1) else 0
def ex' (t : Nat) : Nat := if t < j then t else t + 1
def cnt (i : Nat) : Nat := if i ≤ j then i else i - 1
def curV (t : Nat) : Nat := if t + 1 < k then 2048 + π (ex' j t) else 0
def prevV (t : Nat) : Nat := if t = 0 then 0 else 2048 + π (ex' j (t - 1))
def N1 : Nat → Nat := up (if j + 1 < k then up (N0 π) (j + 1) (N0 π j) else N0 π) j 0
def O1 : Nat → Nat := up (if j = 0 then O0 π k else up (O0 π k) (j - 1) (O0 π k j)) j 0
def nw1 : Nat := if j = 0 then O0 π k j else 2048 + π 0
def od1 : Nat := if j + 1 < k then 2048 + π (k - 1) else N0 π j
end
variable {π : Nat → Nat} {k j : Nat}

theorem nw1_cur (hj : j < k) : nw1 π k j = curV π k j 0 := by
  unfold nw1 curV O0 ex'
  by_cases h : j = 0
  · subst h; simp
  · have : 0 < j := by omega
    have : 0 + 1 < k := by omega
    simp [h, *]
theorem N1_prev (hj : j < k) {t : Nat} (ht : t + 1 < k) : N1 π k j (ex' j t) = prevV π j t := by
  have hne : ex' j t ≠ j := by unfold ex'; split <;> omega
  rw [N1, up_ne _ _ hne]
  by_cases h1 : t < j
  · have he : ex' j t = t := by simp [ex', h1]
    rw [he]
    have e2 : (if j + 1 < k then up (N0 π) (j + 1) (N0 π j) else N0 π) t = N0 π t := by
      split
      · exact up_ne _ _ (by omega)
      · rfl
    rw [e2, N0, prevV]
    by_cases h0 : t = 0
    · simp [h0]
    · have : ex' j (t - 1) = t - 1 := by unfold ex'; rw [if_pos (by omega)]
      rw [if_neg h0, if_neg h0, this]
  · have he : ex' j t = t + 1 := by simp [ex', h1]
    rw [he, if_pos (by omega)]
    by_cases h2 : t = j
    · subst h2
      rw [up_eq, N0, prevV]
      by_cases h0 : t = 0
      · simp [h0]
      · have : ex' t (t - 1) = t - 1 := by unfold ex'; rw [if_pos (by omega)]
        rw [if_neg h0, if_neg h0, this]
    · rw [up_ne _ _ (by omega), N0, prevV, if_neg (by omega), if_neg (by omega)]
      have : ex' j (t - 1) = t := by unfold ex'; rw [if_neg (by omega)]; omega
      rw [this, Nat.add_sub_cancel]
theorem O1_cur (hj : j < k) {t : Nat} (ht : t + 1 < k) : O1 π k j (ex' j t) = curV π k j (t + 1) := by
  have hne : ex' j t ≠ j := by unfold ex'; split <;> omega
  rw [O1, up_ne _ _ hne]
  by_cases h1 : t < j
  · have he : ex' j t = t := by simp [ex', h1]
    rw [he, if_neg (by omega)]
    by_cases h2 : t = j - 1
    · subst h2
      rw [up_eq, O0, curV]
      have e1 : j - 1 + 1 = j := by omega
      have : ex' j (j - 1 + 1) = j + 1 := by unfold ex'; rw [if_neg (by omega)]; omega
      rw [this, e1]
    · rw [up_ne _ _ h2, O0, curV, if_pos ht]
      have : ex' j (t + 1) = t + 1 := by unfold ex'; rw [if_pos (by omega)]
      rw [this, if_pos (by omega)]
  · have he : ex' j t = t + 1 := by simp [ex', h1]
    rw [he]
    have e2 : (if j = 0 then O0 π k else up (O0 π k) (j - 1) (O0 π k j)) (t + 1) = O0 π k (t + 1) := by
      split
      · rfl
      · exact up_ne _ _ (by omega)
    have : ex' j (t + 1) = t + 1 + 1 := by unfold ex'; rw [if_neg (by omega)]
    rw [e2, O0, curV, this]
theorem od1_prev (hj : j < k) : od1 π k j = prevV π j (k - 1) := by
  unfold od1 prevV
  by_cases h1 : j + 1 < k
  · have : ex' j (k - 1 - 1) = k - 1 := by unfold ex'; rw [if_neg (by omega)]; omega
    rw [if_pos h1, if_neg (by omega), this]
  · have hk : k - 1 = j := by omega
    rw [if_neg h1, hk, N0]
    by_cases h0 : j = 0
    · simp [h0]
    · have : ex' j (j - 1) = j - 1 := by unfold ex'; rw [if_pos (by omega)]
      rw [if_neg h0, if_neg h0, this]
theorem N1_gone : N1 π k j j = 0 := up_eq _ _ _
theorem O1_gone : O1 π k j j = 0 := up_eq _ _ _
theorem curV_end (hj : j < k) : curV π k j (k - 1) = 0 := by unfold curV; rw [if_neg (by omega)]
theorem cnt_end (hj : j < k) : cnt j k = k - 1 := by unfold cnt; rw [if_neg (by omega)]
theorem cnt_hit : cnt j (j + 1) = cnt j j := by unfold cnt; rw [if_neg (by omega), if_pos (by omega)]; omega
theorem cnt_miss {i : Nat} (h : i ≠ j) : cnt j (i + 1) = cnt j i + 1 ∧ ex' j (cnt j i) = i := by
  unfold cnt ex'
  by_cases h1 : i ≤ j
  · rw [if_pos (by omega), if_pos h1]; exact ⟨rfl, by rw [if_pos (by omega)]⟩
  · rw [if_neg (by omega), if_neg h1]; exact ⟨by omega, by rw [if_neg (by omega)]; omega⟩

/-- The links while they are laid: those below 'i' stand. -/
def upto (f : Nat → Nat) (i : Nat) : Nat → Nat := fun t => if t < i then f t else 0
theorem upto_succ (f : Nat → Nat) (i : Nat) : up (upto f i) i (f i) = upto f (i + 1) := by
  funext t
  unfold up upto
  by_cases h : t = i
  · subst h; simp
  · rw [if_neg h]
    by_cases h1 : t < i
    · rw [if_pos h1, if_pos (by omega)]
    · rw [if_neg h1, if_neg (by omega)]
end Go.Proofs.Ybulknlk
