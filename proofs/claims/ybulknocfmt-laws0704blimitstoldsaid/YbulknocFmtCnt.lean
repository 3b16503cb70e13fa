/- How many windows a count-down from a time has met: no Go in sight. -/
import Derived.Test.YbulknocFmtGrp
namespace Go.Proofs.YbulknocFmt
open Go Go.Eng
set_option linter.unusedVariables false
set_option linter.unusedSimpArgs false

def cD (e s d : Int) : Int := if d ≤ s then 0 else (d - s - 1) / e + 1
theorem cD_zero {e s : Int} (h : 0 ≤ s) : cD e s 0 = 0 := by unfold cD; rw [if_pos h]
theorem div_step {e m : Int} (he : 0 < e) (hm : 0 ≤ m) : (m + 1) / e = m / e + (if (m + 1) % e = 0 then 1 else 0) := by
  have h1 := Int.mul_ediv_add_emod m e
  have h2 := Int.emod_nonneg m (show e ≠ 0 by omega)
  have h3 := Int.emod_lt_of_pos m he
  have h4 := Int.mul_ediv_add_emod (m + 1) e
  have h5 := Int.emod_nonneg (m + 1) (show e ≠ 0 by omega)
  have h6 := Int.emod_lt_of_pos (m + 1) he
  by_cases hr : m % e + 1 = e
  · have hq : (m + 1) = e * (m / e + 1) := by rw [Int.mul_add, Int.mul_one]; omega
    have e1 : (m + 1) / e = m / e + 1 := by rw [hq]; exact Int.mul_ediv_cancel_left _ (by omega)
    have e2 : (m + 1) % e = 0 := by rw [hq]; exact Int.mul_emod_right _ _
    rw [e1, if_pos e2]
  · have hq : (m + 1) = (m % e + 1) + e * (m / e) := by omega
    have e1 : (m + 1) / e = m / e := by
      rw [hq, Int.add_mul_ediv_left _ _ (by omega), Int.ediv_eq_zero_of_lt (by omega) (by omega), Int.zero_add]
    have e2 : (m + 1) % e = m % e + 1 := by
      rw [hq, Int.add_mul_emod_self_left, Int.emod_eq_of_lt (by omega) (by omega)]
    rw [e1, if_neg (by omega)]
    omega
theorem cD_step {e s d : Int} (he : 0 < e) (hs : 0 ≤ s) (hse : s < e) (hd : 0 ≤ d) : cD e s (d + 1) = cD e s d + (if (d - s) % e = 0 then 1 else 0) := by
  unfold cD
  by_cases h1 : d + 1 ≤ s
  · rw [if_pos h1, if_pos (by omega)]
    have : (d - s) % e = d - s + e := by
      have h5 : (d - s + e) % e = (d - s) % e := by simp
      rw [← h5, Int.emod_eq_of_lt (by omega) (by omega)]
    rw [if_neg (by omega)]
    rfl
  · rw [if_neg h1]
    by_cases h2 : d ≤ s
    · have : d = s := by omega
      subst this
      rw [if_pos (Int.le_refl _), show d + 1 - d - 1 = 0 by omega]
      simp
    · rw [if_neg h2]
      have := div_step (e := e) (m := d - s - 1) he (by omega)
      rw [show d - s - 1 + 1 = d - s by omega] at this
      rw [show d + 1 - s - 1 = d - s by omega, this]
      omega
theorem cD_hit {e s d : Int} (he : 0 < e) (hs : 0 ≤ s) (hse : s < e) (hd : 0 ≤ d) (h : (d - s) % e = 0) : d = s + cD e s d * e := by
  unfold cD
  by_cases h1 : d ≤ s
  · rw [if_pos h1]
    by_cases h2 : d = s
    · omega
    · have : (d - s) % e = d - s + e := by
        have h5 : (d - s + e) % e = (d - s) % e := by simp
        rw [← h5, Int.emod_eq_of_lt (by omega) (by omega)]
      omega
  · rw [if_neg h1]
    have hst := div_step (e := e) (m := d - s - 1) he (by omega)
    rw [show d - s - 1 + 1 = d - s by omega, if_pos h] at hst
    rw [← hst]
    have := Int.mul_ediv_add_emod (d - s) e
    rw [h, Int.mul_comm] at this
    omega
theorem hit_iff {x : Win} (hx : x.Ok) (t d : Int) : (t - d - x.o) % x.e = 0 ↔ (d - since x t) % x.e = 0 := by
  have he := hx.e1
  unfold since
  have h1 : (t - d - x.o) % x.e = ((t - x.o) % x.e - d) % x.e := by
    rw [show t - d - x.o = (t - x.o) - d by omega, Int.sub_emod, Int.sub_emod ((t - x.o) % x.e)]
    simp
  rw [h1]
  generalize (t - x.o) % x.e = s
  constructor
  · intro h
    have h2 := Int.dvd_of_emod_eq_zero h
    exact Int.emod_eq_zero_of_dvd (by have := Int.dvd_neg.2 h2; rwa [show -(s - d) = d - s by omega] at this)
  · intro h
    have h2 := Int.dvd_of_emod_eq_zero h
    exact Int.emod_eq_zero_of_dvd (by have := Int.dvd_neg.2 h2; rwa [show -(d - s) = s - d by omega] at this)
theorem cD_end {x : Win} (hx : x.Ok) (t : Int) : cD x.e (since x t) x.p = cntW x (since x t) := by
  have he := hx.e1
  unfold cD cntW
  by_cases h : x.p ≤ since x t
  · rw [if_pos h, if_pos h]
  · rw [if_neg h, if_neg (by omega), Int.tdiv_eq_ediv_of_nonneg (by omega)]
end Go.Proofs.YbulknocFmt
