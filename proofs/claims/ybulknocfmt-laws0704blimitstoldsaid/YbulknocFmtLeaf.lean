/- The small functions on numbers. -/
import Derived.Test.YbulknocFmtTy
import Derived.Test.YbulknocFmtRange
namespace Go.Proofs.YbulknocFmt
open Go Go.Eng Go.RowKit
set_option linter.unusedSimpArgs false
set_option linter.unusedVariables false

/-- What lays out windows: every, period, offset. -/
structure Win where
  e : Int
  p : Int
  o : Int
structure Win.Ok (x : Win) : Prop where
  e1 : 1 ≤ x.e
  e8 : x.e ≤ 8
  p1 : 1 ≤ x.p
  p16 : x.p ≤ 16
  o1 : -128 ≤ x.o
  o2 : x.o ≤ 127
abbrev winRow (x : Win) : Array Value := #[.int .i64 x.e, .int .i64 x.p, .int .i64 x.o]

theorem tmod_fix {a m : Int} (hm : 0 < m) : (if a.tmod m < 0 then a.tmod m + m else a.tmod m) = a % m := by
  have h1 := Int.tmod_add_mul_tdiv a m
  rcases Int.lt_or_le a 0 with ha | ha
  · have hneg : a.tmod m ≤ 0 := by
      have := Int.tmod_nonneg m (a := -a) (by omega)
      rw [Int.neg_tmod] at this
      omega
    have hgt : -m < a.tmod m := by
      have := Int.tmod_lt_of_pos (-a) hm
      rw [Int.neg_tmod] at this
      omega
    split
    · have h2 : a = (a.tmod m + m) + m * (a.tdiv m - 1) := by rw [Int.mul_sub, Int.mul_one]; omega
      have h3 : a % m = ((a.tmod m + m) + m * (a.tdiv m - 1)) % m := by rw [← h2]
      rw [h3, Int.add_mul_emod_self_left, Int.emod_eq_of_lt (by omega) (by omega)]
    · have h0 : a.tmod m = 0 := by omega
      rw [h0]
      have h2 : a = 0 + m * a.tdiv m := by omega
      have h3 : a % m = (0 + m * a.tdiv m) % m := by rw [← h2]
      rw [h3, Int.add_mul_emod_self_left]
      simp
  · have hnn := Int.tmod_nonneg m ha
    rw [if_neg (by omega), Int.tmod_eq_emod_of_nonneg ha]

theorem mod30 {w : World} {a m : Int} (hm : 0 < m) (hb : m ≤ 1000) : Calls Ybaf.prog 30 #[.int .i64 a, .int .i64 m] w fun e w' => ∃ v, e = .returned v ∧ (v = .int .i64 (a % m) ∧ w' = w) := by
  have hf := tmod_fix (a := a) hm
  have hlt := Int.tmod_lt_of_pos a hm
  have hgt : -m < a.tmod m := by
    have := Int.tmod_lt_of_pos (-a) hm
    rw [Int.neg_tmod] at this
    omega
  refine calls_of Ybaf.func30 rfl rfl ?_
  refine WP.seq ?_
  refine WP.region ?_
  refine RL.val rfl (ex_assign (by conv => lhs; whnf)) ?_
  refine RL.nil ?_
  refine WP.seq ?_
  refine WP.region ?_
  refine RL.val rfl (ex_move (by conv => lhs; whnf)) ?_
  refine RL.val rfl (ex_move (by conv => lhs; whnf)) ?_
  refine RL.val rfl (ex_rem (by conv => lhs; whnf) (by conv => lhs; whnf) (by omega)) ?_
  refine RL.val rfl (ex_assign (by conv => lhs; whnf)) ?_
  refine RL.nil ?_
  refine WP.seqc (fun F wr => Has F [(5, .int .i64 (a % m))] ∧ wr = w) ?_ ?_
  · refine WP.seq ?_
    refine WP.region ?_
    refine RL.val rfl (ex_move (by conv => lhs; whnf)) ?_
    refine RL.val rfl (ex_lss (by conv => lhs; whnf) (by conv => lhs; whnf)) ?_
    refine RL.nil ?_
    by_cases hn : a.tmod m < 0
    · refine WP.cond_true (congrArg Value.bool (decide_eq_true hn)) ?_
      rw [if_pos hn] at hf
      refine WP.region ?_
      refine RL.val rfl (ex_move (by conv => lhs; whnf)) ?_
      refine RL.val rfl (ex_move (by conv => lhs; whnf)) ?_
      refine RL.val rfl (ex_add (by conv => lhs; whnf) (by conv => lhs; whnf) (wrap_i64 (by omega) (by omega))) ?_
      refine RL.val rfl (ex_assign (by conv => lhs; whnf)) ?_
      refine RL.nil ?_
      exact ⟨⟨by rw [← hf]; rfl, trivial⟩, rfl⟩
    · refine WP.cond_false (congrArg Value.bool (decide_eq_false hn)) ?_
      rw [if_neg hn] at hf
      refine WP.skip ?_
      exact ⟨⟨by rw [← hf]; rfl, trivial⟩, rfl⟩
  rintro F wr ⟨hF, rfl⟩
  obtain ⟨G, rfl⟩ := hF.get
  clear hF
  refine WP.seq ?_
  refine WP.region ?_
  refine RL.val rfl (ex_move (by conv => lhs; whnf)) ?_
  refine RL.val rfl (ex_assign (by conv => lhs; whnf)) ?_
  refine RL.nil ?_
  refine WP.ret ?_
  repeat (first | refine thenQ_ret ?_ | refine blockQ_ret ?_)
  exact bodyQ_tmp rfl ⟨rfl, rfl⟩
theorem mod18 {w : World} {a m : Int} (hm : 0 < m) (hb : m ≤ 1000) : Calls Ybaf.prog 18 #[.int .i64 a, .int .i64 m] w fun e w' => ∃ v, e = .returned v ∧ (v = .int .i64 (a % m) ∧ w' = w) := by
  have hf := tmod_fix (a := a) hm
  have hlt := Int.tmod_lt_of_pos a hm
  have hgt : -m < a.tmod m := by
    have := Int.tmod_lt_of_pos (-a) hm
    rw [Int.neg_tmod] at this
    omega
  refine calls_of Ybaf.func18 rfl rfl ?_
  refine WP.seq ?_
  refine WP.region ?_
  refine RL.val rfl (ex_assign (by conv => lhs; whnf)) ?_
  refine RL.nil ?_
  refine WP.seq ?_
  refine WP.region ?_
  refine RL.val rfl (ex_move (by conv => lhs; whnf)) ?_
  refine RL.val rfl (ex_move (by conv => lhs; whnf)) ?_
  refine RL.val rfl (ex_rem (by conv => lhs; whnf) (by conv => lhs; whnf) (by omega)) ?_
  refine RL.val rfl (ex_assign (by conv => lhs; whnf)) ?_
  refine RL.nil ?_
  refine WP.seqc (fun F wr => Has F [(5, .int .i64 (a % m))] ∧ wr = w) ?_ ?_
  · refine WP.seq ?_
    refine WP.region ?_
    refine RL.val rfl (ex_move (by conv => lhs; whnf)) ?_
    refine RL.val rfl (ex_lss (by conv => lhs; whnf) (by conv => lhs; whnf)) ?_
    refine RL.nil ?_
    by_cases hn : a.tmod m < 0
    · refine WP.cond_true (congrArg Value.bool (decide_eq_true hn)) ?_
      rw [if_pos hn] at hf
      refine WP.region ?_
      refine RL.val rfl (ex_move (by conv => lhs; whnf)) ?_
      refine RL.val rfl (ex_move (by conv => lhs; whnf)) ?_
      refine RL.val rfl (ex_add (by conv => lhs; whnf) (by conv => lhs; whnf) (wrap_i64 (by omega) (by omega))) ?_
      refine RL.val rfl (ex_assign (by conv => lhs; whnf)) ?_
      refine RL.nil ?_
      exact ⟨⟨by rw [← hf]; rfl, trivial⟩, rfl⟩
    · refine WP.cond_false (congrArg Value.bool (decide_eq_false hn)) ?_
      rw [if_neg hn] at hf
      refine WP.skip ?_
      exact ⟨⟨by rw [← hf]; rfl, trivial⟩, rfl⟩
  rintro F wr ⟨hF, rfl⟩
  obtain ⟨G, rfl⟩ := hF.get
  clear hF
  refine WP.seq ?_
  refine WP.region ?_
  refine RL.val rfl (ex_move (by conv => lhs; whnf)) ?_
  refine RL.val rfl (ex_assign (by conv => lhs; whnf)) ?_
  refine RL.nil ?_
  refine WP.ret ?_
  repeat (first | refine thenQ_ret ?_ | refine blockQ_ret ?_)
  exact bodyQ_tmp rfl ⟨rfl, rfl⟩

def since (x : Win) (t : Int) : Int := (t - x.o) % x.e
def cntW (x : Win) (s : Int) : Int := if s ≥ x.p then 0 else (x.p - s - 1).tdiv x.e + 1
theorem since_eq {x : Win} (hx : x.Ok) (t : Int) : (if t % x.e - x.o % x.e < 0 then t % x.e - x.o % x.e + x.e else t % x.e - x.o % x.e) = since x t := by
  have he := hx.e1
  have h1 := Int.emod_nonneg t (show x.e ≠ 0 by omega)
  have h2 := Int.emod_lt_of_pos t (show 0 < x.e by omega)
  have h3 := Int.emod_nonneg x.o (show x.e ≠ 0 by omega)
  have h4 := Int.emod_lt_of_pos x.o (show 0 < x.e by omega)
  unfold since
  rw [Int.sub_emod]
  generalize t % x.e = p at *
  generalize x.o % x.e = q at *
  split
  · have h5 : (p - q + x.e) % x.e = (p - q) % x.e := by simp
    rw [← h5, Int.emod_eq_of_lt (by omega) (by omega)]
  · rw [Int.emod_eq_of_lt (by omega) (by omega)]
theorem since_lo {x : Win} (hx : x.Ok) (t : Int) : 0 ≤ since x t := Int.emod_nonneg _ (by have := hx.e1; omega)
theorem since_hi {x : Win} (hx : x.Ok) (t : Int) : since x t < x.e := Int.emod_lt_of_pos _ (by have := hx.e1; omega)

set_option maxRecDepth 100000 in
theorem sinceStart {w : World} {x : Win} (hx : x.Ok) {t : Int} (ht : -1000 ≤ t) (ht2 : t ≤ 1000) : Calls Ybaf.prog 24 #[.agg (winRow x), .int .i64 t] w fun e w' => ∃ v, e = .returned v ∧ (v = .int .i64 (since x t) ∧ Fr (fun _ => False) w w') := by
  have hfr0 : Fr (fun _ => False) w w := Fr.refl w
  obtain ⟨e1, e8, p1, p16, o1, o2⟩ := hx
  have hs := since_eq ⟨e1, e8, p1, p16, o1, o2⟩ t
  have h1 := Int.emod_nonneg t (show x.e ≠ 0 by omega)
  have h2 := Int.emod_lt_of_pos t (show 0 < x.e by omega)
  have h3 := Int.emod_nonneg x.o (show x.e ≠ 0 by omega)
  have h4 := Int.emod_lt_of_pos x.o (show 0 < x.e by omega)
  refine calls_of Ybaf.func24 rfl rfl ?_
  refine WP.seq ?_
  have FRsz := Fr.size hfr0
  refine WP.region ?_
  refine RL.val rfl (ex_box (by conv => lhs; whnf) (by first | (conv => lhs; simp only [sz_al, sz_sr, sz_dn]) | rfl)) ?_
  refine RL.val rfl (ex_assign (by conv => lhs; whnf)) ?_
  refine RL.nil ?_
  refine WP.seq ?_
  refine WP.draw [] (by kernel_rfl) ?_
  refine AE.take 0 rfl (by kernel_rfl) rfl (fun w' hw => ex_move (by conv => lhs; whnf)) (Ext.drew (Ext.refl _) 1) ?_
  refine AE.take 1 rfl (by kernel_rfl) rfl (fun w' hw => ex_fieldAddr (by conv => lhs; whnf) Ybaf.fo32_0) (Ext.drew (Ext.refl _) 1) ?_
  refine AE.take 2 rfl (by kernel_rfl) rfl (fun w' hw => ex_loadB (by conv => lhs; whnf) Ybaf.sc2 (hw.keep (an' (by first | (simp only [sz_al, sz_sr, sz_dn]; done) | rfl | omega | (simp only [sz_al, sz_sr, sz_dn]; omega)))) (by conv => lhs; whnf)) (Ext.drew (Ext.refl _) 1) ?_
  refine AE.take 4 rfl (by kernel_rfl) rfl (fun w' hw => ex_fieldAddr (by conv => lhs; whnf) Ybaf.fo32_2) (Ext.drew (Ext.refl _) 1) ?_
  refine AE.take 5 rfl (by kernel_rfl) rfl (fun w' hw => ex_loadB (by conv => lhs; whnf) Ybaf.sc2 (hw.keep (an' (by first | (simp only [sz_al, sz_sr, sz_dn]; done) | rfl | omega | (simp only [sz_al, sz_sr, sz_dn]; omega)))) (by conv => lhs; whnf)) (Ext.drew (Ext.refl _) 1) ?_
  refine AE.take 6 rfl (by kernel_rfl) rfl (fun w' hw => ex_fieldAddr (by conv => lhs; whnf) Ybaf.fo32_0) (Ext.drew (Ext.refl _) 1) ?_
  refine AE.take 7 rfl (by kernel_rfl) rfl (fun w' hw => ex_loadB (by conv => lhs; whnf) Ybaf.sc2 (hw.keep (an' (by first | (simp only [sz_al, sz_sr, sz_dn]; done) | rfl | omega | (simp only [sz_al, sz_sr, sz_dn]; omega)))) (by conv => lhs; whnf)) (Ext.drew (Ext.refl _) 1) ?_
  refine AE.call 3 rfl (by kernel_rfl) rfl (ex_call2 rfl (by conv => lhs; whnf) (by conv => lhs; whnf) Ybaf.fun30) (mod30 (by omega) (by omega)) ?_
  rintro v w2 ⟨rfl, rfl⟩
  refine ⟨fun _ => (Ext.drew (Ext.refl _) 1), ?_⟩
  refine AE.call 8 rfl (by kernel_rfl) rfl (ex_call2 rfl (by conv => lhs; whnf) (by conv => lhs; whnf) Ybaf.fun30) (mod30 (by omega) (by omega)) ?_
  rintro v w2 ⟨rfl, rfl⟩
  refine ⟨fun _ => (Ext.drew (Ext.refl _) 1), ?_⟩
  refine AE.take 9 rfl (by kernel_rfl) rfl (fun w' hw => ex_sub (by conv => lhs; whnf) (by conv => lhs; whnf) (wrap_i64 (by omega) (by omega))) (Ext.drew (Ext.refl _) 1) ?_
  refine AE.take 10 rfl (by kernel_rfl) rfl (fun w' hw => ex_assign (by conv => lhs; whnf)) (Ext.drew (Ext.refl _) 1) ?_
  refine AE.nil (by kernel_rfl) ?_
  refine WP.seqc (fun F wr => Has F [(5, .int .i64 (since x t))] ∧ Fr (fun _ => False) w wr) ?_ ?_
  · refine WP.seq ?_
    refine WP.region ?_
    refine RL.val rfl (ex_move (by conv => lhs; whnf)) ?_
    refine RL.val rfl (ex_lss (by conv => lhs; whnf) (by conv => lhs; whnf)) ?_
    refine RL.nil ?_
    by_cases hn : t % x.e - x.o % x.e < 0
    · refine WP.cond_true (congrArg Value.bool (decide_eq_true hn)) ?_
      rw [if_pos hn] at hs
      refine WP.region ?_
      refine RL.val rfl (ex_move (by conv => lhs; whnf)) ?_
      refine RL.val rfl (ex_fieldAddr (by conv => lhs; whnf) Ybaf.fo32_0) ?_
      refine RL.val rfl (ex_loadB (by conv => lhs; whnf) Ybaf.sc2 (an' (by first | (simp only [sz_al, sz_sr, sz_dn]; done) | rfl | omega | (simp only [sz_al, sz_sr, sz_dn]; omega))) (by conv => lhs; whnf)) ?_
      refine RL.val rfl (ex_add (by conv => lhs; whnf) (by conv => lhs; whnf) (wrap_i64 (by omega) (by omega))) ?_
      refine RL.val rfl (ex_assign (by conv => lhs; whnf)) ?_
      refine RL.nil ?_
      exact ⟨⟨by rw [← hs]; rfl, trivial⟩, (Fr.drew (Fr.alloc hfr0 _) 1)⟩
    · refine WP.cond_false (congrArg Value.bool (decide_eq_false hn)) ?_
      rw [if_neg hn] at hs
      refine WP.skip ?_
      exact ⟨⟨by rw [← hs]; rfl, trivial⟩, (Fr.drew (Fr.alloc hfr0 _) 1)⟩
  rintro F wr ⟨hF, hfr⟩
  obtain ⟨G, rfl⟩ := hF.get
  clear hF
  refine WP.seq ?_
  refine WP.region ?_
  refine RL.val rfl (ex_move (by conv => lhs; whnf)) ?_
  refine RL.val rfl (ex_assign (by conv => lhs; whnf)) ?_
  refine RL.nil ?_
  refine WP.ret ?_
  repeat (first | refine thenQ_ret ?_ | refine blockQ_ret ?_)
  exact bodyQ_tmp rfl ⟨rfl, hfr⟩
set_option maxRecDepth 100000 in
theorem count {w : World} {x : Win} (hx : x.Ok) {s : Int} (h0 : 0 ≤ s) (h1 : s ≤ 1000) : Calls Ybaf.prog 23 #[.agg (winRow x), .int .i64 s] w fun e w' => ∃ v, e = .returned v ∧ (v = .int .i64 (cntW x s) ∧ Fr (fun _ => False) w w') := by
  have hfr0 : Fr (fun _ => False) w w := Fr.refl w
  obtain ⟨e1, e8, p1, p16, o1, o2⟩ := hx
  refine calls_of Ybaf.func23 rfl rfl ?_
  refine WP.seq ?_
  have FRsz := Fr.size hfr0
  refine WP.region ?_
  refine RL.val rfl (ex_box (by conv => lhs; whnf) (by first | (conv => lhs; simp only [sz_al, sz_sr, sz_dn]) | rfl)) ?_
  refine RL.val rfl (ex_assign (by conv => lhs; whnf)) ?_
  refine RL.nil ?_
  refine WP.seq ?_
  refine WP.seq ?_
  refine WP.region ?_
  refine RL.val rfl (ex_move (by conv => lhs; whnf)) ?_
  refine RL.val rfl (ex_fieldAddr (by conv => lhs; whnf) Ybaf.fo32_1) ?_
  refine RL.val rfl (ex_loadB (by conv => lhs; whnf) Ybaf.sc2 (an' (by first | (simp only [sz_al, sz_sr, sz_dn]; done) | rfl | omega | (simp only [sz_al, sz_sr, sz_dn]; omega))) (by conv => lhs; whnf)) ?_
  refine RL.val rfl (ex_geq (by conv => lhs; whnf) (by conv => lhs; whnf)) ?_
  refine RL.nil ?_
  by_cases hn : s ≥ x.p
  · refine WP.cond_true (congrArg Value.bool (decide_eq_true hn)) ?_
    refine WP.seq ?_
    refine WP.region ?_
    refine RL.val rfl (ex_assign (by conv => lhs; whnf)) ?_
    refine RL.nil ?_
    refine WP.ret ?_
    repeat (first | refine thenQ_ret ?_ | refine blockQ_ret ?_)
    exact bodyQ_tmp rfl ⟨by rw [cntW, if_pos hn]; rfl, (Fr.alloc hfr0 _)⟩
  · refine WP.cond_false (congrArg Value.bool (decide_eq_false hn)) ?_
    refine WP.skip ?_
    have hq1 : 0 ≤ (x.p - s - 1).tdiv x.e := Int.tdiv_nonneg (by omega) (by omega)
    have hq2 : (x.p - s - 1).tdiv x.e ≤ x.p - s - 1 := by
      rw [Int.tdiv_eq_ediv_of_nonneg (by omega)]
      exact Int.ediv_le_self _ (by omega)
    refine WP.seq ?_
    refine WP.region ?_
    refine RL.val rfl (ex_fieldAddr (by conv => lhs; whnf) Ybaf.fo32_1) ?_
    refine RL.val rfl (ex_loadB (by conv => lhs; whnf) Ybaf.sc2 (an' (by first | (simp only [sz_al, sz_sr, sz_dn]; done) | rfl | omega | (simp only [sz_al, sz_sr, sz_dn]; omega))) (by conv => lhs; whnf)) ?_
    refine RL.val rfl (ex_move (by conv => lhs; whnf)) ?_
    refine RL.val rfl (ex_sub (by conv => lhs; whnf) (by conv => lhs; whnf) (wrap_i64 (by omega) (by omega))) ?_
    refine RL.val rfl (ex_sub (by conv => lhs; whnf) (by conv => lhs; whnf) (wrap_i64 (by omega) (by omega))) ?_
    refine RL.val rfl (ex_fieldAddr (by conv => lhs; whnf) Ybaf.fo32_0) ?_
    refine RL.val rfl (ex_loadB (by conv => lhs; whnf) Ybaf.sc2 (an' (by first | (simp only [sz_al, sz_sr, sz_dn]; done) | rfl | omega | (simp only [sz_al, sz_sr, sz_dn]; omega))) (by conv => lhs; whnf)) ?_
    refine RL.val rfl (ex_quo (by conv => lhs; whnf) (by conv => lhs; whnf) (by omega) (wrap_i64 (by omega) (by omega))) ?_
    refine RL.val rfl (ex_add (by conv => lhs; whnf) (by conv => lhs; whnf) (wrap_i64 (by omega) (by omega))) ?_
    refine RL.val rfl (ex_assign (by conv => lhs; whnf)) ?_
    refine RL.nil ?_
    refine WP.ret ?_
    repeat (first | refine thenQ_ret ?_ | refine blockQ_ret ?_)
    exact bodyQ_tmp rfl ⟨by rw [cntW, if_neg hn]; rfl, (Fr.alloc hfr0 _)⟩
set_option maxRecDepth 100000 in
theorem satAdd {w : World} {a b : Int} (ha : -100000 ≤ a) (ha2 : a ≤ 100000) (hb : -100000 ≤ b) (hb2 : b ≤ 100000) : Calls Ybaf.prog 32 #[.int .i64 a, .int .i64 b] w fun e w' => ∃ v, e = .returned v ∧ (v = .int .i64 (a + b) ∧ w' = w) := by
  refine calls_of Ybaf.func32 rfl rfl ?_
  refine WP.seq ?_
  refine WP.region ?_
  refine RL.val rfl (ex_assign (by conv => lhs; whnf)) ?_
  refine RL.nil ?_
  refine WP.seqc (fun F wr => Has F [(0, .int .i64 a), (1, .int .i64 b)] ∧ wr = w) ?_ ?_
  · refine WP.block ?_
    refine WP.seq ?_
    rcases Int.lt_trichotomy b 0 with hn | hn | hn
    · have d1 : decide (0 < b) = false := decide_eq_false (by omega)
      have d2 : decide (b < 0) = true := decide_eq_true hn
      refine WP.region ?_
      refine RL.val rfl (ex_move (by conv => lhs; whnf)) ?_
      refine RL.val rfl (ex_gtr (by conv => lhs; whnf) (by conv => lhs; whnf)) ?_
      refine RL.val rfl (ex_move (by conv => lhs; whnf)) ?_
      refine RL.skip (dj := 8) (b := false) rfl rfl (congrArg Value.bool d1) rfl ?_
      refine RL.skip (dj := 8) (b := false) rfl rfl (congrArg Value.bool d1) rfl ?_
      refine RL.skip (dj := 8) (b := false) rfl rfl (congrArg Value.bool d1) rfl ?_
      refine RL.skip (dj := 8) (b := false) rfl rfl (congrArg Value.bool d1) rfl ?_
      refine RL.val rfl (ex_pick_f (congrArg Value.bool d1) (by conv => lhs; whnf)) ?_
      refine RL.val rfl (ex_assign (by conv => lhs; whnf)) ?_
      refine RL.nil ?_
      refine WP.cond_false rfl ?_
      refine WP.seq ?_
      refine WP.region ?_
      refine RL.val rfl (ex_move (by conv => lhs; whnf)) ?_
      refine RL.val rfl (ex_lss (by conv => lhs; whnf) (by conv => lhs; whnf)) ?_
      refine RL.val rfl (ex_move (by conv => lhs; whnf)) ?_
      refine RL.take (dj := 17) rfl (congrArg Value.bool d2) ?_
      refine RL.val rfl (ex_move (by conv => lhs; whnf)) ?_
      refine RL.take (dj := 17) rfl (congrArg Value.bool d2) ?_
      refine RL.val rfl (ex_move (by conv => lhs; whnf)) ?_
      refine RL.take (dj := 17) rfl (congrArg Value.bool d2) ?_
      refine RL.val rfl (ex_sub (by conv => lhs; whnf) (by conv => lhs; whnf) (wrap_i64 (by omega) (by omega))) ?_
      refine RL.take (dj := 17) rfl (congrArg Value.bool d2) ?_
      refine RL.val rfl (ex_lss (by conv => lhs; whnf) (by conv => lhs; whnf)) ?_
      refine RL.val rfl (ex_pick_t (congrArg Value.bool d2) (by conv => lhs; whnf)) ?_
      refine RL.val rfl (ex_assign (by conv => lhs; whnf)) ?_
      refine RL.nil ?_
      refine WP.cond_false (congrArg Value.bool (decide_eq_false (by omega))) ?_
      refine WP.skip ?_
      exact ⟨⟨rfl, rfl, trivial⟩, rfl⟩
    · have d1 : decide (0 < b) = false := decide_eq_false (by omega)
      have d2 : decide (b < 0) = false := decide_eq_false (by omega)
      refine WP.region ?_
      refine RL.val rfl (ex_move (by conv => lhs; whnf)) ?_
      refine RL.val rfl (ex_gtr (by conv => lhs; whnf) (by conv => lhs; whnf)) ?_
      refine RL.val rfl (ex_move (by conv => lhs; whnf)) ?_
      refine RL.skip (dj := 8) (b := false) rfl rfl (congrArg Value.bool d1) rfl ?_
      refine RL.skip (dj := 8) (b := false) rfl rfl (congrArg Value.bool d1) rfl ?_
      refine RL.skip (dj := 8) (b := false) rfl rfl (congrArg Value.bool d1) rfl ?_
      refine RL.skip (dj := 8) (b := false) rfl rfl (congrArg Value.bool d1) rfl ?_
      refine RL.val rfl (ex_pick_f (congrArg Value.bool d1) (by conv => lhs; whnf)) ?_
      refine RL.val rfl (ex_assign (by conv => lhs; whnf)) ?_
      refine RL.nil ?_
      refine WP.cond_false rfl ?_
      refine WP.seq ?_
      refine WP.region ?_
      refine RL.val rfl (ex_move (by conv => lhs; whnf)) ?_
      refine RL.val rfl (ex_lss (by conv => lhs; whnf) (by conv => lhs; whnf)) ?_
      refine RL.val rfl (ex_move (by conv => lhs; whnf)) ?_
      refine RL.skip (dj := 17) (b := false) rfl rfl (congrArg Value.bool d2) rfl ?_
      refine RL.skip (dj := 17) (b := false) rfl rfl (congrArg Value.bool d2) rfl ?_
      refine RL.skip (dj := 17) (b := false) rfl rfl (congrArg Value.bool d2) rfl ?_
      refine RL.skip (dj := 17) (b := false) rfl rfl (congrArg Value.bool d2) rfl ?_
      refine RL.val rfl (ex_pick_f (congrArg Value.bool d2) (by conv => lhs; whnf)) ?_
      refine RL.val rfl (ex_assign (by conv => lhs; whnf)) ?_
      refine RL.nil ?_
      refine WP.cond_false rfl ?_
      refine WP.skip ?_
      exact ⟨⟨rfl, rfl, trivial⟩, rfl⟩
    · have d1 : decide (0 < b) = true := decide_eq_true hn
      have d2 : decide (b < 0) = false := decide_eq_false (by omega)
      refine WP.region ?_
      refine RL.val rfl (ex_move (by conv => lhs; whnf)) ?_
      refine RL.val rfl (ex_gtr (by conv => lhs; whnf) (by conv => lhs; whnf)) ?_
      refine RL.val rfl (ex_move (by conv => lhs; whnf)) ?_
      refine RL.take (dj := 8) rfl (congrArg Value.bool d1) ?_
      refine RL.val rfl (ex_move (by conv => lhs; whnf)) ?_
      refine RL.take (dj := 8) rfl (congrArg Value.bool d1) ?_
      refine RL.val rfl (ex_move (by conv => lhs; whnf)) ?_
      refine RL.take (dj := 8) rfl (congrArg Value.bool d1) ?_
      refine RL.val rfl (ex_sub (by conv => lhs; whnf) (by conv => lhs; whnf) (wrap_i64 (by omega) (by omega))) ?_
      refine RL.take (dj := 8) rfl (congrArg Value.bool d1) ?_
      refine RL.val rfl (ex_gtr (by conv => lhs; whnf) (by conv => lhs; whnf)) ?_
      refine RL.val rfl (ex_pick_t (congrArg Value.bool d1) (by conv => lhs; whnf)) ?_
      refine RL.val rfl (ex_assign (by conv => lhs; whnf)) ?_
      refine RL.nil ?_
      refine WP.cond_false (congrArg Value.bool (decide_eq_false (by omega))) ?_
      refine WP.seq ?_
      refine WP.region ?_
      refine RL.val rfl (ex_move (by conv => lhs; whnf)) ?_
      refine RL.val rfl (ex_lss (by conv => lhs; whnf) (by conv => lhs; whnf)) ?_
      refine RL.val rfl (ex_move (by conv => lhs; whnf)) ?_
      refine RL.skip (dj := 17) (b := false) rfl rfl (congrArg Value.bool d2) rfl ?_
      refine RL.skip (dj := 17) (b := false) rfl rfl (congrArg Value.bool d2) rfl ?_
      refine RL.skip (dj := 17) (b := false) rfl rfl (congrArg Value.bool d2) rfl ?_
      refine RL.skip (dj := 17) (b := false) rfl rfl (congrArg Value.bool d2) rfl ?_
      refine RL.val rfl (ex_pick_f (congrArg Value.bool d2) (by conv => lhs; whnf)) ?_
      refine RL.val rfl (ex_assign (by conv => lhs; whnf)) ?_
      refine RL.nil ?_
      refine WP.cond_false rfl ?_
      refine WP.skip ?_
      exact ⟨⟨rfl, rfl, trivial⟩, rfl⟩
  rintro F wr ⟨hF, rfl⟩
  obtain ⟨G, rfl⟩ := hF.get
  clear hF
  refine WP.seq ?_
  refine WP.region ?_
  refine RL.val rfl (ex_move (by conv => lhs; whnf)) ?_
  refine RL.val rfl (ex_move (by conv => lhs; whnf)) ?_
  refine RL.val rfl (ex_add (by conv => lhs; whnf) (by conv => lhs; whnf) (wrap_i64 (by omega) (by omega))) ?_
  refine RL.val rfl (ex_assign (by conv => lhs; whnf)) ?_
  refine RL.nil ?_
  refine WP.ret ?_
  repeat (first | refine thenQ_ret ?_ | refine blockQ_ret ?_)
  exact bodyQ_tmp rfl ⟨rfl, rfl⟩
end Go.Proofs.YbulknocFmt
